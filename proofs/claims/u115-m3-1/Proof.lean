import JvmDerived
import JvmDerived.Pilot.@@N@@Statement
import JvmDerived.Pilot.@@N@@Code
set_option linter.unusedVariables false
set_option linter.unusedSimpArgs false
namespace Jvm.RoadKit
open Sem ClassFile Op Lib Jvm.Stand Jvm.Free Jvm.LawKit
section New
variable {p : Program} {l : Launch} {e : Env} {R : Room} {s : State} {m : MethodId} {args : Array Value} {below : List Frame} {meth : Method} {c : Code} {T : State} {locs : List Loc} {cells slots : Nat}
theorem retI (X : Stand p l e R s m args below meth c T locs cells slots) (hx : p.tables.exec = Jvm.exec) {pc : Nat} {Ls : Array Slot} {z : Int32} {rest : List Value} (hret : meth.sig.returnType = some .int) (hd : decode c.code pc = .ok (.ireturn, 1)) {fs : List Frame}
    (hl : ∀ (f : JFrame) (acts : List Action), f.method = m → f.locked = none → f.entered = [] → (doReturn e (T.setTop f) acts (some (.int z))).1 = T.setFrames fs) : Steps p.tables e below (T.setTop (mkF m pc Ls (.int z :: rest))) (T.setFrames fs) := by
  have hm' : T.vm.method? m = some meth := X.method'
  have hn : narrow .int (.int z) = .int z := rfl
  show Steps p.tables e below (T.setTop { method := m, pc := pc, locals := Ls, stack := _ :: rest, locked := none }) _
  jvm_step X.here [X.here.top, hx, hd, hm', hret, hn]
  first | (intro acts; rw [hl _ acts rfl rfl rfl]) | rw [hl _ _ rfl rfl rfl]
  exact Steps.refl _
end New
end Jvm.RoadKit
namespace Jvm.Pilot.@@N@@
open Jvm Jvm.ClassFile Sem Op Lib Jvm.Free Jvm.Stand Jvm.LawKit Jvm.RoadKit Bundle Jvm.Pilot.@@N@@.Jvm.D
def QL (n0 : Nat) (v : Option Value) (h : Heap) (L : List Loc) : Prop := v = some (.int 1) ∧ Fr n0 L
theorem own_fldI {s : State} {args : Array Value} {t : Term} {C n d : String} {a : Addr} {k : Int32} (ht : t.eval args s none [] s = some (.ref a)) (h : (Jvm.Cond.eq (.field t C n d) (.int k)).value args s none s [] = some true) : Fld s s.heap a C n d (.int k) := by
  obtain ⟨x, y, e1, e2, k1, k2⟩ := cmp_v (Or.inl h)
  cases (Term.int_eval k).symm.trans e2
  obtain ⟨z, rfl⟩ := k2
  have e3 := e1
  rw [fld_at ht] at e3
  have q : (Jvm.Cond.eq (.field t C n d) (.int k)).value args s none s [] = some (decide (z = k)) := by simp [Cond.value, e1, Term.int_eval]
  rw [q] at h
  have hz : z = k := by simpa using h
  subst hz; exact Fld.start e3
theorem own_fldN {s : State} {args : Array Value} {t : Term} {C n d : String} {a : Addr} (ht : t.eval args s none [] s = some (.ref a)) (h : (Jvm.Cond.eq (.field t C n d) .null).value args s none s [] = some true) : Fld s s.heap a C n d .null :=
  Fld.start ((fld_at ht).symm.trans (null_v h))
theorem own_fldR {s : State} {args : Array Value} {t u : Term} {C n d : String} {a b : Addr} (ht : t.eval args s none [] s = some (.ref a)) (hu : u.eval args s none [] s = some (.ref b)) (h : (Jvm.Cond.eq (.field t C n d) u).value args s none s [] = some true) : Fld s s.heap a C n d (.ref b) := by
  obtain ⟨x, y, e1, e2, k1, k2⟩ := cmp_v (Or.inl h)
  cases hu.symm.trans e2
  have e3 := e1
  rw [fld_at ht] at e3
  have hx : x.isRef = true := k2.2
  have q := eq_R e1 hu hx rfl
  rw [q] at h
  have hz : x = .ref b := by simpa using h
  subst hz; exact Fld.start e3
def OwnEnv (Z : State) (a_NONE a_TO a_BOTH a_FROM : Addr) : Prop := Sta Z Z.heap "com/example/carbonfold/carbonfold/model/RosterItem$Subscription" "NONE" "Lcom/example/carbonfold/carbonfold/model/RosterItem$Subscription;" (.ref a_NONE) ∧ Exa Z Z.heap a_NONE "com/example/carbonfold/carbonfold/model/RosterItem$Subscription" ∧ Sta Z Z.heap "com/example/carbonfold/carbonfold/model/RosterItem$Subscription" "TO" "Lcom/example/carbonfold/carbonfold/model/RosterItem$Subscription;" (.ref a_TO) ∧ Exa Z Z.heap a_TO "com/example/carbonfold/carbonfold/model/RosterItem$Subscription" ∧ Sta Z Z.heap "com/example/carbonfold/carbonfold/model/RosterItem$Subscription" "BOTH" "Lcom/example/carbonfold/carbonfold/model/RosterItem$Subscription;" (.ref a_BOTH) ∧ Exa Z Z.heap a_BOTH "com/example/carbonfold/carbonfold/model/RosterItem$Subscription" ∧ Sta Z Z.heap "com/example/carbonfold/carbonfold/model/RosterItem$Subscription" "FROM" "Lcom/example/carbonfold/carbonfold/model/RosterItem$Subscription;" (.ref a_FROM) ∧ Exa Z Z.heap a_FROM "com/example/carbonfold/carbonfold/model/RosterItem$Subscription" ∧ Fld Z Z.heap a_NONE "java/lang/Enum" "ordinal" "I" (.int (0 : Int32)) ∧ Fld Z Z.heap a_TO "java/lang/Enum" "ordinal" "I" (.int (1 : Int32)) ∧ Fld Z Z.heap a_BOTH "java/lang/Enum" "ordinal" "I" (.int (3 : Int32)) ∧ Fld Z Z.heap a_FROM "java/lang/Enum" "ordinal" "I" (.int (2 : Int32))
theorem own_b (x : Int32) : (x &&& (1 : Int32)) = (0 : Int32) ∨ (x &&& (1 : Int32)) = (1 : Int32) := by
  have h1 := c_mask x 1 1 (by decide) (by decide)
  simp only [← Int32.toInt_inj]
  have e0 : (0 : Int32).toInt = 0 := rfl
  have e1 : (1 : Int32).toInt = 1 := rfl
  omega
theorem own_k (x : Int32) : (x &&& (3 : Int32)) = (0 : Int32) ∨ (x &&& (3 : Int32)) = (1 : Int32) ∨ (x &&& (3 : Int32)) = (2 : Int32) ∨ (x &&& (3 : Int32)) = (3 : Int32) := by
  have h1 := c_mask x 3 2 (by decide) (by decide)
  simp only [← Int32.toInt_inj]
  have e0 : (0 : Int32).toInt = 0 := rfl
  have e1 : (1 : Int32).toInt = 1 := rfl
  have e2 : (2 : Int32).toInt = 2 := rfl
  have e3 : (3 : Int32).toInt = 3 := rfl
  omega
theorem own_k2 {x c d : Int32} (h : (x &&& (3 : Int32)) = c) (hd : (c &&& (2 : Int32)) = d) : (x &&& (2 : Int32)) = d := by
  rw [← hd, ← h, Int32.and_assoc]; rfl
theorem own_c (x : Int32) : (x &&& (2 : Int32)) = (0 : Int32) ∨ (x &&& (2 : Int32)) = (2 : Int32) := by
  rcases own_k x with h | h | h | h
  · exact Or.inl (own_k2 h rfl)
  · exact Or.inl (own_k2 h rfl)
  · exact Or.inr (own_k2 h rfl)
  · exact Or.inr (own_k2 h rfl)
def Q_rm_hasTo_1 (a_NONE a_TO a_BOTH a_FROM : Addr) (h0 : Heap) (n0 : Nat) (v : Option Value) (h : Heap) (L : List Loc) : Prop := v = some (.int (0 : Int32)) ∧ Fr n0 L ∧ h = h0
theorem pn_0 : plainName "com/example/carbonfold/carbonfold/model/SubscriptionHasToPinLaw" = true := by first | (simp [plainName, overriddenIn]; done) | decide +kernel
theorem ef_0 (m : MethodId) (x0 : Int32) (x1 : Int32) : entryFrame m #[(.int x0), (.int x1)] maxLocals = mkF m 0 #[.val (.int x0), .val (.int x1), .unset, .unset, .unset, .unset, .unset, .unset] [] := by first | (simp [entryFrame, mkF, argsToLocals, Value.category, maxLocals]; done) | rfl
theorem pn_1 : plainName "com/example/carbonfold/carbonfold/model/RosterItem$Subscription" = true := by first | (simp [plainName, overriddenIn]; done) | decide +kernel
theorem ef_1 (m : MethodId) (x0 : Addr) : entryFrame m #[(.ref x0)] 1 = mkF m 0 #[.val (.ref x0)] [] := by first | (simp [entryFrame, mkF, argsToLocals, Value.category]; done) | rfl
theorem dc0_0 : decode prog_67_method_5_code 0 = .ok (.aload_n 0, 1) := by decide +kernel
theorem dc0_1 : decode prog_67_method_5_code 1 = .ok (.getstatic 7, 3) := by decide +kernel
theorem dc0_4 : decode prog_67_method_5_code 4 = .ok (.if_acmp .eq 10, 3) := by decide +kernel
theorem dc0_7 : decode prog_67_method_5_code 7 = .ok (.aload_n 0, 1) := by decide +kernel
theorem dc0_8 : decode prog_67_method_5_code 8 = .ok (.getstatic 13, 3) := by decide +kernel
theorem dc0_11 : decode prog_67_method_5_code 11 = .ok (.if_acmp .ne 7, 3) := by decide +kernel
theorem dc0_18 : decode prog_67_method_5_code 18 = .ok (.iconst 0, 1) := by decide +kernel
theorem dc0_19 : decode prog_67_method_5_code 19 = .ok (.ireturn, 1) := by decide +kernel
set_option maxRecDepth 65536 in
set_option maxHeartbeats 40000000 in
theorem rm_hasTo_1 (l : Launch) (Z : State) (a0 : Array Value) (hw : ∀ d ∈ tables_1, d.before a0 Z = true) (ws : List Jvm.Cond) (a_NONE a_TO a_BOTH a_FROM : Addr) (h0 : Heap) (n0 : Nat) (O0 : Old Z n0 h0) (En : OwnEnv Z a_NONE a_TO a_BOTH a_FROM) :
    MetFree l (⟨"com/example/carbonfold/carbonfold/model/RosterItem$Subscription", "hasTo", "()Z"⟩ : MethodName) (head1 (Jvm.Cond.code (⟨"com/example/carbonfold/carbonfold/model/RosterItem$Subscription", "hasTo", "()Z"⟩ : MethodName) prog_67_method_5_code 1 (some .boolean) :: ws) ({ frames := 0, cells := 0, slots := 0, locals := 0 } : Room)) (fun a U => a = #[(.ref a_NONE)] ∧ Z.Warmed39 U.vm ∧ U.heap = h0) (fun _ _ _ _ _ => True) (fun _ U o U' => ∃ v L, o = .returned v ∧ Q_rm_hasTo_1 a_NONE a_TO a_BOTH a_FROM h0 n0 v U'.heap L ∧ FrameEnd U o U' L ({ frames := 0, cells := 0, slots := 0, locals := 0 } : Room).cells ({ frames := 0, cells := 0, slots := 0, locals := 0 } : Room).slots) := by
  refine MetFree.of_bodySF (plainFor_of_name pn_1) hisR ?_
  intro p e s m args below meth c s₁ Bd hml0 hP hK
  obtain ⟨rfl, hZ, hh⟩ := hP
  have hx := Bd.exec
  have hby := Bd.bytes
  have hml : c.maxLocals = 1 := hml0
  have hown : s.vm.findClass "com/example/carbonfold/carbonfold/model/RosterItem$Subscription" = some m.cls := findClass_of_methodNamed Bd.named
  have hnm := (name_of_methodNamed Bd.named Bd.method).1
  have X0 : Stand p l e ({ frames := 0, cells := 0, slots := 0, locals := 0 } : Room) s m #[(.ref a_NONE)] below meth c s₁ [] 0 0 := Stand.of_body Bd
  have e0 : s₁.heap = h0 := by rw [← hh, Bd.state]; rfl
  have N0 := Fr.nil n0
  have pre0 : ∀ t, Steps p.tables e below (s₁.setTop (mkF m 0 #[.val (.ref a_NONE)] [])) t → Steps p.tables e below (s₁.setTop (entryFrame m #[(.ref a_NONE)] 1)) t := fun t k => castTop (ef_1 m a_NONE) k
  obtain ⟨S_a_NONE, X_a_NONE, S_a_TO, X_a_TO, S_a_BOTH, X_a_BOTH, S_a_FROM, X_a_FROM, F_a_NONE_ordinal, F_a_TO_ordinal, F_a_BOTH_ordinal, F_a_FROM_ordinal⟩ := id En
  obtain ⟨T1, X1, e1, st1⟩ := getS2 X0 hx hZ hown (host := "") (Or.inl (hw _ (List.mem_of_getElem? (i := 9) rfl))) Via.refl e0 (Sta.ext O0.2 S_a_TO) (g := (mkF m 1 #[.val (.ref a_NONE)] [(.ref a_NONE)])) rfl (hb hby dc0_1)
  obtain ⟨T2, X2, e2, st2⟩ := getS2 X1 hx hZ hown (host := "") (Or.inl (hw _ (List.mem_of_getElem? (i := 11) rfl))) Via.refl e1 (Sta.ext O0.2 S_a_BOTH) (g := (mkF m 8 #[.val (.ref a_NONE)] [(.ref a_NONE)])) rfl (hb hby dc0_8)
  obtain ⟨fs, hr, hrun, hended, hW, hsame⟩ := X2.leave (v := some (.int (0 : Int32))) (fun h => by rw [Bd.returns] at h; cases h)
  refine ⟨_, _, pre0 _ ?_, hrun, hended, _, _, rfl, ?_, ⟨_, rfl⟩, hW, hsame.mono (by decide) (by decide)⟩
  · skip
    show Steps p.tables e below (s₁.setTop (mkF m 0 #[.val (.ref a_NONE)] [])) _
    refine XS.aloadN X0.here hx rfl (hb hby dc0_0) rfl rfl ?_
    show Steps p.tables e below (s₁.setTop (mkF m 1 #[.val (.ref a_NONE)] [(.ref a_NONE)])) _
    refine st1 _ ?_
    show Steps p.tables e below (T1.setTop (mkF m 4 #[.val (.ref a_NONE)] [(.ref a_TO), (.ref a_NONE)])) _
    refine Jvm.RoadKit.acmp (g := (mkF m 4 #[.val (.ref a_NONE)] [(.ref a_TO), (.ref a_NONE)])) X1 hx rfl rfl rfl (pc0 := 4) (pc' := 7) (same := false) rfl (hb hby dc0_4) rfl (decide_eq_false fun q => (Fld.ne F_a_NONE_ordinal F_a_TO_ordinal (by simp)) (Value.ref.inj q)) (by decide) (by decide) ?_
    show Steps p.tables e below (T1.setTop (mkF m 7 #[.val (.ref a_NONE)] [])) _
    refine XS.aloadN X1.here hx rfl (hb hby dc0_7) rfl rfl ?_
    show Steps p.tables e below (T1.setTop (mkF m 8 #[.val (.ref a_NONE)] [(.ref a_NONE)])) _
    refine st2 _ ?_
    show Steps p.tables e below (T2.setTop (mkF m 11 #[.val (.ref a_NONE)] [(.ref a_BOTH), (.ref a_NONE)])) _
    refine Jvm.RoadKit.acmp (g := (mkF m 11 #[.val (.ref a_NONE)] [(.ref a_BOTH), (.ref a_NONE)])) X2 hx rfl rfl rfl (pc0 := 11) (pc' := 18) (same := false) rfl (hb hby dc0_11) rfl (decide_eq_false fun q => (Fld.ne F_a_NONE_ordinal F_a_BOTH_ordinal (by simp)) (Value.ref.inj q)) (by decide) (by decide) ?_
    show Steps p.tables e below (T2.setTop (mkF m 18 #[.val (.ref a_NONE)] [])) _
    refine XS.iconst X2.here hx rfl (hb hby dc0_18) ?_
    show Steps p.tables e below (T2.setTop (mkF m 19 #[.val (.ref a_NONE)] [(.int (0 : Int32))])) _
    exact retN X2 hx (t := .boolean) Bd.returns (by simp) (hb hby dc0_19) hr
  · show Q_rm_hasTo_1 a_NONE a_TO a_BOTH a_FROM h0 n0 _ T2.heap _
    rw [e2]
    exact ⟨rfl, N0, rfl⟩
def Q_rm_hasFrom_3 (a_NONE a_TO a_BOTH a_FROM : Addr) (h0 : Heap) (n0 : Nat) (v : Option Value) (h : Heap) (L : List Loc) : Prop := v = some (.int (0 : Int32)) ∧ Fr n0 L ∧ h = h0
theorem pd_0 : parseMethodDescriptor "()Z" = some ⟨[], some .boolean⟩ := by decide +kernel
theorem ef_2 (m : MethodId) (x0 : Addr) (x1 : Int32) : entryFrame m #[(.ref x0), (.int x1)] 2 = mkF m 0 #[.val (.ref x0), .val (.int x1)] [] := by first | (simp [entryFrame, mkF, argsToLocals, Value.category]; done) | rfl
theorem dc1_0 : decode prog_67_method_7_code 0 = .ok (.iload_n 1, 1) := by decide +kernel
theorem dc1_1 : decode prog_67_method_7_code 1 = .ok (.aload_n 0, 1) := by decide +kernel
theorem dc1_2 : decode prog_67_method_7_code 2 = .ok (.invokevirtual 51, 3) := by decide +kernel
theorem dc2_0 : decode prog_67_method_6_code 0 = .ok (.aload_n 0, 1) := by decide +kernel
theorem dc2_1 : decode prog_67_method_6_code 1 = .ok (.getstatic 10, 3) := by decide +kernel
theorem dc2_4 : decode prog_67_method_6_code 4 = .ok (.if_acmp .eq 10, 3) := by decide +kernel
theorem dc2_7 : decode prog_67_method_6_code 7 = .ok (.aload_n 0, 1) := by decide +kernel
theorem dc2_8 : decode prog_67_method_6_code 8 = .ok (.getstatic 13, 3) := by decide +kernel
theorem dc2_11 : decode prog_67_method_6_code 11 = .ok (.if_acmp .ne 7, 3) := by decide +kernel
theorem dc2_18 : decode prog_67_method_6_code 18 = .ok (.iconst 0, 1) := by decide +kernel
theorem dc2_19 : decode prog_67_method_6_code 19 = .ok (.ireturn, 1) := by decide +kernel
set_option maxRecDepth 65536 in
set_option maxHeartbeats 40000000 in
theorem rm_hasFrom_3 (l : Launch) (Z : State) (a0 : Array Value) (hw : ∀ d ∈ tables_1, d.before a0 Z = true) (ws : List Jvm.Cond) (a_NONE a_TO a_BOTH a_FROM : Addr) (h0 : Heap) (n0 : Nat) (O0 : Old Z n0 h0) (En : OwnEnv Z a_NONE a_TO a_BOTH a_FROM) :
    MetFree l (⟨"com/example/carbonfold/carbonfold/model/RosterItem$Subscription", "hasFrom", "()Z"⟩ : MethodName) (head1 (Jvm.Cond.code (⟨"com/example/carbonfold/carbonfold/model/RosterItem$Subscription", "hasFrom", "()Z"⟩ : MethodName) prog_67_method_6_code 1 (some .boolean) :: ws) ({ frames := 0, cells := 0, slots := 0, locals := 0 } : Room)) (fun a U => a = #[(.ref a_NONE)] ∧ Z.Warmed39 U.vm ∧ U.heap = h0) (fun _ _ _ _ _ => True) (fun _ U o U' => ∃ v L, o = .returned v ∧ Q_rm_hasFrom_3 a_NONE a_TO a_BOTH a_FROM h0 n0 v U'.heap L ∧ FrameEnd U o U' L ({ frames := 0, cells := 0, slots := 0, locals := 0 } : Room).cells ({ frames := 0, cells := 0, slots := 0, locals := 0 } : Room).slots) := by
  refine MetFree.of_bodySF (plainFor_of_name pn_1) hisR ?_
  intro p e s m args below meth c s₁ Bd hml0 hP hK
  obtain ⟨rfl, hZ, hh⟩ := hP
  have hx := Bd.exec
  have hby := Bd.bytes
  have hml : c.maxLocals = 1 := hml0
  have hown : s.vm.findClass "com/example/carbonfold/carbonfold/model/RosterItem$Subscription" = some m.cls := findClass_of_methodNamed Bd.named
  have hnm := (name_of_methodNamed Bd.named Bd.method).1
  have X0 : Stand p l e ({ frames := 0, cells := 0, slots := 0, locals := 0 } : Room) s m #[(.ref a_NONE)] below meth c s₁ [] 0 0 := Stand.of_body Bd
  have e0 : s₁.heap = h0 := by rw [← hh, Bd.state]; rfl
  have N0 := Fr.nil n0
  have pre0 : ∀ t, Steps p.tables e below (s₁.setTop (mkF m 0 #[.val (.ref a_NONE)] [])) t → Steps p.tables e below (s₁.setTop (entryFrame m #[(.ref a_NONE)] 1)) t := fun t k => castTop (ef_1 m a_NONE) k
  obtain ⟨S_a_NONE, X_a_NONE, S_a_TO, X_a_TO, S_a_BOTH, X_a_BOTH, S_a_FROM, X_a_FROM, F_a_NONE_ordinal, F_a_TO_ordinal, F_a_BOTH_ordinal, F_a_FROM_ordinal⟩ := id En
  obtain ⟨T1, X1, e1, st1⟩ := getS2 X0 hx hZ hown (host := "") (Or.inl (hw _ (List.mem_of_getElem? (i := 23) rfl))) Via.refl e0 (Sta.ext O0.2 S_a_FROM) (g := (mkF m 1 #[.val (.ref a_NONE)] [(.ref a_NONE)])) rfl (hb hby dc2_1)
  obtain ⟨T2, X2, e2, st2⟩ := getS2 X1 hx hZ hown (host := "") (Or.inl (hw _ (List.mem_of_getElem? (i := 11) rfl))) Via.refl e1 (Sta.ext O0.2 S_a_BOTH) (g := (mkF m 8 #[.val (.ref a_NONE)] [(.ref a_NONE)])) rfl (hb hby dc2_8)
  obtain ⟨fs, hr, hrun, hended, hW, hsame⟩ := X2.leave (v := some (.int (0 : Int32))) (fun h => by rw [Bd.returns] at h; cases h)
  refine ⟨_, _, pre0 _ ?_, hrun, hended, _, _, rfl, ?_, ⟨_, rfl⟩, hW, hsame.mono (by decide) (by decide)⟩
  · skip
    show Steps p.tables e below (s₁.setTop (mkF m 0 #[.val (.ref a_NONE)] [])) _
    refine XS.aloadN X0.here hx rfl (hb hby dc2_0) rfl rfl ?_
    show Steps p.tables e below (s₁.setTop (mkF m 1 #[.val (.ref a_NONE)] [(.ref a_NONE)])) _
    refine st1 _ ?_
    show Steps p.tables e below (T1.setTop (mkF m 4 #[.val (.ref a_NONE)] [(.ref a_FROM), (.ref a_NONE)])) _
    refine Jvm.RoadKit.acmp (g := (mkF m 4 #[.val (.ref a_NONE)] [(.ref a_FROM), (.ref a_NONE)])) X1 hx rfl rfl rfl (pc0 := 4) (pc' := 7) (same := false) rfl (hb hby dc2_4) rfl (decide_eq_false fun q => (Fld.ne F_a_NONE_ordinal F_a_FROM_ordinal (by simp)) (Value.ref.inj q)) (by decide) (by decide) ?_
    show Steps p.tables e below (T1.setTop (mkF m 7 #[.val (.ref a_NONE)] [])) _
    refine XS.aloadN X1.here hx rfl (hb hby dc2_7) rfl rfl ?_
    show Steps p.tables e below (T1.setTop (mkF m 8 #[.val (.ref a_NONE)] [(.ref a_NONE)])) _
    refine st2 _ ?_
    show Steps p.tables e below (T2.setTop (mkF m 11 #[.val (.ref a_NONE)] [(.ref a_BOTH), (.ref a_NONE)])) _
    refine Jvm.RoadKit.acmp (g := (mkF m 11 #[.val (.ref a_NONE)] [(.ref a_BOTH), (.ref a_NONE)])) X2 hx rfl rfl rfl (pc0 := 11) (pc' := 18) (same := false) rfl (hb hby dc2_11) rfl (decide_eq_false fun q => (Fld.ne F_a_NONE_ordinal F_a_BOTH_ordinal (by simp)) (Value.ref.inj q)) (by decide) (by decide) ?_
    show Steps p.tables e below (T2.setTop (mkF m 18 #[.val (.ref a_NONE)] [])) _
    refine XS.iconst X2.here hx rfl (hb hby dc2_18) ?_
    show Steps p.tables e below (T2.setTop (mkF m 19 #[.val (.ref a_NONE)] [(.int (0 : Int32))])) _
    exact retN X2 hx (t := .boolean) Bd.returns (by simp) (hb hby dc2_19) hr
  · show Q_rm_hasFrom_3 a_NONE a_TO a_BOTH a_FROM h0 n0 _ T2.heap _
    rw [e2]
    exact ⟨rfl, N0, rfl⟩
def Q_rm_combined_4 (a_NONE a_TO a_BOTH a_FROM : Addr) (h0 : Heap) (n0 : Nat) (v : Option Value) (h : Heap) (L : List Loc) : Prop := v = some (.ref a_NONE) ∧ Fr n0 L ∧ h = h0
theorem dc1_5 : decode prog_67_method_7_code 5 = .ok (.invokestatic 55, 3) := by decide +kernel
theorem ef_3 (m : MethodId) (x0 : Int32) (x1 : Int32) : entryFrame m #[(.int x0), (.int x1)] 2 = mkF m 0 #[.val (.int x0), .val (.int x1)] [] := by first | (simp [entryFrame, mkF, argsToLocals, Value.category]; done) | rfl
theorem dc3_0 : decode prog_67_method_9_code 0 = .ok (.iload_n 0, 1) := by decide +kernel
theorem dc3_1 : decode prog_67_method_9_code 1 = .ok (.ifCond .eq 17, 3) := by decide +kernel
theorem dc3_18 : decode prog_67_method_9_code 18 = .ok (.iload_n 1, 1) := by decide +kernel
theorem dc3_19 : decode prog_67_method_9_code 19 = .ok (.ifCond .eq 9, 3) := by decide +kernel
theorem dc3_28 : decode prog_67_method_9_code 28 = .ok (.getstatic 3, 3) := by decide +kernel
theorem dc3_31 : decode prog_67_method_9_code 31 = .ok (.areturn, 1) := by decide +kernel
set_option maxRecDepth 65536 in
set_option maxHeartbeats 40000000 in
theorem rm_combined_4 (l : Launch) (Z : State) (a0 : Array Value) (hw : ∀ d ∈ tables_1, d.before a0 Z = true) (ws : List Jvm.Cond) (a_NONE a_TO a_BOTH a_FROM : Addr) (h0 : Heap) (n0 : Nat) (O0 : Old Z n0 h0) (En : OwnEnv Z a_NONE a_TO a_BOTH a_FROM) :
    MetFree l (⟨"com/example/carbonfold/carbonfold/model/RosterItem$Subscription", "combined", "(ZZ)Lcom/example/carbonfold/carbonfold/model/RosterItem$Subscription;"⟩ : MethodName) (head1 (Jvm.Cond.code (⟨"com/example/carbonfold/carbonfold/model/RosterItem$Subscription", "combined", "(ZZ)Lcom/example/carbonfold/carbonfold/model/RosterItem$Subscription;"⟩ : MethodName) prog_67_method_9_code 2 (some (.object "com/example/carbonfold/carbonfold/model/RosterItem$Subscription")) :: ws) ({ frames := 0, cells := 0, slots := 0, locals := 0 } : Room)) (fun a U => a = #[(.int (0 : Int32)), (.int (0 : Int32))] ∧ Z.Warmed39 U.vm ∧ U.heap = h0) (fun _ _ _ _ _ => True) (fun _ U o U' => ∃ v L, o = .returned v ∧ Q_rm_combined_4 a_NONE a_TO a_BOTH a_FROM h0 n0 v U'.heap L ∧ FrameEnd U o U' L ({ frames := 0, cells := 0, slots := 0, locals := 0 } : Room).cells ({ frames := 0, cells := 0, slots := 0, locals := 0 } : Room).slots) := by
  refine MetFree.of_bodySF (plainFor_of_name pn_1) hisR ?_
  intro p e s m args below meth c s₁ Bd hml0 hP hK
  obtain ⟨rfl, hZ, hh⟩ := hP
  have hx := Bd.exec
  have hby := Bd.bytes
  have hml : c.maxLocals = 2 := hml0
  have hown : s.vm.findClass "com/example/carbonfold/carbonfold/model/RosterItem$Subscription" = some m.cls := findClass_of_methodNamed Bd.named
  have hnm := (name_of_methodNamed Bd.named Bd.method).1
  have X0 : Stand p l e ({ frames := 0, cells := 0, slots := 0, locals := 0 } : Room) s m #[(.int (0 : Int32)), (.int (0 : Int32))] below meth c s₁ [] 0 0 := Stand.of_body Bd
  have e0 : s₁.heap = h0 := by rw [← hh, Bd.state]; rfl
  have N0 := Fr.nil n0
  have pre0 : ∀ t, Steps p.tables e below (s₁.setTop (mkF m 0 #[.val (.int (0 : Int32)), .val (.int (0 : Int32))] [])) t → Steps p.tables e below (s₁.setTop (entryFrame m #[(.int (0 : Int32)), (.int (0 : Int32))] 2)) t := fun t k => castTop (ef_3 m (0 : Int32) (0 : Int32)) k
  obtain ⟨S_a_NONE, X_a_NONE, S_a_TO, X_a_TO, S_a_BOTH, X_a_BOTH, S_a_FROM, X_a_FROM, F_a_NONE_ordinal, F_a_TO_ordinal, F_a_BOTH_ordinal, F_a_FROM_ordinal⟩ := id En
  obtain ⟨T1, X1, e1, st1⟩ := getS2 X0 hx hZ hown (host := "") (Or.inl (hw _ (List.mem_of_getElem? (i := 35) rfl))) Via.refl e0 (Sta.ext O0.2 S_a_NONE) (g := (mkF m 28 #[.val (.int (0 : Int32)), .val (.int (0 : Int32))] [])) rfl (hb hby dc3_28)
  obtain ⟨fs, hr, hrun, hended, hW, hsame⟩ := X1.leave (v := some (.ref a_NONE)) (fun h => by rw [Bd.returns] at h; cases h)
  refine ⟨_, _, pre0 _ ?_, hrun, hended, _, _, rfl, ?_, ⟨_, rfl⟩, hW, hsame.mono (by decide) (by decide)⟩
  · skip
    show Steps p.tables e below (s₁.setTop (mkF m 0 #[.val (.int (0 : Int32)), .val (.int (0 : Int32))] [])) _
    refine XS.iloadN X0.here hx rfl (hb hby dc3_0) rfl ?_
    show Steps p.tables e below (s₁.setTop (mkF m 1 #[.val (.int (0 : Int32)), .val (.int (0 : Int32))] [(.int (0 : Int32))])) _
    refine XS.ifYes X0.here hx rfl (pc0 := 1) (pc' := 18) rfl (hb hby dc3_1) rfl (by decide) (by decide) (by decide) ?_
    show Steps p.tables e below (s₁.setTop (mkF m 18 #[.val (.int (0 : Int32)), .val (.int (0 : Int32))] [])) _
    refine XS.iloadN X0.here hx rfl (hb hby dc3_18) rfl ?_
    show Steps p.tables e below (s₁.setTop (mkF m 19 #[.val (.int (0 : Int32)), .val (.int (0 : Int32))] [(.int (0 : Int32))])) _
    refine XS.ifYes X0.here hx rfl (pc0 := 19) (pc' := 28) rfl (hb hby dc3_19) rfl (by decide) (by decide) (by decide) ?_
    show Steps p.tables e below (s₁.setTop (mkF m 28 #[.val (.int (0 : Int32)), .val (.int (0 : Int32))] [])) _
    refine st1 _ ?_
    show Steps p.tables e below (T1.setTop (mkF m 31 #[.val (.int (0 : Int32)), .val (.int (0 : Int32))] [(.ref a_NONE)])) _
    exact retOut X1 hx (t := (.object "com/example/carbonfold/carbonfold/model/RosterItem$Subscription")) Bd.returns rfl (Or.inr (Or.inr (Or.inr (Or.inr ⟨rfl, rfl, rfl⟩)))) (hb hby dc3_31) hr
  · show Q_rm_combined_4 a_NONE a_TO a_BOTH a_FROM h0 n0 _ T1.heap _
    rw [e1]
    exact ⟨rfl, N0, rfl⟩
def Q_rm_withTo_2 (a_NONE a_TO a_BOTH a_FROM : Addr) (h0 : Heap) (n0 : Nat) (v : Option Value) (h : Heap) (L : List Loc) : Prop := v = some (.ref a_NONE) ∧ Fr n0 L ∧ h = h0
theorem pd_1 : parseMethodDescriptor "(ZZ)Lcom/example/carbonfold/carbonfold/model/RosterItem$Subscription;" = some ⟨[.boolean, .boolean], some (.object "com/example/carbonfold/carbonfold/model/RosterItem$Subscription")⟩ := by decide +kernel
theorem dc1_8 : decode prog_67_method_7_code 8 = .ok (.areturn, 1) := by decide +kernel
set_option maxRecDepth 65536 in
set_option maxHeartbeats 40000000 in
theorem rm_withTo_2 (l : Launch) (Z : State) (a0 : Array Value) (hw : ∀ d ∈ tables_1, d.before a0 Z = true) (ws : List Jvm.Cond) (a_NONE a_TO a_BOTH a_FROM : Addr) (h0 : Heap) (n0 : Nat) (O0 : Old Z n0 h0) (En : OwnEnv Z a_NONE a_TO a_BOTH a_FROM) :
    MetFree l (⟨"com/example/carbonfold/carbonfold/model/RosterItem$Subscription", "withTo", "(Z)Lcom/example/carbonfold/carbonfold/model/RosterItem$Subscription;"⟩ : MethodName) (head1 (Jvm.Cond.code (⟨"com/example/carbonfold/carbonfold/model/RosterItem$Subscription", "withTo", "(Z)Lcom/example/carbonfold/carbonfold/model/RosterItem$Subscription;"⟩ : MethodName) prog_67_method_7_code 2 (some (.object "com/example/carbonfold/carbonfold/model/RosterItem$Subscription")) :: ws) ({ frames := 1, cells := 0, slots := 0, locals := 13 } : Room)) (fun a U => a = #[(.ref a_NONE), (.int (0 : Int32))] ∧ Z.Warmed39 U.vm ∧ U.heap = h0) (fun _ _ _ _ _ => True) (fun _ U o U' => ∃ v L, o = .returned v ∧ Q_rm_withTo_2 a_NONE a_TO a_BOTH a_FROM h0 n0 v U'.heap L ∧ FrameEnd U o U' L ({ frames := 1, cells := 0, slots := 0, locals := 13 } : Room).cells ({ frames := 1, cells := 0, slots := 0, locals := 13 } : Room).slots) := by
  refine MetFree.of_bodySF (plainFor_of_name pn_1) hisR ?_
  intro p e s m args below meth c s₁ Bd hml0 hP hK
  obtain ⟨rfl, hZ, hh⟩ := hP
  have hx := Bd.exec
  have hby := Bd.bytes
  have hml : c.maxLocals = 2 := hml0
  have hown : s.vm.findClass "com/example/carbonfold/carbonfold/model/RosterItem$Subscription" = some m.cls := findClass_of_methodNamed Bd.named
  have hnm := (name_of_methodNamed Bd.named Bd.method).1
  have X0 : Stand p l e ({ frames := 1, cells := 0, slots := 0, locals := 13 } : Room) s m #[(.ref a_NONE), (.int (0 : Int32))] below meth c s₁ [] 0 0 := Stand.of_body Bd
  have e0 : s₁.heap = h0 := by rw [← hh, Bd.state]; rfl
  have N0 := Fr.nil n0
  have pre0 : ∀ t, Steps p.tables e below (s₁.setTop (mkF m 0 #[.val (.ref a_NONE), .val (.int (0 : Int32))] [])) t → Steps p.tables e below (s₁.setTop (entryFrame m #[(.ref a_NONE), (.int (0 : Int32))] 2)) t := fun t k => castTop (ef_2 m a_NONE (0 : Int32)) k
  obtain ⟨S_a_NONE, X_a_NONE, S_a_TO, X_a_TO, S_a_BOTH, X_a_BOTH, S_a_FROM, X_a_FROM, F_a_NONE_ordinal, F_a_TO_ordinal, F_a_BOTH_ordinal, F_a_FROM_ordinal⟩ := id En
  obtain ⟨cq1, kq1, q1a, q1b, q1c⟩ := isOf hZ e0 (Exa.ext O0.2 X_a_NONE)
  obtain ⟨_, _, ⟨T1, L1, k1, n1⟩, -, X1, ⟨Lc1, hQ1, l1, y1, z1⟩, st1⟩ := X0.virtualBack hx (y := (⟨"com/example/carbonfold/carbonfold/model/RosterItem$Subscription", "hasFrom", "()Z"⟩ : MethodName)) (z := (⟨"com/example/carbonfold/carbonfold/model/RosterItem$Subscription", "hasFrom", "()Z"⟩ : MethodName)) hown (mvT hZ (hw _ (List.mem_of_getElem? (i := 18) rfl))) (mvT hZ (hw _ (List.mem_of_getElem? (i := 19) rfl))) (notFace_of_selects (args := #[]) (mvT hZ (hw _ (List.mem_of_getElem? (i := 21) rfl)))) (mvT hZ (hw _ (List.mem_of_getElem? (i := 21) rfl))) (mvT hZ (hw _ (List.mem_of_getElem? (i := 20) rfl))) (by decide) (backOf (W := 1) (rm_hasFrom_3 l Z a0 hw [] a_NONE a_TO a_BOTH a_FROM h0 n0 O0 En) hZ (hw _ (List.mem_of_getElem? (i := 22) rfl)) (hw _ (List.mem_of_getElem? (i := 1) rfl)) (by decide) (by decide)) q1a q1c (g := (mkF m 2 #[.val (.ref a_NONE), .val (.int (0 : Int32))] [(.ref a_NONE), (.int (0 : Int32))])) rfl (by rw [hml]; rfl) (Steps.refl _) (argsL := []) (rest := [(.int (0 : Int32))]) (lenOf pd_0 rfl) rfl (by show 2 * 0 + _ ≤ _; exact Nat.le_of_eq rfl) (hb hby dc1_2) (fun _ _ => ⟨rfl, e0, (by decide : 0 + 0 ≤ _), (by decide : 0 + 0 ≤ _)⟩)
  dsimp only [Pt.U, Pt.locs, Pt.cells, Pt.slots] at X1 l1 y1 z1 st1 hQ1
  subst l1 y1 z1
  obtain ⟨rfl, N1q, hh1⟩ := hQ1
  have N1 := Fr.app N0 N1q
  obtain ⟨_, _, ⟨T2, L2, k2, n2⟩, -, X2, ⟨Lc2, hQ2, l2, y2, z2⟩, st2⟩ := Jvm.LawKit.callS X1 hx (y := (⟨"com/example/carbonfold/carbonfold/model/RosterItem$Subscription", "combined", "(ZZ)Lcom/example/carbonfold/carbonfold/model/RosterItem$Subscription;"⟩ : MethodName)) hown (mvT hZ (hw _ (List.mem_of_getElem? (i := 25) rfl))) (mvT hZ (hw _ (List.mem_of_getElem? (i := 26) rfl))) (mvT hZ (hw _ (List.mem_of_getElem? (i := 1) rfl))) (mvT hZ (hw _ (List.mem_of_getElem? (i := 27) rfl))) (by decide) (backOf (W := 0) (rm_combined_4 l Z a0 hw [] a_NONE a_TO a_BOTH a_FROM h0 n0 O0 En) hZ (hw _ (List.mem_of_getElem? (i := 27) rfl)) (hw _ (List.mem_of_getElem? (i := 1) rfl)) (by decide) (by decide)) (g := (mkF m 5 #[.val (.ref a_NONE), .val (.int (0 : Int32))] [(.int (0 : Int32)), (.int (0 : Int32))])) rfl (by rw [hml]; rfl) (argsL := [(.int (0 : Int32)), (.int (0 : Int32))]) (rest := []) (lenOf pd_1 rfl) rfl (by show 2 * 0 + _ ≤ _; exact Nat.le_of_eq rfl) (hb hby dc1_5) (fun _ _ => ⟨rfl, hh1, (by decide : 0 + 0 ≤ _), (by decide : 0 + 0 ≤ _)⟩)
  dsimp only [Pt.U, Pt.locs, Pt.cells, Pt.slots] at X2 l2 y2 z2 st2 hQ2
  subst l2 y2 z2
  obtain ⟨rfl, N2q, hh2⟩ := hQ2
  have N2 := Fr.app N1 N2q
  obtain ⟨fs, hr, hrun, hended, hW, hsame⟩ := X2.leave (v := some (.ref a_NONE)) (fun h => by rw [Bd.returns] at h; cases h)
  refine ⟨_, _, pre0 _ ?_, hrun, hended, _, _, rfl, ?_, ⟨_, rfl⟩, hW, hsame.mono (by decide) (by decide)⟩
  · skip
    show Steps p.tables e below (s₁.setTop (mkF m 0 #[.val (.ref a_NONE), .val (.int (0 : Int32))] [])) _
    refine XS.iloadN X0.here hx rfl (hb hby dc1_0) rfl ?_
    show Steps p.tables e below (s₁.setTop (mkF m 1 #[.val (.ref a_NONE), .val (.int (0 : Int32))] [(.int (0 : Int32))])) _
    refine XS.aloadN X0.here hx rfl (hb hby dc1_1) rfl rfl ?_
    show Steps p.tables e below (s₁.setTop (mkF m 2 #[.val (.ref a_NONE), .val (.int (0 : Int32))] [(.ref a_NONE), (.int (0 : Int32))])) _
    refine st1.trans ?_
    show Steps p.tables e below (T1.setTop (mkF m 5 #[.val (.ref a_NONE), .val (.int (0 : Int32))] [(.int (0 : Int32)), (.int (0 : Int32))])) _
    refine st2 _ ?_
    show Steps p.tables e below (T2.setTop (mkF m 8 #[.val (.ref a_NONE), .val (.int (0 : Int32))] [(.ref a_NONE)])) _
    exact retOut X2 hx (t := (.object "com/example/carbonfold/carbonfold/model/RosterItem$Subscription")) Bd.returns rfl (Or.inr (Or.inr (Or.inr (Or.inr ⟨rfl, rfl, rfl⟩)))) (hb hby dc1_8) hr
  · show Q_rm_withTo_2 a_NONE a_TO a_BOTH a_FROM h0 n0 _ T2.heap _
    rw [hh2]
    exact ⟨rfl, N2, rfl⟩
def Q_rm_withFrom_5 (a_NONE a_TO a_BOTH a_FROM : Addr) (h0 : Heap) (n0 : Nat) (v : Option Value) (h : Heap) (L : List Loc) : Prop := v = some (.ref a_NONE) ∧ Fr n0 L ∧ h = h0
theorem pd_2 : parseMethodDescriptor "(Z)Lcom/example/carbonfold/carbonfold/model/RosterItem$Subscription;" = some ⟨[.boolean], some (.object "com/example/carbonfold/carbonfold/model/RosterItem$Subscription")⟩ := by decide +kernel
theorem dc4_0 : decode prog_67_method_8_code 0 = .ok (.aload_n 0, 1) := by decide +kernel
theorem dc4_1 : decode prog_67_method_8_code 1 = .ok (.invokevirtual 59, 3) := by decide +kernel
theorem dc4_4 : decode prog_67_method_8_code 4 = .ok (.iload_n 1, 1) := by decide +kernel
theorem dc4_5 : decode prog_67_method_8_code 5 = .ok (.invokestatic 55, 3) := by decide +kernel
theorem dc4_8 : decode prog_67_method_8_code 8 = .ok (.areturn, 1) := by decide +kernel
set_option maxRecDepth 65536 in
set_option maxHeartbeats 40000000 in
theorem rm_withFrom_5 (l : Launch) (Z : State) (a0 : Array Value) (hw : ∀ d ∈ tables_1, d.before a0 Z = true) (ws : List Jvm.Cond) (a_NONE a_TO a_BOTH a_FROM : Addr) (h0 : Heap) (n0 : Nat) (O0 : Old Z n0 h0) (En : OwnEnv Z a_NONE a_TO a_BOTH a_FROM) :
    MetFree l (⟨"com/example/carbonfold/carbonfold/model/RosterItem$Subscription", "withFrom", "(Z)Lcom/example/carbonfold/carbonfold/model/RosterItem$Subscription;"⟩ : MethodName) (head1 (Jvm.Cond.code (⟨"com/example/carbonfold/carbonfold/model/RosterItem$Subscription", "withFrom", "(Z)Lcom/example/carbonfold/carbonfold/model/RosterItem$Subscription;"⟩ : MethodName) prog_67_method_8_code 2 (some (.object "com/example/carbonfold/carbonfold/model/RosterItem$Subscription")) :: ws) ({ frames := 1, cells := 0, slots := 0, locals := 13 } : Room)) (fun a U => a = #[(.ref a_NONE), (.int (0 : Int32))] ∧ Z.Warmed39 U.vm ∧ U.heap = h0) (fun _ _ _ _ _ => True) (fun _ U o U' => ∃ v L, o = .returned v ∧ Q_rm_withFrom_5 a_NONE a_TO a_BOTH a_FROM h0 n0 v U'.heap L ∧ FrameEnd U o U' L ({ frames := 1, cells := 0, slots := 0, locals := 13 } : Room).cells ({ frames := 1, cells := 0, slots := 0, locals := 13 } : Room).slots) := by
  refine MetFree.of_bodySF (plainFor_of_name pn_1) hisR ?_
  intro p e s m args below meth c s₁ Bd hml0 hP hK
  obtain ⟨rfl, hZ, hh⟩ := hP
  have hx := Bd.exec
  have hby := Bd.bytes
  have hml : c.maxLocals = 2 := hml0
  have hown : s.vm.findClass "com/example/carbonfold/carbonfold/model/RosterItem$Subscription" = some m.cls := findClass_of_methodNamed Bd.named
  have hnm := (name_of_methodNamed Bd.named Bd.method).1
  have X0 : Stand p l e ({ frames := 1, cells := 0, slots := 0, locals := 13 } : Room) s m #[(.ref a_NONE), (.int (0 : Int32))] below meth c s₁ [] 0 0 := Stand.of_body Bd
  have e0 : s₁.heap = h0 := by rw [← hh, Bd.state]; rfl
  have N0 := Fr.nil n0
  have pre0 : ∀ t, Steps p.tables e below (s₁.setTop (mkF m 0 #[.val (.ref a_NONE), .val (.int (0 : Int32))] [])) t → Steps p.tables e below (s₁.setTop (entryFrame m #[(.ref a_NONE), (.int (0 : Int32))] 2)) t := fun t k => castTop (ef_2 m a_NONE (0 : Int32)) k
  obtain ⟨S_a_NONE, X_a_NONE, S_a_TO, X_a_TO, S_a_BOTH, X_a_BOTH, S_a_FROM, X_a_FROM, F_a_NONE_ordinal, F_a_TO_ordinal, F_a_BOTH_ordinal, F_a_FROM_ordinal⟩ := id En
  obtain ⟨cq1, kq1, q1a, q1b, q1c⟩ := isOf hZ e0 (Exa.ext O0.2 X_a_NONE)
  obtain ⟨_, _, ⟨T1, L1, k1, n1⟩, -, X1, ⟨Lc1, hQ1, l1, y1, z1⟩, st1⟩ := X0.virtualBack hx (y := (⟨"com/example/carbonfold/carbonfold/model/RosterItem$Subscription", "hasTo", "()Z"⟩ : MethodName)) (z := (⟨"com/example/carbonfold/carbonfold/model/RosterItem$Subscription", "hasTo", "()Z"⟩ : MethodName)) hown (mvT hZ (hw _ (List.mem_of_getElem? (i := 33) rfl))) (mvT hZ (hw _ (List.mem_of_getElem? (i := 5) rfl))) (notFace_of_selects (args := #[]) (mvT hZ (hw _ (List.mem_of_getElem? (i := 7) rfl)))) (mvT hZ (hw _ (List.mem_of_getElem? (i := 7) rfl))) (mvT hZ (hw _ (List.mem_of_getElem? (i := 6) rfl))) (by decide) (backOf (W := 0) (rm_hasTo_1 l Z a0 hw [] a_NONE a_TO a_BOTH a_FROM h0 n0 O0 En) hZ (hw _ (List.mem_of_getElem? (i := 8) rfl)) (hw _ (List.mem_of_getElem? (i := 1) rfl)) (by decide) (by decide)) q1a q1c (g := (mkF m 1 #[.val (.ref a_NONE), .val (.int (0 : Int32))] [(.ref a_NONE)])) rfl (by rw [hml]; rfl) (Steps.refl _) (argsL := []) (rest := []) (lenOf pd_0 rfl) rfl (by show 2 * 0 + _ ≤ _; exact Nat.le_of_eq rfl) (hb hby dc4_1) (fun _ _ => ⟨rfl, e0, (by decide : 0 + 0 ≤ _), (by decide : 0 + 0 ≤ _)⟩)
  dsimp only [Pt.U, Pt.locs, Pt.cells, Pt.slots] at X1 l1 y1 z1 st1 hQ1
  subst l1 y1 z1
  obtain ⟨rfl, N1q, hh1⟩ := hQ1
  have N1 := Fr.app N0 N1q
  obtain ⟨_, _, ⟨T2, L2, k2, n2⟩, -, X2, ⟨Lc2, hQ2, l2, y2, z2⟩, st2⟩ := Jvm.LawKit.callS X1 hx (y := (⟨"com/example/carbonfold/carbonfold/model/RosterItem$Subscription", "combined", "(ZZ)Lcom/example/carbonfold/carbonfold/model/RosterItem$Subscription;"⟩ : MethodName)) hown (mvT hZ (hw _ (List.mem_of_getElem? (i := 25) rfl))) (mvT hZ (hw _ (List.mem_of_getElem? (i := 26) rfl))) (mvT hZ (hw _ (List.mem_of_getElem? (i := 1) rfl))) (mvT hZ (hw _ (List.mem_of_getElem? (i := 27) rfl))) (by decide) (backOf (W := 0) (rm_combined_4 l Z a0 hw [] a_NONE a_TO a_BOTH a_FROM h0 n0 O0 En) hZ (hw _ (List.mem_of_getElem? (i := 27) rfl)) (hw _ (List.mem_of_getElem? (i := 1) rfl)) (by decide) (by decide)) (g := (mkF m 5 #[.val (.ref a_NONE), .val (.int (0 : Int32))] [(.int (0 : Int32)), (.int (0 : Int32))])) rfl (by rw [hml]; rfl) (argsL := [(.int (0 : Int32)), (.int (0 : Int32))]) (rest := []) (lenOf pd_1 rfl) rfl (by show 2 * 0 + _ ≤ _; exact Nat.le_of_eq rfl) (hb hby dc4_5) (fun _ _ => ⟨rfl, hh1, (by decide : 0 + 0 ≤ _), (by decide : 0 + 0 ≤ _)⟩)
  dsimp only [Pt.U, Pt.locs, Pt.cells, Pt.slots] at X2 l2 y2 z2 st2 hQ2
  subst l2 y2 z2
  obtain ⟨rfl, N2q, hh2⟩ := hQ2
  have N2 := Fr.app N1 N2q
  obtain ⟨fs, hr, hrun, hended, hW, hsame⟩ := X2.leave (v := some (.ref a_NONE)) (fun h => by rw [Bd.returns] at h; cases h)
  refine ⟨_, _, pre0 _ ?_, hrun, hended, _, _, rfl, ?_, ⟨_, rfl⟩, hW, hsame.mono (by decide) (by decide)⟩
  · skip
    show Steps p.tables e below (s₁.setTop (mkF m 0 #[.val (.ref a_NONE), .val (.int (0 : Int32))] [])) _
    refine XS.aloadN X0.here hx rfl (hb hby dc4_0) rfl rfl ?_
    show Steps p.tables e below (s₁.setTop (mkF m 1 #[.val (.ref a_NONE), .val (.int (0 : Int32))] [(.ref a_NONE)])) _
    refine st1.trans ?_
    show Steps p.tables e below (T1.setTop (mkF m 4 #[.val (.ref a_NONE), .val (.int (0 : Int32))] [(.int (0 : Int32))])) _
    refine XS.iloadN X1.here hx rfl (hb hby dc4_4) rfl ?_
    show Steps p.tables e below (T1.setTop (mkF m 5 #[.val (.ref a_NONE), .val (.int (0 : Int32))] [(.int (0 : Int32)), (.int (0 : Int32))])) _
    refine st2 _ ?_
    show Steps p.tables e below (T2.setTop (mkF m 8 #[.val (.ref a_NONE), .val (.int (0 : Int32))] [(.ref a_NONE)])) _
    exact retOut X2 hx (t := (.object "com/example/carbonfold/carbonfold/model/RosterItem$Subscription")) Bd.returns rfl (Or.inr (Or.inr (Or.inr (Or.inr ⟨rfl, rfl, rfl⟩)))) (hb hby dc4_8) hr
  · show Q_rm_withFrom_5 a_NONE a_TO a_BOTH a_FROM h0 n0 _ T2.heap _
    rw [hh2]
    exact ⟨rfl, N2, rfl⟩
def Q_rm_combined_7 (a_NONE a_TO a_BOTH a_FROM : Addr) (h0 : Heap) (n0 : Nat) (v : Option Value) (h : Heap) (L : List Loc) : Prop := v = some (.ref a_FROM) ∧ Fr n0 L ∧ h = h0
theorem dc3_22 : decode prog_67_method_9_code 22 = .ok (.getstatic 10, 3) := by decide +kernel
theorem dc3_25 : decode prog_67_method_9_code 25 = .ok (.goto 6, 3) := by decide +kernel
set_option maxRecDepth 65536 in
set_option maxHeartbeats 40000000 in
theorem rm_combined_7 (l : Launch) (Z : State) (a0 : Array Value) (hw : ∀ d ∈ tables_1, d.before a0 Z = true) (ws : List Jvm.Cond) (a_NONE a_TO a_BOTH a_FROM : Addr) (h0 : Heap) (n0 : Nat) (O0 : Old Z n0 h0) (En : OwnEnv Z a_NONE a_TO a_BOTH a_FROM) :
    MetFree l (⟨"com/example/carbonfold/carbonfold/model/RosterItem$Subscription", "combined", "(ZZ)Lcom/example/carbonfold/carbonfold/model/RosterItem$Subscription;"⟩ : MethodName) (head1 (Jvm.Cond.code (⟨"com/example/carbonfold/carbonfold/model/RosterItem$Subscription", "combined", "(ZZ)Lcom/example/carbonfold/carbonfold/model/RosterItem$Subscription;"⟩ : MethodName) prog_67_method_9_code 2 (some (.object "com/example/carbonfold/carbonfold/model/RosterItem$Subscription")) :: ws) ({ frames := 0, cells := 0, slots := 0, locals := 0 } : Room)) (fun a U => a = #[(.int (0 : Int32)), (.int (1 : Int32))] ∧ Z.Warmed39 U.vm ∧ U.heap = h0) (fun _ _ _ _ _ => True) (fun _ U o U' => ∃ v L, o = .returned v ∧ Q_rm_combined_7 a_NONE a_TO a_BOTH a_FROM h0 n0 v U'.heap L ∧ FrameEnd U o U' L ({ frames := 0, cells := 0, slots := 0, locals := 0 } : Room).cells ({ frames := 0, cells := 0, slots := 0, locals := 0 } : Room).slots) := by
  refine MetFree.of_bodySF (plainFor_of_name pn_1) hisR ?_
  intro p e s m args below meth c s₁ Bd hml0 hP hK
  obtain ⟨rfl, hZ, hh⟩ := hP
  have hx := Bd.exec
  have hby := Bd.bytes
  have hml : c.maxLocals = 2 := hml0
  have hown : s.vm.findClass "com/example/carbonfold/carbonfold/model/RosterItem$Subscription" = some m.cls := findClass_of_methodNamed Bd.named
  have hnm := (name_of_methodNamed Bd.named Bd.method).1
  have X0 : Stand p l e ({ frames := 0, cells := 0, slots := 0, locals := 0 } : Room) s m #[(.int (0 : Int32)), (.int (1 : Int32))] below meth c s₁ [] 0 0 := Stand.of_body Bd
  have e0 : s₁.heap = h0 := by rw [← hh, Bd.state]; rfl
  have N0 := Fr.nil n0
  have pre0 : ∀ t, Steps p.tables e below (s₁.setTop (mkF m 0 #[.val (.int (0 : Int32)), .val (.int (1 : Int32))] [])) t → Steps p.tables e below (s₁.setTop (entryFrame m #[(.int (0 : Int32)), (.int (1 : Int32))] 2)) t := fun t k => castTop (ef_3 m (0 : Int32) (1 : Int32)) k
  obtain ⟨S_a_NONE, X_a_NONE, S_a_TO, X_a_TO, S_a_BOTH, X_a_BOTH, S_a_FROM, X_a_FROM, F_a_NONE_ordinal, F_a_TO_ordinal, F_a_BOTH_ordinal, F_a_FROM_ordinal⟩ := id En
  obtain ⟨T1, X1, e1, st1⟩ := getS2 X0 hx hZ hown (host := "") (Or.inl (hw _ (List.mem_of_getElem? (i := 23) rfl))) Via.refl e0 (Sta.ext O0.2 S_a_FROM) (g := (mkF m 22 #[.val (.int (0 : Int32)), .val (.int (1 : Int32))] [])) rfl (hb hby dc3_22)
  obtain ⟨fs, hr, hrun, hended, hW, hsame⟩ := X1.leave (v := some (.ref a_FROM)) (fun h => by rw [Bd.returns] at h; cases h)
  refine ⟨_, _, pre0 _ ?_, hrun, hended, _, _, rfl, ?_, ⟨_, rfl⟩, hW, hsame.mono (by decide) (by decide)⟩
  · skip
    show Steps p.tables e below (s₁.setTop (mkF m 0 #[.val (.int (0 : Int32)), .val (.int (1 : Int32))] [])) _
    refine XS.iloadN X0.here hx rfl (hb hby dc3_0) rfl ?_
    show Steps p.tables e below (s₁.setTop (mkF m 1 #[.val (.int (0 : Int32)), .val (.int (1 : Int32))] [(.int (0 : Int32))])) _
    refine XS.ifYes X0.here hx rfl (pc0 := 1) (pc' := 18) rfl (hb hby dc3_1) rfl (by decide) (by decide) (by decide) ?_
    show Steps p.tables e below (s₁.setTop (mkF m 18 #[.val (.int (0 : Int32)), .val (.int (1 : Int32))] [])) _
    refine XS.iloadN X0.here hx rfl (hb hby dc3_18) rfl ?_
    show Steps p.tables e below (s₁.setTop (mkF m 19 #[.val (.int (0 : Int32)), .val (.int (1 : Int32))] [(.int (1 : Int32))])) _
    refine XS.ifNo X0.here hx rfl (hb hby dc3_19) rfl (by decide) ?_
    show Steps p.tables e below (s₁.setTop (mkF m 22 #[.val (.int (0 : Int32)), .val (.int (1 : Int32))] [])) _
    refine st1 _ ?_
    show Steps p.tables e below (T1.setTop (mkF m 25 #[.val (.int (0 : Int32)), .val (.int (1 : Int32))] [(.ref a_FROM)])) _
    refine XS.goto X1.here hx rfl (pc0 := 25) (pc' := 31) rfl (hb hby dc3_25) (by decide) (by decide) ?_
    show Steps p.tables e below (T1.setTop (mkF m 31 #[.val (.int (0 : Int32)), .val (.int (1 : Int32))] [(.ref a_FROM)])) _
    exact retOut X1 hx (t := (.object "com/example/carbonfold/carbonfold/model/RosterItem$Subscription")) Bd.returns rfl (Or.inr (Or.inr (Or.inr (Or.inr ⟨rfl, rfl, rfl⟩)))) (hb hby dc3_31) hr
  · show Q_rm_combined_7 a_NONE a_TO a_BOTH a_FROM h0 n0 _ T1.heap _
    rw [e1]
    exact ⟨rfl, N0, rfl⟩
def Q_rm_withFrom_6 (a_NONE a_TO a_BOTH a_FROM : Addr) (h0 : Heap) (n0 : Nat) (v : Option Value) (h : Heap) (L : List Loc) : Prop := v = some (.ref a_FROM) ∧ Fr n0 L ∧ h = h0
set_option maxRecDepth 65536 in
set_option maxHeartbeats 40000000 in
theorem rm_withFrom_6 (l : Launch) (Z : State) (a0 : Array Value) (hw : ∀ d ∈ tables_1, d.before a0 Z = true) (ws : List Jvm.Cond) (a_NONE a_TO a_BOTH a_FROM : Addr) (h0 : Heap) (n0 : Nat) (O0 : Old Z n0 h0) (En : OwnEnv Z a_NONE a_TO a_BOTH a_FROM) :
    MetFree l (⟨"com/example/carbonfold/carbonfold/model/RosterItem$Subscription", "withFrom", "(Z)Lcom/example/carbonfold/carbonfold/model/RosterItem$Subscription;"⟩ : MethodName) (head1 (Jvm.Cond.code (⟨"com/example/carbonfold/carbonfold/model/RosterItem$Subscription", "withFrom", "(Z)Lcom/example/carbonfold/carbonfold/model/RosterItem$Subscription;"⟩ : MethodName) prog_67_method_8_code 2 (some (.object "com/example/carbonfold/carbonfold/model/RosterItem$Subscription")) :: ws) ({ frames := 1, cells := 0, slots := 0, locals := 13 } : Room)) (fun a U => a = #[(.ref a_NONE), (.int (1 : Int32))] ∧ Z.Warmed39 U.vm ∧ U.heap = h0) (fun _ _ _ _ _ => True) (fun _ U o U' => ∃ v L, o = .returned v ∧ Q_rm_withFrom_6 a_NONE a_TO a_BOTH a_FROM h0 n0 v U'.heap L ∧ FrameEnd U o U' L ({ frames := 1, cells := 0, slots := 0, locals := 13 } : Room).cells ({ frames := 1, cells := 0, slots := 0, locals := 13 } : Room).slots) := by
  refine MetFree.of_bodySF (plainFor_of_name pn_1) hisR ?_
  intro p e s m args below meth c s₁ Bd hml0 hP hK
  obtain ⟨rfl, hZ, hh⟩ := hP
  have hx := Bd.exec
  have hby := Bd.bytes
  have hml : c.maxLocals = 2 := hml0
  have hown : s.vm.findClass "com/example/carbonfold/carbonfold/model/RosterItem$Subscription" = some m.cls := findClass_of_methodNamed Bd.named
  have hnm := (name_of_methodNamed Bd.named Bd.method).1
  have X0 : Stand p l e ({ frames := 1, cells := 0, slots := 0, locals := 13 } : Room) s m #[(.ref a_NONE), (.int (1 : Int32))] below meth c s₁ [] 0 0 := Stand.of_body Bd
  have e0 : s₁.heap = h0 := by rw [← hh, Bd.state]; rfl
  have N0 := Fr.nil n0
  have pre0 : ∀ t, Steps p.tables e below (s₁.setTop (mkF m 0 #[.val (.ref a_NONE), .val (.int (1 : Int32))] [])) t → Steps p.tables e below (s₁.setTop (entryFrame m #[(.ref a_NONE), (.int (1 : Int32))] 2)) t := fun t k => castTop (ef_2 m a_NONE (1 : Int32)) k
  obtain ⟨S_a_NONE, X_a_NONE, S_a_TO, X_a_TO, S_a_BOTH, X_a_BOTH, S_a_FROM, X_a_FROM, F_a_NONE_ordinal, F_a_TO_ordinal, F_a_BOTH_ordinal, F_a_FROM_ordinal⟩ := id En
  obtain ⟨cq1, kq1, q1a, q1b, q1c⟩ := isOf hZ e0 (Exa.ext O0.2 X_a_NONE)
  obtain ⟨_, _, ⟨T1, L1, k1, n1⟩, -, X1, ⟨Lc1, hQ1, l1, y1, z1⟩, st1⟩ := X0.virtualBack hx (y := (⟨"com/example/carbonfold/carbonfold/model/RosterItem$Subscription", "hasTo", "()Z"⟩ : MethodName)) (z := (⟨"com/example/carbonfold/carbonfold/model/RosterItem$Subscription", "hasTo", "()Z"⟩ : MethodName)) hown (mvT hZ (hw _ (List.mem_of_getElem? (i := 33) rfl))) (mvT hZ (hw _ (List.mem_of_getElem? (i := 5) rfl))) (notFace_of_selects (args := #[]) (mvT hZ (hw _ (List.mem_of_getElem? (i := 7) rfl)))) (mvT hZ (hw _ (List.mem_of_getElem? (i := 7) rfl))) (mvT hZ (hw _ (List.mem_of_getElem? (i := 6) rfl))) (by decide) (backOf (W := 0) (rm_hasTo_1 l Z a0 hw [] a_NONE a_TO a_BOTH a_FROM h0 n0 O0 En) hZ (hw _ (List.mem_of_getElem? (i := 8) rfl)) (hw _ (List.mem_of_getElem? (i := 1) rfl)) (by decide) (by decide)) q1a q1c (g := (mkF m 1 #[.val (.ref a_NONE), .val (.int (1 : Int32))] [(.ref a_NONE)])) rfl (by rw [hml]; rfl) (Steps.refl _) (argsL := []) (rest := []) (lenOf pd_0 rfl) rfl (by show 2 * 0 + _ ≤ _; exact Nat.le_of_eq rfl) (hb hby dc4_1) (fun _ _ => ⟨rfl, e0, (by decide : 0 + 0 ≤ _), (by decide : 0 + 0 ≤ _)⟩)
  dsimp only [Pt.U, Pt.locs, Pt.cells, Pt.slots] at X1 l1 y1 z1 st1 hQ1
  subst l1 y1 z1
  obtain ⟨rfl, N1q, hh1⟩ := hQ1
  have N1 := Fr.app N0 N1q
  obtain ⟨_, _, ⟨T2, L2, k2, n2⟩, -, X2, ⟨Lc2, hQ2, l2, y2, z2⟩, st2⟩ := Jvm.LawKit.callS X1 hx (y := (⟨"com/example/carbonfold/carbonfold/model/RosterItem$Subscription", "combined", "(ZZ)Lcom/example/carbonfold/carbonfold/model/RosterItem$Subscription;"⟩ : MethodName)) hown (mvT hZ (hw _ (List.mem_of_getElem? (i := 25) rfl))) (mvT hZ (hw _ (List.mem_of_getElem? (i := 26) rfl))) (mvT hZ (hw _ (List.mem_of_getElem? (i := 1) rfl))) (mvT hZ (hw _ (List.mem_of_getElem? (i := 27) rfl))) (by decide) (backOf (W := 0) (rm_combined_7 l Z a0 hw [] a_NONE a_TO a_BOTH a_FROM h0 n0 O0 En) hZ (hw _ (List.mem_of_getElem? (i := 27) rfl)) (hw _ (List.mem_of_getElem? (i := 1) rfl)) (by decide) (by decide)) (g := (mkF m 5 #[.val (.ref a_NONE), .val (.int (1 : Int32))] [(.int (1 : Int32)), (.int (0 : Int32))])) rfl (by rw [hml]; rfl) (argsL := [(.int (0 : Int32)), (.int (1 : Int32))]) (rest := []) (lenOf pd_1 rfl) rfl (by show 2 * 0 + _ ≤ _; exact Nat.le_of_eq rfl) (hb hby dc4_5) (fun _ _ => ⟨rfl, hh1, (by decide : 0 + 0 ≤ _), (by decide : 0 + 0 ≤ _)⟩)
  dsimp only [Pt.U, Pt.locs, Pt.cells, Pt.slots] at X2 l2 y2 z2 st2 hQ2
  subst l2 y2 z2
  obtain ⟨rfl, N2q, hh2⟩ := hQ2
  have N2 := Fr.app N1 N2q
  obtain ⟨fs, hr, hrun, hended, hW, hsame⟩ := X2.leave (v := some (.ref a_FROM)) (fun h => by rw [Bd.returns] at h; cases h)
  refine ⟨_, _, pre0 _ ?_, hrun, hended, _, _, rfl, ?_, ⟨_, rfl⟩, hW, hsame.mono (by decide) (by decide)⟩
  · skip
    show Steps p.tables e below (s₁.setTop (mkF m 0 #[.val (.ref a_NONE), .val (.int (1 : Int32))] [])) _
    refine XS.aloadN X0.here hx rfl (hb hby dc4_0) rfl rfl ?_
    show Steps p.tables e below (s₁.setTop (mkF m 1 #[.val (.ref a_NONE), .val (.int (1 : Int32))] [(.ref a_NONE)])) _
    refine st1.trans ?_
    show Steps p.tables e below (T1.setTop (mkF m 4 #[.val (.ref a_NONE), .val (.int (1 : Int32))] [(.int (0 : Int32))])) _
    refine XS.iloadN X1.here hx rfl (hb hby dc4_4) rfl ?_
    show Steps p.tables e below (T1.setTop (mkF m 5 #[.val (.ref a_NONE), .val (.int (1 : Int32))] [(.int (1 : Int32)), (.int (0 : Int32))])) _
    refine st2 _ ?_
    show Steps p.tables e below (T2.setTop (mkF m 8 #[.val (.ref a_NONE), .val (.int (1 : Int32))] [(.ref a_FROM)])) _
    exact retOut X2 hx (t := (.object "com/example/carbonfold/carbonfold/model/RosterItem$Subscription")) Bd.returns rfl (Or.inr (Or.inr (Or.inr (Or.inr ⟨rfl, rfl, rfl⟩)))) (hb hby dc4_8) hr
  · show Q_rm_withFrom_6 a_NONE a_TO a_BOTH a_FROM h0 n0 _ T2.heap _
    rw [hh2]
    exact ⟨rfl, N2, rfl⟩
def Q_rm_hasTo_8 (a_NONE a_TO a_BOTH a_FROM : Addr) (h0 : Heap) (n0 : Nat) (v : Option Value) (h : Heap) (L : List Loc) : Prop := v = some (.int (0 : Int32)) ∧ Fr n0 L ∧ h = h0
set_option maxRecDepth 65536 in
set_option maxHeartbeats 40000000 in
theorem rm_hasTo_8 (l : Launch) (Z : State) (a0 : Array Value) (hw : ∀ d ∈ tables_1, d.before a0 Z = true) (ws : List Jvm.Cond) (a_NONE a_TO a_BOTH a_FROM : Addr) (h0 : Heap) (n0 : Nat) (O0 : Old Z n0 h0) (En : OwnEnv Z a_NONE a_TO a_BOTH a_FROM) :
    MetFree l (⟨"com/example/carbonfold/carbonfold/model/RosterItem$Subscription", "hasTo", "()Z"⟩ : MethodName) (head1 (Jvm.Cond.code (⟨"com/example/carbonfold/carbonfold/model/RosterItem$Subscription", "hasTo", "()Z"⟩ : MethodName) prog_67_method_5_code 1 (some .boolean) :: ws) ({ frames := 0, cells := 0, slots := 0, locals := 0 } : Room)) (fun a U => a = #[(.ref a_FROM)] ∧ Z.Warmed39 U.vm ∧ U.heap = h0) (fun _ _ _ _ _ => True) (fun _ U o U' => ∃ v L, o = .returned v ∧ Q_rm_hasTo_8 a_NONE a_TO a_BOTH a_FROM h0 n0 v U'.heap L ∧ FrameEnd U o U' L ({ frames := 0, cells := 0, slots := 0, locals := 0 } : Room).cells ({ frames := 0, cells := 0, slots := 0, locals := 0 } : Room).slots) := by
  refine MetFree.of_bodySF (plainFor_of_name pn_1) hisR ?_
  intro p e s m args below meth c s₁ Bd hml0 hP hK
  obtain ⟨rfl, hZ, hh⟩ := hP
  have hx := Bd.exec
  have hby := Bd.bytes
  have hml : c.maxLocals = 1 := hml0
  have hown : s.vm.findClass "com/example/carbonfold/carbonfold/model/RosterItem$Subscription" = some m.cls := findClass_of_methodNamed Bd.named
  have hnm := (name_of_methodNamed Bd.named Bd.method).1
  have X0 : Stand p l e ({ frames := 0, cells := 0, slots := 0, locals := 0 } : Room) s m #[(.ref a_FROM)] below meth c s₁ [] 0 0 := Stand.of_body Bd
  have e0 : s₁.heap = h0 := by rw [← hh, Bd.state]; rfl
  have N0 := Fr.nil n0
  have pre0 : ∀ t, Steps p.tables e below (s₁.setTop (mkF m 0 #[.val (.ref a_FROM)] [])) t → Steps p.tables e below (s₁.setTop (entryFrame m #[(.ref a_FROM)] 1)) t := fun t k => castTop (ef_1 m a_FROM) k
  obtain ⟨S_a_NONE, X_a_NONE, S_a_TO, X_a_TO, S_a_BOTH, X_a_BOTH, S_a_FROM, X_a_FROM, F_a_NONE_ordinal, F_a_TO_ordinal, F_a_BOTH_ordinal, F_a_FROM_ordinal⟩ := id En
  obtain ⟨T1, X1, e1, st1⟩ := getS2 X0 hx hZ hown (host := "") (Or.inl (hw _ (List.mem_of_getElem? (i := 9) rfl))) Via.refl e0 (Sta.ext O0.2 S_a_TO) (g := (mkF m 1 #[.val (.ref a_FROM)] [(.ref a_FROM)])) rfl (hb hby dc0_1)
  obtain ⟨T2, X2, e2, st2⟩ := getS2 X1 hx hZ hown (host := "") (Or.inl (hw _ (List.mem_of_getElem? (i := 11) rfl))) Via.refl e1 (Sta.ext O0.2 S_a_BOTH) (g := (mkF m 8 #[.val (.ref a_FROM)] [(.ref a_FROM)])) rfl (hb hby dc0_8)
  obtain ⟨fs, hr, hrun, hended, hW, hsame⟩ := X2.leave (v := some (.int (0 : Int32))) (fun h => by rw [Bd.returns] at h; cases h)
  refine ⟨_, _, pre0 _ ?_, hrun, hended, _, _, rfl, ?_, ⟨_, rfl⟩, hW, hsame.mono (by decide) (by decide)⟩
  · skip
    show Steps p.tables e below (s₁.setTop (mkF m 0 #[.val (.ref a_FROM)] [])) _
    refine XS.aloadN X0.here hx rfl (hb hby dc0_0) rfl rfl ?_
    show Steps p.tables e below (s₁.setTop (mkF m 1 #[.val (.ref a_FROM)] [(.ref a_FROM)])) _
    refine st1 _ ?_
    show Steps p.tables e below (T1.setTop (mkF m 4 #[.val (.ref a_FROM)] [(.ref a_TO), (.ref a_FROM)])) _
    refine Jvm.RoadKit.acmp (g := (mkF m 4 #[.val (.ref a_FROM)] [(.ref a_TO), (.ref a_FROM)])) X1 hx rfl rfl rfl (pc0 := 4) (pc' := 7) (same := false) rfl (hb hby dc0_4) rfl (decide_eq_false fun q => (Ne.symm (Fld.ne F_a_TO_ordinal F_a_FROM_ordinal (by simp))) (Value.ref.inj q)) (by decide) (by decide) ?_
    show Steps p.tables e below (T1.setTop (mkF m 7 #[.val (.ref a_FROM)] [])) _
    refine XS.aloadN X1.here hx rfl (hb hby dc0_7) rfl rfl ?_
    show Steps p.tables e below (T1.setTop (mkF m 8 #[.val (.ref a_FROM)] [(.ref a_FROM)])) _
    refine st2 _ ?_
    show Steps p.tables e below (T2.setTop (mkF m 11 #[.val (.ref a_FROM)] [(.ref a_BOTH), (.ref a_FROM)])) _
    refine Jvm.RoadKit.acmp (g := (mkF m 11 #[.val (.ref a_FROM)] [(.ref a_BOTH), (.ref a_FROM)])) X2 hx rfl rfl rfl (pc0 := 11) (pc' := 18) (same := false) rfl (hb hby dc0_11) rfl (decide_eq_false fun q => (Ne.symm (Fld.ne F_a_BOTH_ordinal F_a_FROM_ordinal (by simp))) (Value.ref.inj q)) (by decide) (by decide) ?_
    show Steps p.tables e below (T2.setTop (mkF m 18 #[.val (.ref a_FROM)] [])) _
    refine XS.iconst X2.here hx rfl (hb hby dc0_18) ?_
    show Steps p.tables e below (T2.setTop (mkF m 19 #[.val (.ref a_FROM)] [(.int (0 : Int32))])) _
    exact retN X2 hx (t := .boolean) Bd.returns (by simp) (hb hby dc0_19) hr
  · show Q_rm_hasTo_8 a_NONE a_TO a_BOTH a_FROM h0 n0 _ T2.heap _
    rw [e2]
    exact ⟨rfl, N0, rfl⟩
def Q_rm_combined_10 (a_NONE a_TO a_BOTH a_FROM : Addr) (h0 : Heap) (n0 : Nat) (v : Option Value) (h : Heap) (L : List Loc) : Prop := v = some (.ref a_TO) ∧ Fr n0 L ∧ h = h0
theorem dc3_4 : decode prog_67_method_9_code 4 = .ok (.iload_n 1, 1) := by decide +kernel
theorem dc3_5 : decode prog_67_method_9_code 5 = .ok (.ifCond .eq 9, 3) := by decide +kernel
theorem dc3_14 : decode prog_67_method_9_code 14 = .ok (.getstatic 7, 3) := by decide +kernel
theorem dc3_17 : decode prog_67_method_9_code 17 = .ok (.areturn, 1) := by decide +kernel
set_option maxRecDepth 65536 in
set_option maxHeartbeats 40000000 in
theorem rm_combined_10 (l : Launch) (Z : State) (a0 : Array Value) (hw : ∀ d ∈ tables_1, d.before a0 Z = true) (ws : List Jvm.Cond) (a_NONE a_TO a_BOTH a_FROM : Addr) (h0 : Heap) (n0 : Nat) (O0 : Old Z n0 h0) (En : OwnEnv Z a_NONE a_TO a_BOTH a_FROM) :
    MetFree l (⟨"com/example/carbonfold/carbonfold/model/RosterItem$Subscription", "combined", "(ZZ)Lcom/example/carbonfold/carbonfold/model/RosterItem$Subscription;"⟩ : MethodName) (head1 (Jvm.Cond.code (⟨"com/example/carbonfold/carbonfold/model/RosterItem$Subscription", "combined", "(ZZ)Lcom/example/carbonfold/carbonfold/model/RosterItem$Subscription;"⟩ : MethodName) prog_67_method_9_code 2 (some (.object "com/example/carbonfold/carbonfold/model/RosterItem$Subscription")) :: ws) ({ frames := 0, cells := 0, slots := 0, locals := 0 } : Room)) (fun a U => a = #[(.int (1 : Int32)), (.int (0 : Int32))] ∧ Z.Warmed39 U.vm ∧ U.heap = h0) (fun _ _ _ _ _ => True) (fun _ U o U' => ∃ v L, o = .returned v ∧ Q_rm_combined_10 a_NONE a_TO a_BOTH a_FROM h0 n0 v U'.heap L ∧ FrameEnd U o U' L ({ frames := 0, cells := 0, slots := 0, locals := 0 } : Room).cells ({ frames := 0, cells := 0, slots := 0, locals := 0 } : Room).slots) := by
  refine MetFree.of_bodySF (plainFor_of_name pn_1) hisR ?_
  intro p e s m args below meth c s₁ Bd hml0 hP hK
  obtain ⟨rfl, hZ, hh⟩ := hP
  have hx := Bd.exec
  have hby := Bd.bytes
  have hml : c.maxLocals = 2 := hml0
  have hown : s.vm.findClass "com/example/carbonfold/carbonfold/model/RosterItem$Subscription" = some m.cls := findClass_of_methodNamed Bd.named
  have hnm := (name_of_methodNamed Bd.named Bd.method).1
  have X0 : Stand p l e ({ frames := 0, cells := 0, slots := 0, locals := 0 } : Room) s m #[(.int (1 : Int32)), (.int (0 : Int32))] below meth c s₁ [] 0 0 := Stand.of_body Bd
  have e0 : s₁.heap = h0 := by rw [← hh, Bd.state]; rfl
  have N0 := Fr.nil n0
  have pre0 : ∀ t, Steps p.tables e below (s₁.setTop (mkF m 0 #[.val (.int (1 : Int32)), .val (.int (0 : Int32))] [])) t → Steps p.tables e below (s₁.setTop (entryFrame m #[(.int (1 : Int32)), (.int (0 : Int32))] 2)) t := fun t k => castTop (ef_3 m (1 : Int32) (0 : Int32)) k
  obtain ⟨S_a_NONE, X_a_NONE, S_a_TO, X_a_TO, S_a_BOTH, X_a_BOTH, S_a_FROM, X_a_FROM, F_a_NONE_ordinal, F_a_TO_ordinal, F_a_BOTH_ordinal, F_a_FROM_ordinal⟩ := id En
  obtain ⟨T1, X1, e1, st1⟩ := getS2 X0 hx hZ hown (host := "") (Or.inl (hw _ (List.mem_of_getElem? (i := 9) rfl))) Via.refl e0 (Sta.ext O0.2 S_a_TO) (g := (mkF m 14 #[.val (.int (1 : Int32)), .val (.int (0 : Int32))] [])) rfl (hb hby dc3_14)
  obtain ⟨fs, hr, hrun, hended, hW, hsame⟩ := X1.leave (v := some (.ref a_TO)) (fun h => by rw [Bd.returns] at h; cases h)
  refine ⟨_, _, pre0 _ ?_, hrun, hended, _, _, rfl, ?_, ⟨_, rfl⟩, hW, hsame.mono (by decide) (by decide)⟩
  · skip
    show Steps p.tables e below (s₁.setTop (mkF m 0 #[.val (.int (1 : Int32)), .val (.int (0 : Int32))] [])) _
    refine XS.iloadN X0.here hx rfl (hb hby dc3_0) rfl ?_
    show Steps p.tables e below (s₁.setTop (mkF m 1 #[.val (.int (1 : Int32)), .val (.int (0 : Int32))] [(.int (1 : Int32))])) _
    refine XS.ifNo X0.here hx rfl (hb hby dc3_1) rfl (by decide) ?_
    show Steps p.tables e below (s₁.setTop (mkF m 4 #[.val (.int (1 : Int32)), .val (.int (0 : Int32))] [])) _
    refine XS.iloadN X0.here hx rfl (hb hby dc3_4) rfl ?_
    show Steps p.tables e below (s₁.setTop (mkF m 5 #[.val (.int (1 : Int32)), .val (.int (0 : Int32))] [(.int (0 : Int32))])) _
    refine XS.ifYes X0.here hx rfl (pc0 := 5) (pc' := 14) rfl (hb hby dc3_5) rfl (by decide) (by decide) (by decide) ?_
    show Steps p.tables e below (s₁.setTop (mkF m 14 #[.val (.int (1 : Int32)), .val (.int (0 : Int32))] [])) _
    refine st1 _ ?_
    show Steps p.tables e below (T1.setTop (mkF m 17 #[.val (.int (1 : Int32)), .val (.int (0 : Int32))] [(.ref a_TO)])) _
    exact retOut X1 hx (t := (.object "com/example/carbonfold/carbonfold/model/RosterItem$Subscription")) Bd.returns rfl (Or.inr (Or.inr (Or.inr (Or.inr ⟨rfl, rfl, rfl⟩)))) (hb hby dc3_17) hr
  · show Q_rm_combined_10 a_NONE a_TO a_BOTH a_FROM h0 n0 _ T1.heap _
    rw [e1]
    exact ⟨rfl, N0, rfl⟩
def Q_rm_withTo_9 (a_NONE a_TO a_BOTH a_FROM : Addr) (h0 : Heap) (n0 : Nat) (v : Option Value) (h : Heap) (L : List Loc) : Prop := v = some (.ref a_TO) ∧ Fr n0 L ∧ h = h0
set_option maxRecDepth 65536 in
set_option maxHeartbeats 40000000 in
theorem rm_withTo_9 (l : Launch) (Z : State) (a0 : Array Value) (hw : ∀ d ∈ tables_1, d.before a0 Z = true) (ws : List Jvm.Cond) (a_NONE a_TO a_BOTH a_FROM : Addr) (h0 : Heap) (n0 : Nat) (O0 : Old Z n0 h0) (En : OwnEnv Z a_NONE a_TO a_BOTH a_FROM) :
    MetFree l (⟨"com/example/carbonfold/carbonfold/model/RosterItem$Subscription", "withTo", "(Z)Lcom/example/carbonfold/carbonfold/model/RosterItem$Subscription;"⟩ : MethodName) (head1 (Jvm.Cond.code (⟨"com/example/carbonfold/carbonfold/model/RosterItem$Subscription", "withTo", "(Z)Lcom/example/carbonfold/carbonfold/model/RosterItem$Subscription;"⟩ : MethodName) prog_67_method_7_code 2 (some (.object "com/example/carbonfold/carbonfold/model/RosterItem$Subscription")) :: ws) ({ frames := 1, cells := 0, slots := 0, locals := 13 } : Room)) (fun a U => a = #[(.ref a_NONE), (.int (1 : Int32))] ∧ Z.Warmed39 U.vm ∧ U.heap = h0) (fun _ _ _ _ _ => True) (fun _ U o U' => ∃ v L, o = .returned v ∧ Q_rm_withTo_9 a_NONE a_TO a_BOTH a_FROM h0 n0 v U'.heap L ∧ FrameEnd U o U' L ({ frames := 1, cells := 0, slots := 0, locals := 13 } : Room).cells ({ frames := 1, cells := 0, slots := 0, locals := 13 } : Room).slots) := by
  refine MetFree.of_bodySF (plainFor_of_name pn_1) hisR ?_
  intro p e s m args below meth c s₁ Bd hml0 hP hK
  obtain ⟨rfl, hZ, hh⟩ := hP
  have hx := Bd.exec
  have hby := Bd.bytes
  have hml : c.maxLocals = 2 := hml0
  have hown : s.vm.findClass "com/example/carbonfold/carbonfold/model/RosterItem$Subscription" = some m.cls := findClass_of_methodNamed Bd.named
  have hnm := (name_of_methodNamed Bd.named Bd.method).1
  have X0 : Stand p l e ({ frames := 1, cells := 0, slots := 0, locals := 13 } : Room) s m #[(.ref a_NONE), (.int (1 : Int32))] below meth c s₁ [] 0 0 := Stand.of_body Bd
  have e0 : s₁.heap = h0 := by rw [← hh, Bd.state]; rfl
  have N0 := Fr.nil n0
  have pre0 : ∀ t, Steps p.tables e below (s₁.setTop (mkF m 0 #[.val (.ref a_NONE), .val (.int (1 : Int32))] [])) t → Steps p.tables e below (s₁.setTop (entryFrame m #[(.ref a_NONE), (.int (1 : Int32))] 2)) t := fun t k => castTop (ef_2 m a_NONE (1 : Int32)) k
  obtain ⟨S_a_NONE, X_a_NONE, S_a_TO, X_a_TO, S_a_BOTH, X_a_BOTH, S_a_FROM, X_a_FROM, F_a_NONE_ordinal, F_a_TO_ordinal, F_a_BOTH_ordinal, F_a_FROM_ordinal⟩ := id En
  obtain ⟨cq1, kq1, q1a, q1b, q1c⟩ := isOf hZ e0 (Exa.ext O0.2 X_a_NONE)
  obtain ⟨_, _, ⟨T1, L1, k1, n1⟩, -, X1, ⟨Lc1, hQ1, l1, y1, z1⟩, st1⟩ := X0.virtualBack hx (y := (⟨"com/example/carbonfold/carbonfold/model/RosterItem$Subscription", "hasFrom", "()Z"⟩ : MethodName)) (z := (⟨"com/example/carbonfold/carbonfold/model/RosterItem$Subscription", "hasFrom", "()Z"⟩ : MethodName)) hown (mvT hZ (hw _ (List.mem_of_getElem? (i := 18) rfl))) (mvT hZ (hw _ (List.mem_of_getElem? (i := 19) rfl))) (notFace_of_selects (args := #[]) (mvT hZ (hw _ (List.mem_of_getElem? (i := 21) rfl)))) (mvT hZ (hw _ (List.mem_of_getElem? (i := 21) rfl))) (mvT hZ (hw _ (List.mem_of_getElem? (i := 20) rfl))) (by decide) (backOf (W := 1) (rm_hasFrom_3 l Z a0 hw [] a_NONE a_TO a_BOTH a_FROM h0 n0 O0 En) hZ (hw _ (List.mem_of_getElem? (i := 22) rfl)) (hw _ (List.mem_of_getElem? (i := 1) rfl)) (by decide) (by decide)) q1a q1c (g := (mkF m 2 #[.val (.ref a_NONE), .val (.int (1 : Int32))] [(.ref a_NONE), (.int (1 : Int32))])) rfl (by rw [hml]; rfl) (Steps.refl _) (argsL := []) (rest := [(.int (1 : Int32))]) (lenOf pd_0 rfl) rfl (by show 2 * 0 + _ ≤ _; exact Nat.le_of_eq rfl) (hb hby dc1_2) (fun _ _ => ⟨rfl, e0, (by decide : 0 + 0 ≤ _), (by decide : 0 + 0 ≤ _)⟩)
  dsimp only [Pt.U, Pt.locs, Pt.cells, Pt.slots] at X1 l1 y1 z1 st1 hQ1
  subst l1 y1 z1
  obtain ⟨rfl, N1q, hh1⟩ := hQ1
  have N1 := Fr.app N0 N1q
  obtain ⟨_, _, ⟨T2, L2, k2, n2⟩, -, X2, ⟨Lc2, hQ2, l2, y2, z2⟩, st2⟩ := Jvm.LawKit.callS X1 hx (y := (⟨"com/example/carbonfold/carbonfold/model/RosterItem$Subscription", "combined", "(ZZ)Lcom/example/carbonfold/carbonfold/model/RosterItem$Subscription;"⟩ : MethodName)) hown (mvT hZ (hw _ (List.mem_of_getElem? (i := 25) rfl))) (mvT hZ (hw _ (List.mem_of_getElem? (i := 26) rfl))) (mvT hZ (hw _ (List.mem_of_getElem? (i := 1) rfl))) (mvT hZ (hw _ (List.mem_of_getElem? (i := 27) rfl))) (by decide) (backOf (W := 0) (rm_combined_10 l Z a0 hw [] a_NONE a_TO a_BOTH a_FROM h0 n0 O0 En) hZ (hw _ (List.mem_of_getElem? (i := 27) rfl)) (hw _ (List.mem_of_getElem? (i := 1) rfl)) (by decide) (by decide)) (g := (mkF m 5 #[.val (.ref a_NONE), .val (.int (1 : Int32))] [(.int (0 : Int32)), (.int (1 : Int32))])) rfl (by rw [hml]; rfl) (argsL := [(.int (1 : Int32)), (.int (0 : Int32))]) (rest := []) (lenOf pd_1 rfl) rfl (by show 2 * 0 + _ ≤ _; exact Nat.le_of_eq rfl) (hb hby dc1_5) (fun _ _ => ⟨rfl, hh1, (by decide : 0 + 0 ≤ _), (by decide : 0 + 0 ≤ _)⟩)
  dsimp only [Pt.U, Pt.locs, Pt.cells, Pt.slots] at X2 l2 y2 z2 st2 hQ2
  subst l2 y2 z2
  obtain ⟨rfl, N2q, hh2⟩ := hQ2
  have N2 := Fr.app N1 N2q
  obtain ⟨fs, hr, hrun, hended, hW, hsame⟩ := X2.leave (v := some (.ref a_TO)) (fun h => by rw [Bd.returns] at h; cases h)
  refine ⟨_, _, pre0 _ ?_, hrun, hended, _, _, rfl, ?_, ⟨_, rfl⟩, hW, hsame.mono (by decide) (by decide)⟩
  · skip
    show Steps p.tables e below (s₁.setTop (mkF m 0 #[.val (.ref a_NONE), .val (.int (1 : Int32))] [])) _
    refine XS.iloadN X0.here hx rfl (hb hby dc1_0) rfl ?_
    show Steps p.tables e below (s₁.setTop (mkF m 1 #[.val (.ref a_NONE), .val (.int (1 : Int32))] [(.int (1 : Int32))])) _
    refine XS.aloadN X0.here hx rfl (hb hby dc1_1) rfl rfl ?_
    show Steps p.tables e below (s₁.setTop (mkF m 2 #[.val (.ref a_NONE), .val (.int (1 : Int32))] [(.ref a_NONE), (.int (1 : Int32))])) _
    refine st1.trans ?_
    show Steps p.tables e below (T1.setTop (mkF m 5 #[.val (.ref a_NONE), .val (.int (1 : Int32))] [(.int (0 : Int32)), (.int (1 : Int32))])) _
    refine st2 _ ?_
    show Steps p.tables e below (T2.setTop (mkF m 8 #[.val (.ref a_NONE), .val (.int (1 : Int32))] [(.ref a_TO)])) _
    exact retOut X2 hx (t := (.object "com/example/carbonfold/carbonfold/model/RosterItem$Subscription")) Bd.returns rfl (Or.inr (Or.inr (Or.inr (Or.inr ⟨rfl, rfl, rfl⟩)))) (hb hby dc1_8) hr
  · show Q_rm_withTo_9 a_NONE a_TO a_BOTH a_FROM h0 n0 _ T2.heap _
    rw [hh2]
    exact ⟨rfl, N2, rfl⟩
def Q_rm_hasTo_11 (a_NONE a_TO a_BOTH a_FROM : Addr) (h0 : Heap) (n0 : Nat) (v : Option Value) (h : Heap) (L : List Loc) : Prop := v = some (.int (1 : Int32)) ∧ Fr n0 L ∧ h = h0
theorem dc0_14 : decode prog_67_method_5_code 14 = .ok (.iconst 1, 1) := by decide +kernel
theorem dc0_15 : decode prog_67_method_5_code 15 = .ok (.goto 4, 3) := by decide +kernel
set_option maxRecDepth 65536 in
set_option maxHeartbeats 40000000 in
theorem rm_hasTo_11 (l : Launch) (Z : State) (a0 : Array Value) (hw : ∀ d ∈ tables_1, d.before a0 Z = true) (ws : List Jvm.Cond) (a_NONE a_TO a_BOTH a_FROM : Addr) (h0 : Heap) (n0 : Nat) (O0 : Old Z n0 h0) (En : OwnEnv Z a_NONE a_TO a_BOTH a_FROM) :
    MetFree l (⟨"com/example/carbonfold/carbonfold/model/RosterItem$Subscription", "hasTo", "()Z"⟩ : MethodName) (head1 (Jvm.Cond.code (⟨"com/example/carbonfold/carbonfold/model/RosterItem$Subscription", "hasTo", "()Z"⟩ : MethodName) prog_67_method_5_code 1 (some .boolean) :: ws) ({ frames := 0, cells := 0, slots := 0, locals := 0 } : Room)) (fun a U => a = #[(.ref a_TO)] ∧ Z.Warmed39 U.vm ∧ U.heap = h0) (fun _ _ _ _ _ => True) (fun _ U o U' => ∃ v L, o = .returned v ∧ Q_rm_hasTo_11 a_NONE a_TO a_BOTH a_FROM h0 n0 v U'.heap L ∧ FrameEnd U o U' L ({ frames := 0, cells := 0, slots := 0, locals := 0 } : Room).cells ({ frames := 0, cells := 0, slots := 0, locals := 0 } : Room).slots) := by
  refine MetFree.of_bodySF (plainFor_of_name pn_1) hisR ?_
  intro p e s m args below meth c s₁ Bd hml0 hP hK
  obtain ⟨rfl, hZ, hh⟩ := hP
  have hx := Bd.exec
  have hby := Bd.bytes
  have hml : c.maxLocals = 1 := hml0
  have hown : s.vm.findClass "com/example/carbonfold/carbonfold/model/RosterItem$Subscription" = some m.cls := findClass_of_methodNamed Bd.named
  have hnm := (name_of_methodNamed Bd.named Bd.method).1
  have X0 : Stand p l e ({ frames := 0, cells := 0, slots := 0, locals := 0 } : Room) s m #[(.ref a_TO)] below meth c s₁ [] 0 0 := Stand.of_body Bd
  have e0 : s₁.heap = h0 := by rw [← hh, Bd.state]; rfl
  have N0 := Fr.nil n0
  have pre0 : ∀ t, Steps p.tables e below (s₁.setTop (mkF m 0 #[.val (.ref a_TO)] [])) t → Steps p.tables e below (s₁.setTop (entryFrame m #[(.ref a_TO)] 1)) t := fun t k => castTop (ef_1 m a_TO) k
  obtain ⟨S_a_NONE, X_a_NONE, S_a_TO, X_a_TO, S_a_BOTH, X_a_BOTH, S_a_FROM, X_a_FROM, F_a_NONE_ordinal, F_a_TO_ordinal, F_a_BOTH_ordinal, F_a_FROM_ordinal⟩ := id En
  obtain ⟨T1, X1, e1, st1⟩ := getS2 X0 hx hZ hown (host := "") (Or.inl (hw _ (List.mem_of_getElem? (i := 9) rfl))) Via.refl e0 (Sta.ext O0.2 S_a_TO) (g := (mkF m 1 #[.val (.ref a_TO)] [(.ref a_TO)])) rfl (hb hby dc0_1)
  obtain ⟨fs, hr, hrun, hended, hW, hsame⟩ := X1.leave (v := some (.int (1 : Int32))) (fun h => by rw [Bd.returns] at h; cases h)
  refine ⟨_, _, pre0 _ ?_, hrun, hended, _, _, rfl, ?_, ⟨_, rfl⟩, hW, hsame.mono (by decide) (by decide)⟩
  · skip
    show Steps p.tables e below (s₁.setTop (mkF m 0 #[.val (.ref a_TO)] [])) _
    refine XS.aloadN X0.here hx rfl (hb hby dc0_0) rfl rfl ?_
    show Steps p.tables e below (s₁.setTop (mkF m 1 #[.val (.ref a_TO)] [(.ref a_TO)])) _
    refine st1 _ ?_
    show Steps p.tables e below (T1.setTop (mkF m 4 #[.val (.ref a_TO)] [(.ref a_TO), (.ref a_TO)])) _
    refine Jvm.RoadKit.acmp (g := (mkF m 4 #[.val (.ref a_TO)] [(.ref a_TO), (.ref a_TO)])) X1 hx rfl rfl rfl (pc0 := 4) (pc' := 14) (same := true) rfl (hb hby dc0_4) rfl (decide_eq_true rfl) (by decide) (by decide) ?_
    show Steps p.tables e below (T1.setTop (mkF m 14 #[.val (.ref a_TO)] [])) _
    refine XS.iconst X1.here hx rfl (hb hby dc0_14) ?_
    show Steps p.tables e below (T1.setTop (mkF m 15 #[.val (.ref a_TO)] [(.int (1 : Int32))])) _
    refine XS.goto X1.here hx rfl (pc0 := 15) (pc' := 19) rfl (hb hby dc0_15) (by decide) (by decide) ?_
    show Steps p.tables e below (T1.setTop (mkF m 19 #[.val (.ref a_TO)] [(.int (1 : Int32))])) _
    exact retN X1 hx (t := .boolean) Bd.returns (by simp) (hb hby dc0_19) hr
  · show Q_rm_hasTo_11 a_NONE a_TO a_BOTH a_FROM h0 n0 _ T1.heap _
    rw [e1]
    exact ⟨rfl, N0, rfl⟩
def Q_rm_hasFrom_13 (a_NONE a_TO a_BOTH a_FROM : Addr) (h0 : Heap) (n0 : Nat) (v : Option Value) (h : Heap) (L : List Loc) : Prop := v = some (.int (0 : Int32)) ∧ Fr n0 L ∧ h = h0
set_option maxRecDepth 65536 in
set_option maxHeartbeats 40000000 in
theorem rm_hasFrom_13 (l : Launch) (Z : State) (a0 : Array Value) (hw : ∀ d ∈ tables_1, d.before a0 Z = true) (ws : List Jvm.Cond) (a_NONE a_TO a_BOTH a_FROM : Addr) (h0 : Heap) (n0 : Nat) (O0 : Old Z n0 h0) (En : OwnEnv Z a_NONE a_TO a_BOTH a_FROM) :
    MetFree l (⟨"com/example/carbonfold/carbonfold/model/RosterItem$Subscription", "hasFrom", "()Z"⟩ : MethodName) (head1 (Jvm.Cond.code (⟨"com/example/carbonfold/carbonfold/model/RosterItem$Subscription", "hasFrom", "()Z"⟩ : MethodName) prog_67_method_6_code 1 (some .boolean) :: ws) ({ frames := 0, cells := 0, slots := 0, locals := 0 } : Room)) (fun a U => a = #[(.ref a_TO)] ∧ Z.Warmed39 U.vm ∧ U.heap = h0) (fun _ _ _ _ _ => True) (fun _ U o U' => ∃ v L, o = .returned v ∧ Q_rm_hasFrom_13 a_NONE a_TO a_BOTH a_FROM h0 n0 v U'.heap L ∧ FrameEnd U o U' L ({ frames := 0, cells := 0, slots := 0, locals := 0 } : Room).cells ({ frames := 0, cells := 0, slots := 0, locals := 0 } : Room).slots) := by
  refine MetFree.of_bodySF (plainFor_of_name pn_1) hisR ?_
  intro p e s m args below meth c s₁ Bd hml0 hP hK
  obtain ⟨rfl, hZ, hh⟩ := hP
  have hx := Bd.exec
  have hby := Bd.bytes
  have hml : c.maxLocals = 1 := hml0
  have hown : s.vm.findClass "com/example/carbonfold/carbonfold/model/RosterItem$Subscription" = some m.cls := findClass_of_methodNamed Bd.named
  have hnm := (name_of_methodNamed Bd.named Bd.method).1
  have X0 : Stand p l e ({ frames := 0, cells := 0, slots := 0, locals := 0 } : Room) s m #[(.ref a_TO)] below meth c s₁ [] 0 0 := Stand.of_body Bd
  have e0 : s₁.heap = h0 := by rw [← hh, Bd.state]; rfl
  have N0 := Fr.nil n0
  have pre0 : ∀ t, Steps p.tables e below (s₁.setTop (mkF m 0 #[.val (.ref a_TO)] [])) t → Steps p.tables e below (s₁.setTop (entryFrame m #[(.ref a_TO)] 1)) t := fun t k => castTop (ef_1 m a_TO) k
  obtain ⟨S_a_NONE, X_a_NONE, S_a_TO, X_a_TO, S_a_BOTH, X_a_BOTH, S_a_FROM, X_a_FROM, F_a_NONE_ordinal, F_a_TO_ordinal, F_a_BOTH_ordinal, F_a_FROM_ordinal⟩ := id En
  obtain ⟨T1, X1, e1, st1⟩ := getS2 X0 hx hZ hown (host := "") (Or.inl (hw _ (List.mem_of_getElem? (i := 23) rfl))) Via.refl e0 (Sta.ext O0.2 S_a_FROM) (g := (mkF m 1 #[.val (.ref a_TO)] [(.ref a_TO)])) rfl (hb hby dc2_1)
  obtain ⟨T2, X2, e2, st2⟩ := getS2 X1 hx hZ hown (host := "") (Or.inl (hw _ (List.mem_of_getElem? (i := 11) rfl))) Via.refl e1 (Sta.ext O0.2 S_a_BOTH) (g := (mkF m 8 #[.val (.ref a_TO)] [(.ref a_TO)])) rfl (hb hby dc2_8)
  obtain ⟨fs, hr, hrun, hended, hW, hsame⟩ := X2.leave (v := some (.int (0 : Int32))) (fun h => by rw [Bd.returns] at h; cases h)
  refine ⟨_, _, pre0 _ ?_, hrun, hended, _, _, rfl, ?_, ⟨_, rfl⟩, hW, hsame.mono (by decide) (by decide)⟩
  · skip
    show Steps p.tables e below (s₁.setTop (mkF m 0 #[.val (.ref a_TO)] [])) _
    refine XS.aloadN X0.here hx rfl (hb hby dc2_0) rfl rfl ?_
    show Steps p.tables e below (s₁.setTop (mkF m 1 #[.val (.ref a_TO)] [(.ref a_TO)])) _
    refine st1 _ ?_
    show Steps p.tables e below (T1.setTop (mkF m 4 #[.val (.ref a_TO)] [(.ref a_FROM), (.ref a_TO)])) _
    refine Jvm.RoadKit.acmp (g := (mkF m 4 #[.val (.ref a_TO)] [(.ref a_FROM), (.ref a_TO)])) X1 hx rfl rfl rfl (pc0 := 4) (pc' := 7) (same := false) rfl (hb hby dc2_4) rfl (decide_eq_false fun q => (Fld.ne F_a_TO_ordinal F_a_FROM_ordinal (by simp)) (Value.ref.inj q)) (by decide) (by decide) ?_
    show Steps p.tables e below (T1.setTop (mkF m 7 #[.val (.ref a_TO)] [])) _
    refine XS.aloadN X1.here hx rfl (hb hby dc2_7) rfl rfl ?_
    show Steps p.tables e below (T1.setTop (mkF m 8 #[.val (.ref a_TO)] [(.ref a_TO)])) _
    refine st2 _ ?_
    show Steps p.tables e below (T2.setTop (mkF m 11 #[.val (.ref a_TO)] [(.ref a_BOTH), (.ref a_TO)])) _
    refine Jvm.RoadKit.acmp (g := (mkF m 11 #[.val (.ref a_TO)] [(.ref a_BOTH), (.ref a_TO)])) X2 hx rfl rfl rfl (pc0 := 11) (pc' := 18) (same := false) rfl (hb hby dc2_11) rfl (decide_eq_false fun q => (Fld.ne F_a_TO_ordinal F_a_BOTH_ordinal (by simp)) (Value.ref.inj q)) (by decide) (by decide) ?_
    show Steps p.tables e below (T2.setTop (mkF m 18 #[.val (.ref a_TO)] [])) _
    refine XS.iconst X2.here hx rfl (hb hby dc2_18) ?_
    show Steps p.tables e below (T2.setTop (mkF m 19 #[.val (.ref a_TO)] [(.int (0 : Int32))])) _
    exact retN X2 hx (t := .boolean) Bd.returns (by simp) (hb hby dc2_19) hr
  · show Q_rm_hasFrom_13 a_NONE a_TO a_BOTH a_FROM h0 n0 _ T2.heap _
    rw [e2]
    exact ⟨rfl, N0, rfl⟩
def Q_rm_withTo_12 (a_NONE a_TO a_BOTH a_FROM : Addr) (h0 : Heap) (n0 : Nat) (v : Option Value) (h : Heap) (L : List Loc) : Prop := v = some (.ref a_NONE) ∧ Fr n0 L ∧ h = h0
set_option maxRecDepth 65536 in
set_option maxHeartbeats 40000000 in
theorem rm_withTo_12 (l : Launch) (Z : State) (a0 : Array Value) (hw : ∀ d ∈ tables_1, d.before a0 Z = true) (ws : List Jvm.Cond) (a_NONE a_TO a_BOTH a_FROM : Addr) (h0 : Heap) (n0 : Nat) (O0 : Old Z n0 h0) (En : OwnEnv Z a_NONE a_TO a_BOTH a_FROM) :
    MetFree l (⟨"com/example/carbonfold/carbonfold/model/RosterItem$Subscription", "withTo", "(Z)Lcom/example/carbonfold/carbonfold/model/RosterItem$Subscription;"⟩ : MethodName) (head1 (Jvm.Cond.code (⟨"com/example/carbonfold/carbonfold/model/RosterItem$Subscription", "withTo", "(Z)Lcom/example/carbonfold/carbonfold/model/RosterItem$Subscription;"⟩ : MethodName) prog_67_method_7_code 2 (some (.object "com/example/carbonfold/carbonfold/model/RosterItem$Subscription")) :: ws) ({ frames := 1, cells := 0, slots := 0, locals := 13 } : Room)) (fun a U => a = #[(.ref a_TO), (.int (0 : Int32))] ∧ Z.Warmed39 U.vm ∧ U.heap = h0) (fun _ _ _ _ _ => True) (fun _ U o U' => ∃ v L, o = .returned v ∧ Q_rm_withTo_12 a_NONE a_TO a_BOTH a_FROM h0 n0 v U'.heap L ∧ FrameEnd U o U' L ({ frames := 1, cells := 0, slots := 0, locals := 13 } : Room).cells ({ frames := 1, cells := 0, slots := 0, locals := 13 } : Room).slots) := by
  refine MetFree.of_bodySF (plainFor_of_name pn_1) hisR ?_
  intro p e s m args below meth c s₁ Bd hml0 hP hK
  obtain ⟨rfl, hZ, hh⟩ := hP
  have hx := Bd.exec
  have hby := Bd.bytes
  have hml : c.maxLocals = 2 := hml0
  have hown : s.vm.findClass "com/example/carbonfold/carbonfold/model/RosterItem$Subscription" = some m.cls := findClass_of_methodNamed Bd.named
  have hnm := (name_of_methodNamed Bd.named Bd.method).1
  have X0 : Stand p l e ({ frames := 1, cells := 0, slots := 0, locals := 13 } : Room) s m #[(.ref a_TO), (.int (0 : Int32))] below meth c s₁ [] 0 0 := Stand.of_body Bd
  have e0 : s₁.heap = h0 := by rw [← hh, Bd.state]; rfl
  have N0 := Fr.nil n0
  have pre0 : ∀ t, Steps p.tables e below (s₁.setTop (mkF m 0 #[.val (.ref a_TO), .val (.int (0 : Int32))] [])) t → Steps p.tables e below (s₁.setTop (entryFrame m #[(.ref a_TO), (.int (0 : Int32))] 2)) t := fun t k => castTop (ef_2 m a_TO (0 : Int32)) k
  obtain ⟨S_a_NONE, X_a_NONE, S_a_TO, X_a_TO, S_a_BOTH, X_a_BOTH, S_a_FROM, X_a_FROM, F_a_NONE_ordinal, F_a_TO_ordinal, F_a_BOTH_ordinal, F_a_FROM_ordinal⟩ := id En
  obtain ⟨cq1, kq1, q1a, q1b, q1c⟩ := isOf hZ e0 (Exa.ext O0.2 X_a_TO)
  obtain ⟨_, _, ⟨T1, L1, k1, n1⟩, -, X1, ⟨Lc1, hQ1, l1, y1, z1⟩, st1⟩ := X0.virtualBack hx (y := (⟨"com/example/carbonfold/carbonfold/model/RosterItem$Subscription", "hasFrom", "()Z"⟩ : MethodName)) (z := (⟨"com/example/carbonfold/carbonfold/model/RosterItem$Subscription", "hasFrom", "()Z"⟩ : MethodName)) hown (mvT hZ (hw _ (List.mem_of_getElem? (i := 18) rfl))) (mvT hZ (hw _ (List.mem_of_getElem? (i := 19) rfl))) (notFace_of_selects (args := #[]) (mvT hZ (hw _ (List.mem_of_getElem? (i := 21) rfl)))) (mvT hZ (hw _ (List.mem_of_getElem? (i := 21) rfl))) (mvT hZ (hw _ (List.mem_of_getElem? (i := 20) rfl))) (by decide) (backOf (W := 1) (rm_hasFrom_13 l Z a0 hw [] a_NONE a_TO a_BOTH a_FROM h0 n0 O0 En) hZ (hw _ (List.mem_of_getElem? (i := 22) rfl)) (hw _ (List.mem_of_getElem? (i := 1) rfl)) (by decide) (by decide)) q1a q1c (g := (mkF m 2 #[.val (.ref a_TO), .val (.int (0 : Int32))] [(.ref a_TO), (.int (0 : Int32))])) rfl (by rw [hml]; rfl) (Steps.refl _) (argsL := []) (rest := [(.int (0 : Int32))]) (lenOf pd_0 rfl) rfl (by show 2 * 0 + _ ≤ _; exact Nat.le_of_eq rfl) (hb hby dc1_2) (fun _ _ => ⟨rfl, e0, (by decide : 0 + 0 ≤ _), (by decide : 0 + 0 ≤ _)⟩)
  dsimp only [Pt.U, Pt.locs, Pt.cells, Pt.slots] at X1 l1 y1 z1 st1 hQ1
  subst l1 y1 z1
  obtain ⟨rfl, N1q, hh1⟩ := hQ1
  have N1 := Fr.app N0 N1q
  obtain ⟨_, _, ⟨T2, L2, k2, n2⟩, -, X2, ⟨Lc2, hQ2, l2, y2, z2⟩, st2⟩ := Jvm.LawKit.callS X1 hx (y := (⟨"com/example/carbonfold/carbonfold/model/RosterItem$Subscription", "combined", "(ZZ)Lcom/example/carbonfold/carbonfold/model/RosterItem$Subscription;"⟩ : MethodName)) hown (mvT hZ (hw _ (List.mem_of_getElem? (i := 25) rfl))) (mvT hZ (hw _ (List.mem_of_getElem? (i := 26) rfl))) (mvT hZ (hw _ (List.mem_of_getElem? (i := 1) rfl))) (mvT hZ (hw _ (List.mem_of_getElem? (i := 27) rfl))) (by decide) (backOf (W := 0) (rm_combined_4 l Z a0 hw [] a_NONE a_TO a_BOTH a_FROM h0 n0 O0 En) hZ (hw _ (List.mem_of_getElem? (i := 27) rfl)) (hw _ (List.mem_of_getElem? (i := 1) rfl)) (by decide) (by decide)) (g := (mkF m 5 #[.val (.ref a_TO), .val (.int (0 : Int32))] [(.int (0 : Int32)), (.int (0 : Int32))])) rfl (by rw [hml]; rfl) (argsL := [(.int (0 : Int32)), (.int (0 : Int32))]) (rest := []) (lenOf pd_1 rfl) rfl (by show 2 * 0 + _ ≤ _; exact Nat.le_of_eq rfl) (hb hby dc1_5) (fun _ _ => ⟨rfl, hh1, (by decide : 0 + 0 ≤ _), (by decide : 0 + 0 ≤ _)⟩)
  dsimp only [Pt.U, Pt.locs, Pt.cells, Pt.slots] at X2 l2 y2 z2 st2 hQ2
  subst l2 y2 z2
  obtain ⟨rfl, N2q, hh2⟩ := hQ2
  have N2 := Fr.app N1 N2q
  obtain ⟨fs, hr, hrun, hended, hW, hsame⟩ := X2.leave (v := some (.ref a_NONE)) (fun h => by rw [Bd.returns] at h; cases h)
  refine ⟨_, _, pre0 _ ?_, hrun, hended, _, _, rfl, ?_, ⟨_, rfl⟩, hW, hsame.mono (by decide) (by decide)⟩
  · skip
    show Steps p.tables e below (s₁.setTop (mkF m 0 #[.val (.ref a_TO), .val (.int (0 : Int32))] [])) _
    refine XS.iloadN X0.here hx rfl (hb hby dc1_0) rfl ?_
    show Steps p.tables e below (s₁.setTop (mkF m 1 #[.val (.ref a_TO), .val (.int (0 : Int32))] [(.int (0 : Int32))])) _
    refine XS.aloadN X0.here hx rfl (hb hby dc1_1) rfl rfl ?_
    show Steps p.tables e below (s₁.setTop (mkF m 2 #[.val (.ref a_TO), .val (.int (0 : Int32))] [(.ref a_TO), (.int (0 : Int32))])) _
    refine st1.trans ?_
    show Steps p.tables e below (T1.setTop (mkF m 5 #[.val (.ref a_TO), .val (.int (0 : Int32))] [(.int (0 : Int32)), (.int (0 : Int32))])) _
    refine st2 _ ?_
    show Steps p.tables e below (T2.setTop (mkF m 8 #[.val (.ref a_TO), .val (.int (0 : Int32))] [(.ref a_NONE)])) _
    exact retOut X2 hx (t := (.object "com/example/carbonfold/carbonfold/model/RosterItem$Subscription")) Bd.returns rfl (Or.inr (Or.inr (Or.inr (Or.inr ⟨rfl, rfl, rfl⟩)))) (hb hby dc1_8) hr
  · show Q_rm_withTo_12 a_NONE a_TO a_BOTH a_FROM h0 n0 _ T2.heap _
    rw [hh2]
    exact ⟨rfl, N2, rfl⟩
def Q_rm_withFrom_14 (a_NONE a_TO a_BOTH a_FROM : Addr) (h0 : Heap) (n0 : Nat) (v : Option Value) (h : Heap) (L : List Loc) : Prop := v = some (.ref a_TO) ∧ Fr n0 L ∧ h = h0
set_option maxRecDepth 65536 in
set_option maxHeartbeats 40000000 in
theorem rm_withFrom_14 (l : Launch) (Z : State) (a0 : Array Value) (hw : ∀ d ∈ tables_1, d.before a0 Z = true) (ws : List Jvm.Cond) (a_NONE a_TO a_BOTH a_FROM : Addr) (h0 : Heap) (n0 : Nat) (O0 : Old Z n0 h0) (En : OwnEnv Z a_NONE a_TO a_BOTH a_FROM) :
    MetFree l (⟨"com/example/carbonfold/carbonfold/model/RosterItem$Subscription", "withFrom", "(Z)Lcom/example/carbonfold/carbonfold/model/RosterItem$Subscription;"⟩ : MethodName) (head1 (Jvm.Cond.code (⟨"com/example/carbonfold/carbonfold/model/RosterItem$Subscription", "withFrom", "(Z)Lcom/example/carbonfold/carbonfold/model/RosterItem$Subscription;"⟩ : MethodName) prog_67_method_8_code 2 (some (.object "com/example/carbonfold/carbonfold/model/RosterItem$Subscription")) :: ws) ({ frames := 1, cells := 0, slots := 0, locals := 13 } : Room)) (fun a U => a = #[(.ref a_TO), (.int (0 : Int32))] ∧ Z.Warmed39 U.vm ∧ U.heap = h0) (fun _ _ _ _ _ => True) (fun _ U o U' => ∃ v L, o = .returned v ∧ Q_rm_withFrom_14 a_NONE a_TO a_BOTH a_FROM h0 n0 v U'.heap L ∧ FrameEnd U o U' L ({ frames := 1, cells := 0, slots := 0, locals := 13 } : Room).cells ({ frames := 1, cells := 0, slots := 0, locals := 13 } : Room).slots) := by
  refine MetFree.of_bodySF (plainFor_of_name pn_1) hisR ?_
  intro p e s m args below meth c s₁ Bd hml0 hP hK
  obtain ⟨rfl, hZ, hh⟩ := hP
  have hx := Bd.exec
  have hby := Bd.bytes
  have hml : c.maxLocals = 2 := hml0
  have hown : s.vm.findClass "com/example/carbonfold/carbonfold/model/RosterItem$Subscription" = some m.cls := findClass_of_methodNamed Bd.named
  have hnm := (name_of_methodNamed Bd.named Bd.method).1
  have X0 : Stand p l e ({ frames := 1, cells := 0, slots := 0, locals := 13 } : Room) s m #[(.ref a_TO), (.int (0 : Int32))] below meth c s₁ [] 0 0 := Stand.of_body Bd
  have e0 : s₁.heap = h0 := by rw [← hh, Bd.state]; rfl
  have N0 := Fr.nil n0
  have pre0 : ∀ t, Steps p.tables e below (s₁.setTop (mkF m 0 #[.val (.ref a_TO), .val (.int (0 : Int32))] [])) t → Steps p.tables e below (s₁.setTop (entryFrame m #[(.ref a_TO), (.int (0 : Int32))] 2)) t := fun t k => castTop (ef_2 m a_TO (0 : Int32)) k
  obtain ⟨S_a_NONE, X_a_NONE, S_a_TO, X_a_TO, S_a_BOTH, X_a_BOTH, S_a_FROM, X_a_FROM, F_a_NONE_ordinal, F_a_TO_ordinal, F_a_BOTH_ordinal, F_a_FROM_ordinal⟩ := id En
  obtain ⟨cq1, kq1, q1a, q1b, q1c⟩ := isOf hZ e0 (Exa.ext O0.2 X_a_TO)
  obtain ⟨_, _, ⟨T1, L1, k1, n1⟩, -, X1, ⟨Lc1, hQ1, l1, y1, z1⟩, st1⟩ := X0.virtualBack hx (y := (⟨"com/example/carbonfold/carbonfold/model/RosterItem$Subscription", "hasTo", "()Z"⟩ : MethodName)) (z := (⟨"com/example/carbonfold/carbonfold/model/RosterItem$Subscription", "hasTo", "()Z"⟩ : MethodName)) hown (mvT hZ (hw _ (List.mem_of_getElem? (i := 33) rfl))) (mvT hZ (hw _ (List.mem_of_getElem? (i := 5) rfl))) (notFace_of_selects (args := #[]) (mvT hZ (hw _ (List.mem_of_getElem? (i := 7) rfl)))) (mvT hZ (hw _ (List.mem_of_getElem? (i := 7) rfl))) (mvT hZ (hw _ (List.mem_of_getElem? (i := 6) rfl))) (by decide) (backOf (W := 0) (rm_hasTo_11 l Z a0 hw [] a_NONE a_TO a_BOTH a_FROM h0 n0 O0 En) hZ (hw _ (List.mem_of_getElem? (i := 8) rfl)) (hw _ (List.mem_of_getElem? (i := 1) rfl)) (by decide) (by decide)) q1a q1c (g := (mkF m 1 #[.val (.ref a_TO), .val (.int (0 : Int32))] [(.ref a_TO)])) rfl (by rw [hml]; rfl) (Steps.refl _) (argsL := []) (rest := []) (lenOf pd_0 rfl) rfl (by show 2 * 0 + _ ≤ _; exact Nat.le_of_eq rfl) (hb hby dc4_1) (fun _ _ => ⟨rfl, e0, (by decide : 0 + 0 ≤ _), (by decide : 0 + 0 ≤ _)⟩)
  dsimp only [Pt.U, Pt.locs, Pt.cells, Pt.slots] at X1 l1 y1 z1 st1 hQ1
  subst l1 y1 z1
  obtain ⟨rfl, N1q, hh1⟩ := hQ1
  have N1 := Fr.app N0 N1q
  obtain ⟨_, _, ⟨T2, L2, k2, n2⟩, -, X2, ⟨Lc2, hQ2, l2, y2, z2⟩, st2⟩ := Jvm.LawKit.callS X1 hx (y := (⟨"com/example/carbonfold/carbonfold/model/RosterItem$Subscription", "combined", "(ZZ)Lcom/example/carbonfold/carbonfold/model/RosterItem$Subscription;"⟩ : MethodName)) hown (mvT hZ (hw _ (List.mem_of_getElem? (i := 25) rfl))) (mvT hZ (hw _ (List.mem_of_getElem? (i := 26) rfl))) (mvT hZ (hw _ (List.mem_of_getElem? (i := 1) rfl))) (mvT hZ (hw _ (List.mem_of_getElem? (i := 27) rfl))) (by decide) (backOf (W := 0) (rm_combined_10 l Z a0 hw [] a_NONE a_TO a_BOTH a_FROM h0 n0 O0 En) hZ (hw _ (List.mem_of_getElem? (i := 27) rfl)) (hw _ (List.mem_of_getElem? (i := 1) rfl)) (by decide) (by decide)) (g := (mkF m 5 #[.val (.ref a_TO), .val (.int (0 : Int32))] [(.int (0 : Int32)), (.int (1 : Int32))])) rfl (by rw [hml]; rfl) (argsL := [(.int (1 : Int32)), (.int (0 : Int32))]) (rest := []) (lenOf pd_1 rfl) rfl (by show 2 * 0 + _ ≤ _; exact Nat.le_of_eq rfl) (hb hby dc4_5) (fun _ _ => ⟨rfl, hh1, (by decide : 0 + 0 ≤ _), (by decide : 0 + 0 ≤ _)⟩)
  dsimp only [Pt.U, Pt.locs, Pt.cells, Pt.slots] at X2 l2 y2 z2 st2 hQ2
  subst l2 y2 z2
  obtain ⟨rfl, N2q, hh2⟩ := hQ2
  have N2 := Fr.app N1 N2q
  obtain ⟨fs, hr, hrun, hended, hW, hsame⟩ := X2.leave (v := some (.ref a_TO)) (fun h => by rw [Bd.returns] at h; cases h)
  refine ⟨_, _, pre0 _ ?_, hrun, hended, _, _, rfl, ?_, ⟨_, rfl⟩, hW, hsame.mono (by decide) (by decide)⟩
  · skip
    show Steps p.tables e below (s₁.setTop (mkF m 0 #[.val (.ref a_TO), .val (.int (0 : Int32))] [])) _
    refine XS.aloadN X0.here hx rfl (hb hby dc4_0) rfl rfl ?_
    show Steps p.tables e below (s₁.setTop (mkF m 1 #[.val (.ref a_TO), .val (.int (0 : Int32))] [(.ref a_TO)])) _
    refine st1.trans ?_
    show Steps p.tables e below (T1.setTop (mkF m 4 #[.val (.ref a_TO), .val (.int (0 : Int32))] [(.int (1 : Int32))])) _
    refine XS.iloadN X1.here hx rfl (hb hby dc4_4) rfl ?_
    show Steps p.tables e below (T1.setTop (mkF m 5 #[.val (.ref a_TO), .val (.int (0 : Int32))] [(.int (0 : Int32)), (.int (1 : Int32))])) _
    refine st2 _ ?_
    show Steps p.tables e below (T2.setTop (mkF m 8 #[.val (.ref a_TO), .val (.int (0 : Int32))] [(.ref a_TO)])) _
    exact retOut X2 hx (t := (.object "com/example/carbonfold/carbonfold/model/RosterItem$Subscription")) Bd.returns rfl (Or.inr (Or.inr (Or.inr (Or.inr ⟨rfl, rfl, rfl⟩)))) (hb hby dc4_8) hr
  · show Q_rm_withFrom_14 a_NONE a_TO a_BOTH a_FROM h0 n0 _ T2.heap _
    rw [hh2]
    exact ⟨rfl, N2, rfl⟩
def Q_rm_combined_16 (a_NONE a_TO a_BOTH a_FROM : Addr) (h0 : Heap) (n0 : Nat) (v : Option Value) (h : Heap) (L : List Loc) : Prop := v = some (.ref a_BOTH) ∧ Fr n0 L ∧ h = h0
theorem dc3_8 : decode prog_67_method_9_code 8 = .ok (.getstatic 13, 3) := by decide +kernel
theorem dc3_11 : decode prog_67_method_9_code 11 = .ok (.goto 6, 3) := by decide +kernel
set_option maxRecDepth 65536 in
set_option maxHeartbeats 40000000 in
theorem rm_combined_16 (l : Launch) (Z : State) (a0 : Array Value) (hw : ∀ d ∈ tables_1, d.before a0 Z = true) (ws : List Jvm.Cond) (a_NONE a_TO a_BOTH a_FROM : Addr) (h0 : Heap) (n0 : Nat) (O0 : Old Z n0 h0) (En : OwnEnv Z a_NONE a_TO a_BOTH a_FROM) :
    MetFree l (⟨"com/example/carbonfold/carbonfold/model/RosterItem$Subscription", "combined", "(ZZ)Lcom/example/carbonfold/carbonfold/model/RosterItem$Subscription;"⟩ : MethodName) (head1 (Jvm.Cond.code (⟨"com/example/carbonfold/carbonfold/model/RosterItem$Subscription", "combined", "(ZZ)Lcom/example/carbonfold/carbonfold/model/RosterItem$Subscription;"⟩ : MethodName) prog_67_method_9_code 2 (some (.object "com/example/carbonfold/carbonfold/model/RosterItem$Subscription")) :: ws) ({ frames := 0, cells := 0, slots := 0, locals := 0 } : Room)) (fun a U => a = #[(.int (1 : Int32)), (.int (1 : Int32))] ∧ Z.Warmed39 U.vm ∧ U.heap = h0) (fun _ _ _ _ _ => True) (fun _ U o U' => ∃ v L, o = .returned v ∧ Q_rm_combined_16 a_NONE a_TO a_BOTH a_FROM h0 n0 v U'.heap L ∧ FrameEnd U o U' L ({ frames := 0, cells := 0, slots := 0, locals := 0 } : Room).cells ({ frames := 0, cells := 0, slots := 0, locals := 0 } : Room).slots) := by
  refine MetFree.of_bodySF (plainFor_of_name pn_1) hisR ?_
  intro p e s m args below meth c s₁ Bd hml0 hP hK
  obtain ⟨rfl, hZ, hh⟩ := hP
  have hx := Bd.exec
  have hby := Bd.bytes
  have hml : c.maxLocals = 2 := hml0
  have hown : s.vm.findClass "com/example/carbonfold/carbonfold/model/RosterItem$Subscription" = some m.cls := findClass_of_methodNamed Bd.named
  have hnm := (name_of_methodNamed Bd.named Bd.method).1
  have X0 : Stand p l e ({ frames := 0, cells := 0, slots := 0, locals := 0 } : Room) s m #[(.int (1 : Int32)), (.int (1 : Int32))] below meth c s₁ [] 0 0 := Stand.of_body Bd
  have e0 : s₁.heap = h0 := by rw [← hh, Bd.state]; rfl
  have N0 := Fr.nil n0
  have pre0 : ∀ t, Steps p.tables e below (s₁.setTop (mkF m 0 #[.val (.int (1 : Int32)), .val (.int (1 : Int32))] [])) t → Steps p.tables e below (s₁.setTop (entryFrame m #[(.int (1 : Int32)), (.int (1 : Int32))] 2)) t := fun t k => castTop (ef_3 m (1 : Int32) (1 : Int32)) k
  obtain ⟨S_a_NONE, X_a_NONE, S_a_TO, X_a_TO, S_a_BOTH, X_a_BOTH, S_a_FROM, X_a_FROM, F_a_NONE_ordinal, F_a_TO_ordinal, F_a_BOTH_ordinal, F_a_FROM_ordinal⟩ := id En
  obtain ⟨T1, X1, e1, st1⟩ := getS2 X0 hx hZ hown (host := "") (Or.inl (hw _ (List.mem_of_getElem? (i := 11) rfl))) Via.refl e0 (Sta.ext O0.2 S_a_BOTH) (g := (mkF m 8 #[.val (.int (1 : Int32)), .val (.int (1 : Int32))] [])) rfl (hb hby dc3_8)
  obtain ⟨fs, hr, hrun, hended, hW, hsame⟩ := X1.leave (v := some (.ref a_BOTH)) (fun h => by rw [Bd.returns] at h; cases h)
  refine ⟨_, _, pre0 _ ?_, hrun, hended, _, _, rfl, ?_, ⟨_, rfl⟩, hW, hsame.mono (by decide) (by decide)⟩
  · skip
    show Steps p.tables e below (s₁.setTop (mkF m 0 #[.val (.int (1 : Int32)), .val (.int (1 : Int32))] [])) _
    refine XS.iloadN X0.here hx rfl (hb hby dc3_0) rfl ?_
    show Steps p.tables e below (s₁.setTop (mkF m 1 #[.val (.int (1 : Int32)), .val (.int (1 : Int32))] [(.int (1 : Int32))])) _
    refine XS.ifNo X0.here hx rfl (hb hby dc3_1) rfl (by decide) ?_
    show Steps p.tables e below (s₁.setTop (mkF m 4 #[.val (.int (1 : Int32)), .val (.int (1 : Int32))] [])) _
    refine XS.iloadN X0.here hx rfl (hb hby dc3_4) rfl ?_
    show Steps p.tables e below (s₁.setTop (mkF m 5 #[.val (.int (1 : Int32)), .val (.int (1 : Int32))] [(.int (1 : Int32))])) _
    refine XS.ifNo X0.here hx rfl (hb hby dc3_5) rfl (by decide) ?_
    show Steps p.tables e below (s₁.setTop (mkF m 8 #[.val (.int (1 : Int32)), .val (.int (1 : Int32))] [])) _
    refine st1 _ ?_
    show Steps p.tables e below (T1.setTop (mkF m 11 #[.val (.int (1 : Int32)), .val (.int (1 : Int32))] [(.ref a_BOTH)])) _
    refine XS.goto X1.here hx rfl (pc0 := 11) (pc' := 17) rfl (hb hby dc3_11) (by decide) (by decide) ?_
    show Steps p.tables e below (T1.setTop (mkF m 17 #[.val (.int (1 : Int32)), .val (.int (1 : Int32))] [(.ref a_BOTH)])) _
    exact retOut X1 hx (t := (.object "com/example/carbonfold/carbonfold/model/RosterItem$Subscription")) Bd.returns rfl (Or.inr (Or.inr (Or.inr (Or.inr ⟨rfl, rfl, rfl⟩)))) (hb hby dc3_17) hr
  · show Q_rm_combined_16 a_NONE a_TO a_BOTH a_FROM h0 n0 _ T1.heap _
    rw [e1]
    exact ⟨rfl, N0, rfl⟩
def Q_rm_withFrom_15 (a_NONE a_TO a_BOTH a_FROM : Addr) (h0 : Heap) (n0 : Nat) (v : Option Value) (h : Heap) (L : List Loc) : Prop := v = some (.ref a_BOTH) ∧ Fr n0 L ∧ h = h0
set_option maxRecDepth 65536 in
set_option maxHeartbeats 40000000 in
theorem rm_withFrom_15 (l : Launch) (Z : State) (a0 : Array Value) (hw : ∀ d ∈ tables_1, d.before a0 Z = true) (ws : List Jvm.Cond) (a_NONE a_TO a_BOTH a_FROM : Addr) (h0 : Heap) (n0 : Nat) (O0 : Old Z n0 h0) (En : OwnEnv Z a_NONE a_TO a_BOTH a_FROM) :
    MetFree l (⟨"com/example/carbonfold/carbonfold/model/RosterItem$Subscription", "withFrom", "(Z)Lcom/example/carbonfold/carbonfold/model/RosterItem$Subscription;"⟩ : MethodName) (head1 (Jvm.Cond.code (⟨"com/example/carbonfold/carbonfold/model/RosterItem$Subscription", "withFrom", "(Z)Lcom/example/carbonfold/carbonfold/model/RosterItem$Subscription;"⟩ : MethodName) prog_67_method_8_code 2 (some (.object "com/example/carbonfold/carbonfold/model/RosterItem$Subscription")) :: ws) ({ frames := 1, cells := 0, slots := 0, locals := 13 } : Room)) (fun a U => a = #[(.ref a_TO), (.int (1 : Int32))] ∧ Z.Warmed39 U.vm ∧ U.heap = h0) (fun _ _ _ _ _ => True) (fun _ U o U' => ∃ v L, o = .returned v ∧ Q_rm_withFrom_15 a_NONE a_TO a_BOTH a_FROM h0 n0 v U'.heap L ∧ FrameEnd U o U' L ({ frames := 1, cells := 0, slots := 0, locals := 13 } : Room).cells ({ frames := 1, cells := 0, slots := 0, locals := 13 } : Room).slots) := by
  refine MetFree.of_bodySF (plainFor_of_name pn_1) hisR ?_
  intro p e s m args below meth c s₁ Bd hml0 hP hK
  obtain ⟨rfl, hZ, hh⟩ := hP
  have hx := Bd.exec
  have hby := Bd.bytes
  have hml : c.maxLocals = 2 := hml0
  have hown : s.vm.findClass "com/example/carbonfold/carbonfold/model/RosterItem$Subscription" = some m.cls := findClass_of_methodNamed Bd.named
  have hnm := (name_of_methodNamed Bd.named Bd.method).1
  have X0 : Stand p l e ({ frames := 1, cells := 0, slots := 0, locals := 13 } : Room) s m #[(.ref a_TO), (.int (1 : Int32))] below meth c s₁ [] 0 0 := Stand.of_body Bd
  have e0 : s₁.heap = h0 := by rw [← hh, Bd.state]; rfl
  have N0 := Fr.nil n0
  have pre0 : ∀ t, Steps p.tables e below (s₁.setTop (mkF m 0 #[.val (.ref a_TO), .val (.int (1 : Int32))] [])) t → Steps p.tables e below (s₁.setTop (entryFrame m #[(.ref a_TO), (.int (1 : Int32))] 2)) t := fun t k => castTop (ef_2 m a_TO (1 : Int32)) k
  obtain ⟨S_a_NONE, X_a_NONE, S_a_TO, X_a_TO, S_a_BOTH, X_a_BOTH, S_a_FROM, X_a_FROM, F_a_NONE_ordinal, F_a_TO_ordinal, F_a_BOTH_ordinal, F_a_FROM_ordinal⟩ := id En
  obtain ⟨cq1, kq1, q1a, q1b, q1c⟩ := isOf hZ e0 (Exa.ext O0.2 X_a_TO)
  obtain ⟨_, _, ⟨T1, L1, k1, n1⟩, -, X1, ⟨Lc1, hQ1, l1, y1, z1⟩, st1⟩ := X0.virtualBack hx (y := (⟨"com/example/carbonfold/carbonfold/model/RosterItem$Subscription", "hasTo", "()Z"⟩ : MethodName)) (z := (⟨"com/example/carbonfold/carbonfold/model/RosterItem$Subscription", "hasTo", "()Z"⟩ : MethodName)) hown (mvT hZ (hw _ (List.mem_of_getElem? (i := 33) rfl))) (mvT hZ (hw _ (List.mem_of_getElem? (i := 5) rfl))) (notFace_of_selects (args := #[]) (mvT hZ (hw _ (List.mem_of_getElem? (i := 7) rfl)))) (mvT hZ (hw _ (List.mem_of_getElem? (i := 7) rfl))) (mvT hZ (hw _ (List.mem_of_getElem? (i := 6) rfl))) (by decide) (backOf (W := 0) (rm_hasTo_11 l Z a0 hw [] a_NONE a_TO a_BOTH a_FROM h0 n0 O0 En) hZ (hw _ (List.mem_of_getElem? (i := 8) rfl)) (hw _ (List.mem_of_getElem? (i := 1) rfl)) (by decide) (by decide)) q1a q1c (g := (mkF m 1 #[.val (.ref a_TO), .val (.int (1 : Int32))] [(.ref a_TO)])) rfl (by rw [hml]; rfl) (Steps.refl _) (argsL := []) (rest := []) (lenOf pd_0 rfl) rfl (by show 2 * 0 + _ ≤ _; exact Nat.le_of_eq rfl) (hb hby dc4_1) (fun _ _ => ⟨rfl, e0, (by decide : 0 + 0 ≤ _), (by decide : 0 + 0 ≤ _)⟩)
  dsimp only [Pt.U, Pt.locs, Pt.cells, Pt.slots] at X1 l1 y1 z1 st1 hQ1
  subst l1 y1 z1
  obtain ⟨rfl, N1q, hh1⟩ := hQ1
  have N1 := Fr.app N0 N1q
  obtain ⟨_, _, ⟨T2, L2, k2, n2⟩, -, X2, ⟨Lc2, hQ2, l2, y2, z2⟩, st2⟩ := Jvm.LawKit.callS X1 hx (y := (⟨"com/example/carbonfold/carbonfold/model/RosterItem$Subscription", "combined", "(ZZ)Lcom/example/carbonfold/carbonfold/model/RosterItem$Subscription;"⟩ : MethodName)) hown (mvT hZ (hw _ (List.mem_of_getElem? (i := 25) rfl))) (mvT hZ (hw _ (List.mem_of_getElem? (i := 26) rfl))) (mvT hZ (hw _ (List.mem_of_getElem? (i := 1) rfl))) (mvT hZ (hw _ (List.mem_of_getElem? (i := 27) rfl))) (by decide) (backOf (W := 0) (rm_combined_16 l Z a0 hw [] a_NONE a_TO a_BOTH a_FROM h0 n0 O0 En) hZ (hw _ (List.mem_of_getElem? (i := 27) rfl)) (hw _ (List.mem_of_getElem? (i := 1) rfl)) (by decide) (by decide)) (g := (mkF m 5 #[.val (.ref a_TO), .val (.int (1 : Int32))] [(.int (1 : Int32)), (.int (1 : Int32))])) rfl (by rw [hml]; rfl) (argsL := [(.int (1 : Int32)), (.int (1 : Int32))]) (rest := []) (lenOf pd_1 rfl) rfl (by show 2 * 0 + _ ≤ _; exact Nat.le_of_eq rfl) (hb hby dc4_5) (fun _ _ => ⟨rfl, hh1, (by decide : 0 + 0 ≤ _), (by decide : 0 + 0 ≤ _)⟩)
  dsimp only [Pt.U, Pt.locs, Pt.cells, Pt.slots] at X2 l2 y2 z2 st2 hQ2
  subst l2 y2 z2
  obtain ⟨rfl, N2q, hh2⟩ := hQ2
  have N2 := Fr.app N1 N2q
  obtain ⟨fs, hr, hrun, hended, hW, hsame⟩ := X2.leave (v := some (.ref a_BOTH)) (fun h => by rw [Bd.returns] at h; cases h)
  refine ⟨_, _, pre0 _ ?_, hrun, hended, _, _, rfl, ?_, ⟨_, rfl⟩, hW, hsame.mono (by decide) (by decide)⟩
  · skip
    show Steps p.tables e below (s₁.setTop (mkF m 0 #[.val (.ref a_TO), .val (.int (1 : Int32))] [])) _
    refine XS.aloadN X0.here hx rfl (hb hby dc4_0) rfl rfl ?_
    show Steps p.tables e below (s₁.setTop (mkF m 1 #[.val (.ref a_TO), .val (.int (1 : Int32))] [(.ref a_TO)])) _
    refine st1.trans ?_
    show Steps p.tables e below (T1.setTop (mkF m 4 #[.val (.ref a_TO), .val (.int (1 : Int32))] [(.int (1 : Int32))])) _
    refine XS.iloadN X1.here hx rfl (hb hby dc4_4) rfl ?_
    show Steps p.tables e below (T1.setTop (mkF m 5 #[.val (.ref a_TO), .val (.int (1 : Int32))] [(.int (1 : Int32)), (.int (1 : Int32))])) _
    refine st2 _ ?_
    show Steps p.tables e below (T2.setTop (mkF m 8 #[.val (.ref a_TO), .val (.int (1 : Int32))] [(.ref a_BOTH)])) _
    exact retOut X2 hx (t := (.object "com/example/carbonfold/carbonfold/model/RosterItem$Subscription")) Bd.returns rfl (Or.inr (Or.inr (Or.inr (Or.inr ⟨rfl, rfl, rfl⟩)))) (hb hby dc4_8) hr
  · show Q_rm_withFrom_15 a_NONE a_TO a_BOTH a_FROM h0 n0 _ T2.heap _
    rw [hh2]
    exact ⟨rfl, N2, rfl⟩
def Q_rm_hasTo_17 (a_NONE a_TO a_BOTH a_FROM : Addr) (h0 : Heap) (n0 : Nat) (v : Option Value) (h : Heap) (L : List Loc) : Prop := v = some (.int (1 : Int32)) ∧ Fr n0 L ∧ h = h0
set_option maxRecDepth 65536 in
set_option maxHeartbeats 40000000 in
theorem rm_hasTo_17 (l : Launch) (Z : State) (a0 : Array Value) (hw : ∀ d ∈ tables_1, d.before a0 Z = true) (ws : List Jvm.Cond) (a_NONE a_TO a_BOTH a_FROM : Addr) (h0 : Heap) (n0 : Nat) (O0 : Old Z n0 h0) (En : OwnEnv Z a_NONE a_TO a_BOTH a_FROM) :
    MetFree l (⟨"com/example/carbonfold/carbonfold/model/RosterItem$Subscription", "hasTo", "()Z"⟩ : MethodName) (head1 (Jvm.Cond.code (⟨"com/example/carbonfold/carbonfold/model/RosterItem$Subscription", "hasTo", "()Z"⟩ : MethodName) prog_67_method_5_code 1 (some .boolean) :: ws) ({ frames := 0, cells := 0, slots := 0, locals := 0 } : Room)) (fun a U => a = #[(.ref a_BOTH)] ∧ Z.Warmed39 U.vm ∧ U.heap = h0) (fun _ _ _ _ _ => True) (fun _ U o U' => ∃ v L, o = .returned v ∧ Q_rm_hasTo_17 a_NONE a_TO a_BOTH a_FROM h0 n0 v U'.heap L ∧ FrameEnd U o U' L ({ frames := 0, cells := 0, slots := 0, locals := 0 } : Room).cells ({ frames := 0, cells := 0, slots := 0, locals := 0 } : Room).slots) := by
  refine MetFree.of_bodySF (plainFor_of_name pn_1) hisR ?_
  intro p e s m args below meth c s₁ Bd hml0 hP hK
  obtain ⟨rfl, hZ, hh⟩ := hP
  have hx := Bd.exec
  have hby := Bd.bytes
  have hml : c.maxLocals = 1 := hml0
  have hown : s.vm.findClass "com/example/carbonfold/carbonfold/model/RosterItem$Subscription" = some m.cls := findClass_of_methodNamed Bd.named
  have hnm := (name_of_methodNamed Bd.named Bd.method).1
  have X0 : Stand p l e ({ frames := 0, cells := 0, slots := 0, locals := 0 } : Room) s m #[(.ref a_BOTH)] below meth c s₁ [] 0 0 := Stand.of_body Bd
  have e0 : s₁.heap = h0 := by rw [← hh, Bd.state]; rfl
  have N0 := Fr.nil n0
  have pre0 : ∀ t, Steps p.tables e below (s₁.setTop (mkF m 0 #[.val (.ref a_BOTH)] [])) t → Steps p.tables e below (s₁.setTop (entryFrame m #[(.ref a_BOTH)] 1)) t := fun t k => castTop (ef_1 m a_BOTH) k
  obtain ⟨S_a_NONE, X_a_NONE, S_a_TO, X_a_TO, S_a_BOTH, X_a_BOTH, S_a_FROM, X_a_FROM, F_a_NONE_ordinal, F_a_TO_ordinal, F_a_BOTH_ordinal, F_a_FROM_ordinal⟩ := id En
  obtain ⟨T1, X1, e1, st1⟩ := getS2 X0 hx hZ hown (host := "") (Or.inl (hw _ (List.mem_of_getElem? (i := 9) rfl))) Via.refl e0 (Sta.ext O0.2 S_a_TO) (g := (mkF m 1 #[.val (.ref a_BOTH)] [(.ref a_BOTH)])) rfl (hb hby dc0_1)
  obtain ⟨T2, X2, e2, st2⟩ := getS2 X1 hx hZ hown (host := "") (Or.inl (hw _ (List.mem_of_getElem? (i := 11) rfl))) Via.refl e1 (Sta.ext O0.2 S_a_BOTH) (g := (mkF m 8 #[.val (.ref a_BOTH)] [(.ref a_BOTH)])) rfl (hb hby dc0_8)
  obtain ⟨fs, hr, hrun, hended, hW, hsame⟩ := X2.leave (v := some (.int (1 : Int32))) (fun h => by rw [Bd.returns] at h; cases h)
  refine ⟨_, _, pre0 _ ?_, hrun, hended, _, _, rfl, ?_, ⟨_, rfl⟩, hW, hsame.mono (by decide) (by decide)⟩
  · skip
    show Steps p.tables e below (s₁.setTop (mkF m 0 #[.val (.ref a_BOTH)] [])) _
    refine XS.aloadN X0.here hx rfl (hb hby dc0_0) rfl rfl ?_
    show Steps p.tables e below (s₁.setTop (mkF m 1 #[.val (.ref a_BOTH)] [(.ref a_BOTH)])) _
    refine st1 _ ?_
    show Steps p.tables e below (T1.setTop (mkF m 4 #[.val (.ref a_BOTH)] [(.ref a_TO), (.ref a_BOTH)])) _
    refine Jvm.RoadKit.acmp (g := (mkF m 4 #[.val (.ref a_BOTH)] [(.ref a_TO), (.ref a_BOTH)])) X1 hx rfl rfl rfl (pc0 := 4) (pc' := 7) (same := false) rfl (hb hby dc0_4) rfl (decide_eq_false fun q => (Ne.symm (Fld.ne F_a_TO_ordinal F_a_BOTH_ordinal (by simp))) (Value.ref.inj q)) (by decide) (by decide) ?_
    show Steps p.tables e below (T1.setTop (mkF m 7 #[.val (.ref a_BOTH)] [])) _
    refine XS.aloadN X1.here hx rfl (hb hby dc0_7) rfl rfl ?_
    show Steps p.tables e below (T1.setTop (mkF m 8 #[.val (.ref a_BOTH)] [(.ref a_BOTH)])) _
    refine st2 _ ?_
    show Steps p.tables e below (T2.setTop (mkF m 11 #[.val (.ref a_BOTH)] [(.ref a_BOTH), (.ref a_BOTH)])) _
    refine Jvm.RoadKit.acmp (g := (mkF m 11 #[.val (.ref a_BOTH)] [(.ref a_BOTH), (.ref a_BOTH)])) X2 hx rfl rfl rfl (pc0 := 11) (pc' := 14) (same := true) rfl (hb hby dc0_11) rfl (decide_eq_true rfl) (by decide) (by decide) ?_
    show Steps p.tables e below (T2.setTop (mkF m 14 #[.val (.ref a_BOTH)] [])) _
    refine XS.iconst X2.here hx rfl (hb hby dc0_14) ?_
    show Steps p.tables e below (T2.setTop (mkF m 15 #[.val (.ref a_BOTH)] [(.int (1 : Int32))])) _
    refine XS.goto X2.here hx rfl (pc0 := 15) (pc' := 19) rfl (hb hby dc0_15) (by decide) (by decide) ?_
    show Steps p.tables e below (T2.setTop (mkF m 19 #[.val (.ref a_BOTH)] [(.int (1 : Int32))])) _
    exact retN X2 hx (t := .boolean) Bd.returns (by simp) (hb hby dc0_19) hr
  · show Q_rm_hasTo_17 a_NONE a_TO a_BOTH a_FROM h0 n0 _ T2.heap _
    rw [e2]
    exact ⟨rfl, N0, rfl⟩
def Q_rm_withTo_18 (a_NONE a_TO a_BOTH a_FROM : Addr) (h0 : Heap) (n0 : Nat) (v : Option Value) (h : Heap) (L : List Loc) : Prop := v = some (.ref a_TO) ∧ Fr n0 L ∧ h = h0
set_option maxRecDepth 65536 in
set_option maxHeartbeats 40000000 in
theorem rm_withTo_18 (l : Launch) (Z : State) (a0 : Array Value) (hw : ∀ d ∈ tables_1, d.before a0 Z = true) (ws : List Jvm.Cond) (a_NONE a_TO a_BOTH a_FROM : Addr) (h0 : Heap) (n0 : Nat) (O0 : Old Z n0 h0) (En : OwnEnv Z a_NONE a_TO a_BOTH a_FROM) :
    MetFree l (⟨"com/example/carbonfold/carbonfold/model/RosterItem$Subscription", "withTo", "(Z)Lcom/example/carbonfold/carbonfold/model/RosterItem$Subscription;"⟩ : MethodName) (head1 (Jvm.Cond.code (⟨"com/example/carbonfold/carbonfold/model/RosterItem$Subscription", "withTo", "(Z)Lcom/example/carbonfold/carbonfold/model/RosterItem$Subscription;"⟩ : MethodName) prog_67_method_7_code 2 (some (.object "com/example/carbonfold/carbonfold/model/RosterItem$Subscription")) :: ws) ({ frames := 1, cells := 0, slots := 0, locals := 13 } : Room)) (fun a U => a = #[(.ref a_TO), (.int (1 : Int32))] ∧ Z.Warmed39 U.vm ∧ U.heap = h0) (fun _ _ _ _ _ => True) (fun _ U o U' => ∃ v L, o = .returned v ∧ Q_rm_withTo_18 a_NONE a_TO a_BOTH a_FROM h0 n0 v U'.heap L ∧ FrameEnd U o U' L ({ frames := 1, cells := 0, slots := 0, locals := 13 } : Room).cells ({ frames := 1, cells := 0, slots := 0, locals := 13 } : Room).slots) := by
  refine MetFree.of_bodySF (plainFor_of_name pn_1) hisR ?_
  intro p e s m args below meth c s₁ Bd hml0 hP hK
  obtain ⟨rfl, hZ, hh⟩ := hP
  have hx := Bd.exec
  have hby := Bd.bytes
  have hml : c.maxLocals = 2 := hml0
  have hown : s.vm.findClass "com/example/carbonfold/carbonfold/model/RosterItem$Subscription" = some m.cls := findClass_of_methodNamed Bd.named
  have hnm := (name_of_methodNamed Bd.named Bd.method).1
  have X0 : Stand p l e ({ frames := 1, cells := 0, slots := 0, locals := 13 } : Room) s m #[(.ref a_TO), (.int (1 : Int32))] below meth c s₁ [] 0 0 := Stand.of_body Bd
  have e0 : s₁.heap = h0 := by rw [← hh, Bd.state]; rfl
  have N0 := Fr.nil n0
  have pre0 : ∀ t, Steps p.tables e below (s₁.setTop (mkF m 0 #[.val (.ref a_TO), .val (.int (1 : Int32))] [])) t → Steps p.tables e below (s₁.setTop (entryFrame m #[(.ref a_TO), (.int (1 : Int32))] 2)) t := fun t k => castTop (ef_2 m a_TO (1 : Int32)) k
  obtain ⟨S_a_NONE, X_a_NONE, S_a_TO, X_a_TO, S_a_BOTH, X_a_BOTH, S_a_FROM, X_a_FROM, F_a_NONE_ordinal, F_a_TO_ordinal, F_a_BOTH_ordinal, F_a_FROM_ordinal⟩ := id En
  obtain ⟨cq1, kq1, q1a, q1b, q1c⟩ := isOf hZ e0 (Exa.ext O0.2 X_a_TO)
  obtain ⟨_, _, ⟨T1, L1, k1, n1⟩, -, X1, ⟨Lc1, hQ1, l1, y1, z1⟩, st1⟩ := X0.virtualBack hx (y := (⟨"com/example/carbonfold/carbonfold/model/RosterItem$Subscription", "hasFrom", "()Z"⟩ : MethodName)) (z := (⟨"com/example/carbonfold/carbonfold/model/RosterItem$Subscription", "hasFrom", "()Z"⟩ : MethodName)) hown (mvT hZ (hw _ (List.mem_of_getElem? (i := 18) rfl))) (mvT hZ (hw _ (List.mem_of_getElem? (i := 19) rfl))) (notFace_of_selects (args := #[]) (mvT hZ (hw _ (List.mem_of_getElem? (i := 21) rfl)))) (mvT hZ (hw _ (List.mem_of_getElem? (i := 21) rfl))) (mvT hZ (hw _ (List.mem_of_getElem? (i := 20) rfl))) (by decide) (backOf (W := 1) (rm_hasFrom_13 l Z a0 hw [] a_NONE a_TO a_BOTH a_FROM h0 n0 O0 En) hZ (hw _ (List.mem_of_getElem? (i := 22) rfl)) (hw _ (List.mem_of_getElem? (i := 1) rfl)) (by decide) (by decide)) q1a q1c (g := (mkF m 2 #[.val (.ref a_TO), .val (.int (1 : Int32))] [(.ref a_TO), (.int (1 : Int32))])) rfl (by rw [hml]; rfl) (Steps.refl _) (argsL := []) (rest := [(.int (1 : Int32))]) (lenOf pd_0 rfl) rfl (by show 2 * 0 + _ ≤ _; exact Nat.le_of_eq rfl) (hb hby dc1_2) (fun _ _ => ⟨rfl, e0, (by decide : 0 + 0 ≤ _), (by decide : 0 + 0 ≤ _)⟩)
  dsimp only [Pt.U, Pt.locs, Pt.cells, Pt.slots] at X1 l1 y1 z1 st1 hQ1
  subst l1 y1 z1
  obtain ⟨rfl, N1q, hh1⟩ := hQ1
  have N1 := Fr.app N0 N1q
  obtain ⟨_, _, ⟨T2, L2, k2, n2⟩, -, X2, ⟨Lc2, hQ2, l2, y2, z2⟩, st2⟩ := Jvm.LawKit.callS X1 hx (y := (⟨"com/example/carbonfold/carbonfold/model/RosterItem$Subscription", "combined", "(ZZ)Lcom/example/carbonfold/carbonfold/model/RosterItem$Subscription;"⟩ : MethodName)) hown (mvT hZ (hw _ (List.mem_of_getElem? (i := 25) rfl))) (mvT hZ (hw _ (List.mem_of_getElem? (i := 26) rfl))) (mvT hZ (hw _ (List.mem_of_getElem? (i := 1) rfl))) (mvT hZ (hw _ (List.mem_of_getElem? (i := 27) rfl))) (by decide) (backOf (W := 0) (rm_combined_10 l Z a0 hw [] a_NONE a_TO a_BOTH a_FROM h0 n0 O0 En) hZ (hw _ (List.mem_of_getElem? (i := 27) rfl)) (hw _ (List.mem_of_getElem? (i := 1) rfl)) (by decide) (by decide)) (g := (mkF m 5 #[.val (.ref a_TO), .val (.int (1 : Int32))] [(.int (0 : Int32)), (.int (1 : Int32))])) rfl (by rw [hml]; rfl) (argsL := [(.int (1 : Int32)), (.int (0 : Int32))]) (rest := []) (lenOf pd_1 rfl) rfl (by show 2 * 0 + _ ≤ _; exact Nat.le_of_eq rfl) (hb hby dc1_5) (fun _ _ => ⟨rfl, hh1, (by decide : 0 + 0 ≤ _), (by decide : 0 + 0 ≤ _)⟩)
  dsimp only [Pt.U, Pt.locs, Pt.cells, Pt.slots] at X2 l2 y2 z2 st2 hQ2
  subst l2 y2 z2
  obtain ⟨rfl, N2q, hh2⟩ := hQ2
  have N2 := Fr.app N1 N2q
  obtain ⟨fs, hr, hrun, hended, hW, hsame⟩ := X2.leave (v := some (.ref a_TO)) (fun h => by rw [Bd.returns] at h; cases h)
  refine ⟨_, _, pre0 _ ?_, hrun, hended, _, _, rfl, ?_, ⟨_, rfl⟩, hW, hsame.mono (by decide) (by decide)⟩
  · skip
    show Steps p.tables e below (s₁.setTop (mkF m 0 #[.val (.ref a_TO), .val (.int (1 : Int32))] [])) _
    refine XS.iloadN X0.here hx rfl (hb hby dc1_0) rfl ?_
    show Steps p.tables e below (s₁.setTop (mkF m 1 #[.val (.ref a_TO), .val (.int (1 : Int32))] [(.int (1 : Int32))])) _
    refine XS.aloadN X0.here hx rfl (hb hby dc1_1) rfl rfl ?_
    show Steps p.tables e below (s₁.setTop (mkF m 2 #[.val (.ref a_TO), .val (.int (1 : Int32))] [(.ref a_TO), (.int (1 : Int32))])) _
    refine st1.trans ?_
    show Steps p.tables e below (T1.setTop (mkF m 5 #[.val (.ref a_TO), .val (.int (1 : Int32))] [(.int (0 : Int32)), (.int (1 : Int32))])) _
    refine st2 _ ?_
    show Steps p.tables e below (T2.setTop (mkF m 8 #[.val (.ref a_TO), .val (.int (1 : Int32))] [(.ref a_TO)])) _
    exact retOut X2 hx (t := (.object "com/example/carbonfold/carbonfold/model/RosterItem$Subscription")) Bd.returns rfl (Or.inr (Or.inr (Or.inr (Or.inr ⟨rfl, rfl, rfl⟩)))) (hb hby dc1_8) hr
  · show Q_rm_withTo_18 a_NONE a_TO a_BOTH a_FROM h0 n0 _ T2.heap _
    rw [hh2]
    exact ⟨rfl, N2, rfl⟩
def Q_rm_hasFrom_20 (a_NONE a_TO a_BOTH a_FROM : Addr) (h0 : Heap) (n0 : Nat) (v : Option Value) (h : Heap) (L : List Loc) : Prop := v = some (.int (1 : Int32)) ∧ Fr n0 L ∧ h = h0
theorem dc2_14 : decode prog_67_method_6_code 14 = .ok (.iconst 1, 1) := by decide +kernel
theorem dc2_15 : decode prog_67_method_6_code 15 = .ok (.goto 4, 3) := by decide +kernel
set_option maxRecDepth 65536 in
set_option maxHeartbeats 40000000 in
theorem rm_hasFrom_20 (l : Launch) (Z : State) (a0 : Array Value) (hw : ∀ d ∈ tables_1, d.before a0 Z = true) (ws : List Jvm.Cond) (a_NONE a_TO a_BOTH a_FROM : Addr) (h0 : Heap) (n0 : Nat) (O0 : Old Z n0 h0) (En : OwnEnv Z a_NONE a_TO a_BOTH a_FROM) :
    MetFree l (⟨"com/example/carbonfold/carbonfold/model/RosterItem$Subscription", "hasFrom", "()Z"⟩ : MethodName) (head1 (Jvm.Cond.code (⟨"com/example/carbonfold/carbonfold/model/RosterItem$Subscription", "hasFrom", "()Z"⟩ : MethodName) prog_67_method_6_code 1 (some .boolean) :: ws) ({ frames := 0, cells := 0, slots := 0, locals := 0 } : Room)) (fun a U => a = #[(.ref a_FROM)] ∧ Z.Warmed39 U.vm ∧ U.heap = h0) (fun _ _ _ _ _ => True) (fun _ U o U' => ∃ v L, o = .returned v ∧ Q_rm_hasFrom_20 a_NONE a_TO a_BOTH a_FROM h0 n0 v U'.heap L ∧ FrameEnd U o U' L ({ frames := 0, cells := 0, slots := 0, locals := 0 } : Room).cells ({ frames := 0, cells := 0, slots := 0, locals := 0 } : Room).slots) := by
  refine MetFree.of_bodySF (plainFor_of_name pn_1) hisR ?_
  intro p e s m args below meth c s₁ Bd hml0 hP hK
  obtain ⟨rfl, hZ, hh⟩ := hP
  have hx := Bd.exec
  have hby := Bd.bytes
  have hml : c.maxLocals = 1 := hml0
  have hown : s.vm.findClass "com/example/carbonfold/carbonfold/model/RosterItem$Subscription" = some m.cls := findClass_of_methodNamed Bd.named
  have hnm := (name_of_methodNamed Bd.named Bd.method).1
  have X0 : Stand p l e ({ frames := 0, cells := 0, slots := 0, locals := 0 } : Room) s m #[(.ref a_FROM)] below meth c s₁ [] 0 0 := Stand.of_body Bd
  have e0 : s₁.heap = h0 := by rw [← hh, Bd.state]; rfl
  have N0 := Fr.nil n0
  have pre0 : ∀ t, Steps p.tables e below (s₁.setTop (mkF m 0 #[.val (.ref a_FROM)] [])) t → Steps p.tables e below (s₁.setTop (entryFrame m #[(.ref a_FROM)] 1)) t := fun t k => castTop (ef_1 m a_FROM) k
  obtain ⟨S_a_NONE, X_a_NONE, S_a_TO, X_a_TO, S_a_BOTH, X_a_BOTH, S_a_FROM, X_a_FROM, F_a_NONE_ordinal, F_a_TO_ordinal, F_a_BOTH_ordinal, F_a_FROM_ordinal⟩ := id En
  obtain ⟨T1, X1, e1, st1⟩ := getS2 X0 hx hZ hown (host := "") (Or.inl (hw _ (List.mem_of_getElem? (i := 23) rfl))) Via.refl e0 (Sta.ext O0.2 S_a_FROM) (g := (mkF m 1 #[.val (.ref a_FROM)] [(.ref a_FROM)])) rfl (hb hby dc2_1)
  obtain ⟨fs, hr, hrun, hended, hW, hsame⟩ := X1.leave (v := some (.int (1 : Int32))) (fun h => by rw [Bd.returns] at h; cases h)
  refine ⟨_, _, pre0 _ ?_, hrun, hended, _, _, rfl, ?_, ⟨_, rfl⟩, hW, hsame.mono (by decide) (by decide)⟩
  · skip
    show Steps p.tables e below (s₁.setTop (mkF m 0 #[.val (.ref a_FROM)] [])) _
    refine XS.aloadN X0.here hx rfl (hb hby dc2_0) rfl rfl ?_
    show Steps p.tables e below (s₁.setTop (mkF m 1 #[.val (.ref a_FROM)] [(.ref a_FROM)])) _
    refine st1 _ ?_
    show Steps p.tables e below (T1.setTop (mkF m 4 #[.val (.ref a_FROM)] [(.ref a_FROM), (.ref a_FROM)])) _
    refine Jvm.RoadKit.acmp (g := (mkF m 4 #[.val (.ref a_FROM)] [(.ref a_FROM), (.ref a_FROM)])) X1 hx rfl rfl rfl (pc0 := 4) (pc' := 14) (same := true) rfl (hb hby dc2_4) rfl (decide_eq_true rfl) (by decide) (by decide) ?_
    show Steps p.tables e below (T1.setTop (mkF m 14 #[.val (.ref a_FROM)] [])) _
    refine XS.iconst X1.here hx rfl (hb hby dc2_14) ?_
    show Steps p.tables e below (T1.setTop (mkF m 15 #[.val (.ref a_FROM)] [(.int (1 : Int32))])) _
    refine XS.goto X1.here hx rfl (pc0 := 15) (pc' := 19) rfl (hb hby dc2_15) (by decide) (by decide) ?_
    show Steps p.tables e below (T1.setTop (mkF m 19 #[.val (.ref a_FROM)] [(.int (1 : Int32))])) _
    exact retN X1 hx (t := .boolean) Bd.returns (by simp) (hb hby dc2_19) hr
  · show Q_rm_hasFrom_20 a_NONE a_TO a_BOTH a_FROM h0 n0 _ T1.heap _
    rw [e1]
    exact ⟨rfl, N0, rfl⟩
def Q_rm_withTo_19 (a_NONE a_TO a_BOTH a_FROM : Addr) (h0 : Heap) (n0 : Nat) (v : Option Value) (h : Heap) (L : List Loc) : Prop := v = some (.ref a_FROM) ∧ Fr n0 L ∧ h = h0
set_option maxRecDepth 65536 in
set_option maxHeartbeats 40000000 in
theorem rm_withTo_19 (l : Launch) (Z : State) (a0 : Array Value) (hw : ∀ d ∈ tables_1, d.before a0 Z = true) (ws : List Jvm.Cond) (a_NONE a_TO a_BOTH a_FROM : Addr) (h0 : Heap) (n0 : Nat) (O0 : Old Z n0 h0) (En : OwnEnv Z a_NONE a_TO a_BOTH a_FROM) :
    MetFree l (⟨"com/example/carbonfold/carbonfold/model/RosterItem$Subscription", "withTo", "(Z)Lcom/example/carbonfold/carbonfold/model/RosterItem$Subscription;"⟩ : MethodName) (head1 (Jvm.Cond.code (⟨"com/example/carbonfold/carbonfold/model/RosterItem$Subscription", "withTo", "(Z)Lcom/example/carbonfold/carbonfold/model/RosterItem$Subscription;"⟩ : MethodName) prog_67_method_7_code 2 (some (.object "com/example/carbonfold/carbonfold/model/RosterItem$Subscription")) :: ws) ({ frames := 1, cells := 0, slots := 0, locals := 13 } : Room)) (fun a U => a = #[(.ref a_FROM), (.int (0 : Int32))] ∧ Z.Warmed39 U.vm ∧ U.heap = h0) (fun _ _ _ _ _ => True) (fun _ U o U' => ∃ v L, o = .returned v ∧ Q_rm_withTo_19 a_NONE a_TO a_BOTH a_FROM h0 n0 v U'.heap L ∧ FrameEnd U o U' L ({ frames := 1, cells := 0, slots := 0, locals := 13 } : Room).cells ({ frames := 1, cells := 0, slots := 0, locals := 13 } : Room).slots) := by
  refine MetFree.of_bodySF (plainFor_of_name pn_1) hisR ?_
  intro p e s m args below meth c s₁ Bd hml0 hP hK
  obtain ⟨rfl, hZ, hh⟩ := hP
  have hx := Bd.exec
  have hby := Bd.bytes
  have hml : c.maxLocals = 2 := hml0
  have hown : s.vm.findClass "com/example/carbonfold/carbonfold/model/RosterItem$Subscription" = some m.cls := findClass_of_methodNamed Bd.named
  have hnm := (name_of_methodNamed Bd.named Bd.method).1
  have X0 : Stand p l e ({ frames := 1, cells := 0, slots := 0, locals := 13 } : Room) s m #[(.ref a_FROM), (.int (0 : Int32))] below meth c s₁ [] 0 0 := Stand.of_body Bd
  have e0 : s₁.heap = h0 := by rw [← hh, Bd.state]; rfl
  have N0 := Fr.nil n0
  have pre0 : ∀ t, Steps p.tables e below (s₁.setTop (mkF m 0 #[.val (.ref a_FROM), .val (.int (0 : Int32))] [])) t → Steps p.tables e below (s₁.setTop (entryFrame m #[(.ref a_FROM), (.int (0 : Int32))] 2)) t := fun t k => castTop (ef_2 m a_FROM (0 : Int32)) k
  obtain ⟨S_a_NONE, X_a_NONE, S_a_TO, X_a_TO, S_a_BOTH, X_a_BOTH, S_a_FROM, X_a_FROM, F_a_NONE_ordinal, F_a_TO_ordinal, F_a_BOTH_ordinal, F_a_FROM_ordinal⟩ := id En
  obtain ⟨cq1, kq1, q1a, q1b, q1c⟩ := isOf hZ e0 (Exa.ext O0.2 X_a_FROM)
  obtain ⟨_, _, ⟨T1, L1, k1, n1⟩, -, X1, ⟨Lc1, hQ1, l1, y1, z1⟩, st1⟩ := X0.virtualBack hx (y := (⟨"com/example/carbonfold/carbonfold/model/RosterItem$Subscription", "hasFrom", "()Z"⟩ : MethodName)) (z := (⟨"com/example/carbonfold/carbonfold/model/RosterItem$Subscription", "hasFrom", "()Z"⟩ : MethodName)) hown (mvT hZ (hw _ (List.mem_of_getElem? (i := 18) rfl))) (mvT hZ (hw _ (List.mem_of_getElem? (i := 19) rfl))) (notFace_of_selects (args := #[]) (mvT hZ (hw _ (List.mem_of_getElem? (i := 21) rfl)))) (mvT hZ (hw _ (List.mem_of_getElem? (i := 21) rfl))) (mvT hZ (hw _ (List.mem_of_getElem? (i := 20) rfl))) (by decide) (backOf (W := 1) (rm_hasFrom_20 l Z a0 hw [] a_NONE a_TO a_BOTH a_FROM h0 n0 O0 En) hZ (hw _ (List.mem_of_getElem? (i := 22) rfl)) (hw _ (List.mem_of_getElem? (i := 1) rfl)) (by decide) (by decide)) q1a q1c (g := (mkF m 2 #[.val (.ref a_FROM), .val (.int (0 : Int32))] [(.ref a_FROM), (.int (0 : Int32))])) rfl (by rw [hml]; rfl) (Steps.refl _) (argsL := []) (rest := [(.int (0 : Int32))]) (lenOf pd_0 rfl) rfl (by show 2 * 0 + _ ≤ _; exact Nat.le_of_eq rfl) (hb hby dc1_2) (fun _ _ => ⟨rfl, e0, (by decide : 0 + 0 ≤ _), (by decide : 0 + 0 ≤ _)⟩)
  dsimp only [Pt.U, Pt.locs, Pt.cells, Pt.slots] at X1 l1 y1 z1 st1 hQ1
  subst l1 y1 z1
  obtain ⟨rfl, N1q, hh1⟩ := hQ1
  have N1 := Fr.app N0 N1q
  obtain ⟨_, _, ⟨T2, L2, k2, n2⟩, -, X2, ⟨Lc2, hQ2, l2, y2, z2⟩, st2⟩ := Jvm.LawKit.callS X1 hx (y := (⟨"com/example/carbonfold/carbonfold/model/RosterItem$Subscription", "combined", "(ZZ)Lcom/example/carbonfold/carbonfold/model/RosterItem$Subscription;"⟩ : MethodName)) hown (mvT hZ (hw _ (List.mem_of_getElem? (i := 25) rfl))) (mvT hZ (hw _ (List.mem_of_getElem? (i := 26) rfl))) (mvT hZ (hw _ (List.mem_of_getElem? (i := 1) rfl))) (mvT hZ (hw _ (List.mem_of_getElem? (i := 27) rfl))) (by decide) (backOf (W := 0) (rm_combined_7 l Z a0 hw [] a_NONE a_TO a_BOTH a_FROM h0 n0 O0 En) hZ (hw _ (List.mem_of_getElem? (i := 27) rfl)) (hw _ (List.mem_of_getElem? (i := 1) rfl)) (by decide) (by decide)) (g := (mkF m 5 #[.val (.ref a_FROM), .val (.int (0 : Int32))] [(.int (1 : Int32)), (.int (0 : Int32))])) rfl (by rw [hml]; rfl) (argsL := [(.int (0 : Int32)), (.int (1 : Int32))]) (rest := []) (lenOf pd_1 rfl) rfl (by show 2 * 0 + _ ≤ _; exact Nat.le_of_eq rfl) (hb hby dc1_5) (fun _ _ => ⟨rfl, hh1, (by decide : 0 + 0 ≤ _), (by decide : 0 + 0 ≤ _)⟩)
  dsimp only [Pt.U, Pt.locs, Pt.cells, Pt.slots] at X2 l2 y2 z2 st2 hQ2
  subst l2 y2 z2
  obtain ⟨rfl, N2q, hh2⟩ := hQ2
  have N2 := Fr.app N1 N2q
  obtain ⟨fs, hr, hrun, hended, hW, hsame⟩ := X2.leave (v := some (.ref a_FROM)) (fun h => by rw [Bd.returns] at h; cases h)
  refine ⟨_, _, pre0 _ ?_, hrun, hended, _, _, rfl, ?_, ⟨_, rfl⟩, hW, hsame.mono (by decide) (by decide)⟩
  · skip
    show Steps p.tables e below (s₁.setTop (mkF m 0 #[.val (.ref a_FROM), .val (.int (0 : Int32))] [])) _
    refine XS.iloadN X0.here hx rfl (hb hby dc1_0) rfl ?_
    show Steps p.tables e below (s₁.setTop (mkF m 1 #[.val (.ref a_FROM), .val (.int (0 : Int32))] [(.int (0 : Int32))])) _
    refine XS.aloadN X0.here hx rfl (hb hby dc1_1) rfl rfl ?_
    show Steps p.tables e below (s₁.setTop (mkF m 2 #[.val (.ref a_FROM), .val (.int (0 : Int32))] [(.ref a_FROM), (.int (0 : Int32))])) _
    refine st1.trans ?_
    show Steps p.tables e below (T1.setTop (mkF m 5 #[.val (.ref a_FROM), .val (.int (0 : Int32))] [(.int (1 : Int32)), (.int (0 : Int32))])) _
    refine st2 _ ?_
    show Steps p.tables e below (T2.setTop (mkF m 8 #[.val (.ref a_FROM), .val (.int (0 : Int32))] [(.ref a_FROM)])) _
    exact retOut X2 hx (t := (.object "com/example/carbonfold/carbonfold/model/RosterItem$Subscription")) Bd.returns rfl (Or.inr (Or.inr (Or.inr (Or.inr ⟨rfl, rfl, rfl⟩)))) (hb hby dc1_8) hr
  · show Q_rm_withTo_19 a_NONE a_TO a_BOTH a_FROM h0 n0 _ T2.heap _
    rw [hh2]
    exact ⟨rfl, N2, rfl⟩
def Q_rm_withFrom_21 (a_NONE a_TO a_BOTH a_FROM : Addr) (h0 : Heap) (n0 : Nat) (v : Option Value) (h : Heap) (L : List Loc) : Prop := v = some (.ref a_NONE) ∧ Fr n0 L ∧ h = h0
set_option maxRecDepth 65536 in
set_option maxHeartbeats 40000000 in
theorem rm_withFrom_21 (l : Launch) (Z : State) (a0 : Array Value) (hw : ∀ d ∈ tables_1, d.before a0 Z = true) (ws : List Jvm.Cond) (a_NONE a_TO a_BOTH a_FROM : Addr) (h0 : Heap) (n0 : Nat) (O0 : Old Z n0 h0) (En : OwnEnv Z a_NONE a_TO a_BOTH a_FROM) :
    MetFree l (⟨"com/example/carbonfold/carbonfold/model/RosterItem$Subscription", "withFrom", "(Z)Lcom/example/carbonfold/carbonfold/model/RosterItem$Subscription;"⟩ : MethodName) (head1 (Jvm.Cond.code (⟨"com/example/carbonfold/carbonfold/model/RosterItem$Subscription", "withFrom", "(Z)Lcom/example/carbonfold/carbonfold/model/RosterItem$Subscription;"⟩ : MethodName) prog_67_method_8_code 2 (some (.object "com/example/carbonfold/carbonfold/model/RosterItem$Subscription")) :: ws) ({ frames := 1, cells := 0, slots := 0, locals := 13 } : Room)) (fun a U => a = #[(.ref a_FROM), (.int (0 : Int32))] ∧ Z.Warmed39 U.vm ∧ U.heap = h0) (fun _ _ _ _ _ => True) (fun _ U o U' => ∃ v L, o = .returned v ∧ Q_rm_withFrom_21 a_NONE a_TO a_BOTH a_FROM h0 n0 v U'.heap L ∧ FrameEnd U o U' L ({ frames := 1, cells := 0, slots := 0, locals := 13 } : Room).cells ({ frames := 1, cells := 0, slots := 0, locals := 13 } : Room).slots) := by
  refine MetFree.of_bodySF (plainFor_of_name pn_1) hisR ?_
  intro p e s m args below meth c s₁ Bd hml0 hP hK
  obtain ⟨rfl, hZ, hh⟩ := hP
  have hx := Bd.exec
  have hby := Bd.bytes
  have hml : c.maxLocals = 2 := hml0
  have hown : s.vm.findClass "com/example/carbonfold/carbonfold/model/RosterItem$Subscription" = some m.cls := findClass_of_methodNamed Bd.named
  have hnm := (name_of_methodNamed Bd.named Bd.method).1
  have X0 : Stand p l e ({ frames := 1, cells := 0, slots := 0, locals := 13 } : Room) s m #[(.ref a_FROM), (.int (0 : Int32))] below meth c s₁ [] 0 0 := Stand.of_body Bd
  have e0 : s₁.heap = h0 := by rw [← hh, Bd.state]; rfl
  have N0 := Fr.nil n0
  have pre0 : ∀ t, Steps p.tables e below (s₁.setTop (mkF m 0 #[.val (.ref a_FROM), .val (.int (0 : Int32))] [])) t → Steps p.tables e below (s₁.setTop (entryFrame m #[(.ref a_FROM), (.int (0 : Int32))] 2)) t := fun t k => castTop (ef_2 m a_FROM (0 : Int32)) k
  obtain ⟨S_a_NONE, X_a_NONE, S_a_TO, X_a_TO, S_a_BOTH, X_a_BOTH, S_a_FROM, X_a_FROM, F_a_NONE_ordinal, F_a_TO_ordinal, F_a_BOTH_ordinal, F_a_FROM_ordinal⟩ := id En
  obtain ⟨cq1, kq1, q1a, q1b, q1c⟩ := isOf hZ e0 (Exa.ext O0.2 X_a_FROM)
  obtain ⟨_, _, ⟨T1, L1, k1, n1⟩, -, X1, ⟨Lc1, hQ1, l1, y1, z1⟩, st1⟩ := X0.virtualBack hx (y := (⟨"com/example/carbonfold/carbonfold/model/RosterItem$Subscription", "hasTo", "()Z"⟩ : MethodName)) (z := (⟨"com/example/carbonfold/carbonfold/model/RosterItem$Subscription", "hasTo", "()Z"⟩ : MethodName)) hown (mvT hZ (hw _ (List.mem_of_getElem? (i := 33) rfl))) (mvT hZ (hw _ (List.mem_of_getElem? (i := 5) rfl))) (notFace_of_selects (args := #[]) (mvT hZ (hw _ (List.mem_of_getElem? (i := 7) rfl)))) (mvT hZ (hw _ (List.mem_of_getElem? (i := 7) rfl))) (mvT hZ (hw _ (List.mem_of_getElem? (i := 6) rfl))) (by decide) (backOf (W := 0) (rm_hasTo_8 l Z a0 hw [] a_NONE a_TO a_BOTH a_FROM h0 n0 O0 En) hZ (hw _ (List.mem_of_getElem? (i := 8) rfl)) (hw _ (List.mem_of_getElem? (i := 1) rfl)) (by decide) (by decide)) q1a q1c (g := (mkF m 1 #[.val (.ref a_FROM), .val (.int (0 : Int32))] [(.ref a_FROM)])) rfl (by rw [hml]; rfl) (Steps.refl _) (argsL := []) (rest := []) (lenOf pd_0 rfl) rfl (by show 2 * 0 + _ ≤ _; exact Nat.le_of_eq rfl) (hb hby dc4_1) (fun _ _ => ⟨rfl, e0, (by decide : 0 + 0 ≤ _), (by decide : 0 + 0 ≤ _)⟩)
  dsimp only [Pt.U, Pt.locs, Pt.cells, Pt.slots] at X1 l1 y1 z1 st1 hQ1
  subst l1 y1 z1
  obtain ⟨rfl, N1q, hh1⟩ := hQ1
  have N1 := Fr.app N0 N1q
  obtain ⟨_, _, ⟨T2, L2, k2, n2⟩, -, X2, ⟨Lc2, hQ2, l2, y2, z2⟩, st2⟩ := Jvm.LawKit.callS X1 hx (y := (⟨"com/example/carbonfold/carbonfold/model/RosterItem$Subscription", "combined", "(ZZ)Lcom/example/carbonfold/carbonfold/model/RosterItem$Subscription;"⟩ : MethodName)) hown (mvT hZ (hw _ (List.mem_of_getElem? (i := 25) rfl))) (mvT hZ (hw _ (List.mem_of_getElem? (i := 26) rfl))) (mvT hZ (hw _ (List.mem_of_getElem? (i := 1) rfl))) (mvT hZ (hw _ (List.mem_of_getElem? (i := 27) rfl))) (by decide) (backOf (W := 0) (rm_combined_4 l Z a0 hw [] a_NONE a_TO a_BOTH a_FROM h0 n0 O0 En) hZ (hw _ (List.mem_of_getElem? (i := 27) rfl)) (hw _ (List.mem_of_getElem? (i := 1) rfl)) (by decide) (by decide)) (g := (mkF m 5 #[.val (.ref a_FROM), .val (.int (0 : Int32))] [(.int (0 : Int32)), (.int (0 : Int32))])) rfl (by rw [hml]; rfl) (argsL := [(.int (0 : Int32)), (.int (0 : Int32))]) (rest := []) (lenOf pd_1 rfl) rfl (by show 2 * 0 + _ ≤ _; exact Nat.le_of_eq rfl) (hb hby dc4_5) (fun _ _ => ⟨rfl, hh1, (by decide : 0 + 0 ≤ _), (by decide : 0 + 0 ≤ _)⟩)
  dsimp only [Pt.U, Pt.locs, Pt.cells, Pt.slots] at X2 l2 y2 z2 st2 hQ2
  subst l2 y2 z2
  obtain ⟨rfl, N2q, hh2⟩ := hQ2
  have N2 := Fr.app N1 N2q
  obtain ⟨fs, hr, hrun, hended, hW, hsame⟩ := X2.leave (v := some (.ref a_NONE)) (fun h => by rw [Bd.returns] at h; cases h)
  refine ⟨_, _, pre0 _ ?_, hrun, hended, _, _, rfl, ?_, ⟨_, rfl⟩, hW, hsame.mono (by decide) (by decide)⟩
  · skip
    show Steps p.tables e below (s₁.setTop (mkF m 0 #[.val (.ref a_FROM), .val (.int (0 : Int32))] [])) _
    refine XS.aloadN X0.here hx rfl (hb hby dc4_0) rfl rfl ?_
    show Steps p.tables e below (s₁.setTop (mkF m 1 #[.val (.ref a_FROM), .val (.int (0 : Int32))] [(.ref a_FROM)])) _
    refine st1.trans ?_
    show Steps p.tables e below (T1.setTop (mkF m 4 #[.val (.ref a_FROM), .val (.int (0 : Int32))] [(.int (0 : Int32))])) _
    refine XS.iloadN X1.here hx rfl (hb hby dc4_4) rfl ?_
    show Steps p.tables e below (T1.setTop (mkF m 5 #[.val (.ref a_FROM), .val (.int (0 : Int32))] [(.int (0 : Int32)), (.int (0 : Int32))])) _
    refine st2 _ ?_
    show Steps p.tables e below (T2.setTop (mkF m 8 #[.val (.ref a_FROM), .val (.int (0 : Int32))] [(.ref a_NONE)])) _
    exact retOut X2 hx (t := (.object "com/example/carbonfold/carbonfold/model/RosterItem$Subscription")) Bd.returns rfl (Or.inr (Or.inr (Or.inr (Or.inr ⟨rfl, rfl, rfl⟩)))) (hb hby dc4_8) hr
  · show Q_rm_withFrom_21 a_NONE a_TO a_BOTH a_FROM h0 n0 _ T2.heap _
    rw [hh2]
    exact ⟨rfl, N2, rfl⟩
def Q_rm_withFrom_22 (a_NONE a_TO a_BOTH a_FROM : Addr) (h0 : Heap) (n0 : Nat) (v : Option Value) (h : Heap) (L : List Loc) : Prop := v = some (.ref a_FROM) ∧ Fr n0 L ∧ h = h0
set_option maxRecDepth 65536 in
set_option maxHeartbeats 40000000 in
theorem rm_withFrom_22 (l : Launch) (Z : State) (a0 : Array Value) (hw : ∀ d ∈ tables_1, d.before a0 Z = true) (ws : List Jvm.Cond) (a_NONE a_TO a_BOTH a_FROM : Addr) (h0 : Heap) (n0 : Nat) (O0 : Old Z n0 h0) (En : OwnEnv Z a_NONE a_TO a_BOTH a_FROM) :
    MetFree l (⟨"com/example/carbonfold/carbonfold/model/RosterItem$Subscription", "withFrom", "(Z)Lcom/example/carbonfold/carbonfold/model/RosterItem$Subscription;"⟩ : MethodName) (head1 (Jvm.Cond.code (⟨"com/example/carbonfold/carbonfold/model/RosterItem$Subscription", "withFrom", "(Z)Lcom/example/carbonfold/carbonfold/model/RosterItem$Subscription;"⟩ : MethodName) prog_67_method_8_code 2 (some (.object "com/example/carbonfold/carbonfold/model/RosterItem$Subscription")) :: ws) ({ frames := 1, cells := 0, slots := 0, locals := 13 } : Room)) (fun a U => a = #[(.ref a_FROM), (.int (1 : Int32))] ∧ Z.Warmed39 U.vm ∧ U.heap = h0) (fun _ _ _ _ _ => True) (fun _ U o U' => ∃ v L, o = .returned v ∧ Q_rm_withFrom_22 a_NONE a_TO a_BOTH a_FROM h0 n0 v U'.heap L ∧ FrameEnd U o U' L ({ frames := 1, cells := 0, slots := 0, locals := 13 } : Room).cells ({ frames := 1, cells := 0, slots := 0, locals := 13 } : Room).slots) := by
  refine MetFree.of_bodySF (plainFor_of_name pn_1) hisR ?_
  intro p e s m args below meth c s₁ Bd hml0 hP hK
  obtain ⟨rfl, hZ, hh⟩ := hP
  have hx := Bd.exec
  have hby := Bd.bytes
  have hml : c.maxLocals = 2 := hml0
  have hown : s.vm.findClass "com/example/carbonfold/carbonfold/model/RosterItem$Subscription" = some m.cls := findClass_of_methodNamed Bd.named
  have hnm := (name_of_methodNamed Bd.named Bd.method).1
  have X0 : Stand p l e ({ frames := 1, cells := 0, slots := 0, locals := 13 } : Room) s m #[(.ref a_FROM), (.int (1 : Int32))] below meth c s₁ [] 0 0 := Stand.of_body Bd
  have e0 : s₁.heap = h0 := by rw [← hh, Bd.state]; rfl
  have N0 := Fr.nil n0
  have pre0 : ∀ t, Steps p.tables e below (s₁.setTop (mkF m 0 #[.val (.ref a_FROM), .val (.int (1 : Int32))] [])) t → Steps p.tables e below (s₁.setTop (entryFrame m #[(.ref a_FROM), (.int (1 : Int32))] 2)) t := fun t k => castTop (ef_2 m a_FROM (1 : Int32)) k
  obtain ⟨S_a_NONE, X_a_NONE, S_a_TO, X_a_TO, S_a_BOTH, X_a_BOTH, S_a_FROM, X_a_FROM, F_a_NONE_ordinal, F_a_TO_ordinal, F_a_BOTH_ordinal, F_a_FROM_ordinal⟩ := id En
  obtain ⟨cq1, kq1, q1a, q1b, q1c⟩ := isOf hZ e0 (Exa.ext O0.2 X_a_FROM)
  obtain ⟨_, _, ⟨T1, L1, k1, n1⟩, -, X1, ⟨Lc1, hQ1, l1, y1, z1⟩, st1⟩ := X0.virtualBack hx (y := (⟨"com/example/carbonfold/carbonfold/model/RosterItem$Subscription", "hasTo", "()Z"⟩ : MethodName)) (z := (⟨"com/example/carbonfold/carbonfold/model/RosterItem$Subscription", "hasTo", "()Z"⟩ : MethodName)) hown (mvT hZ (hw _ (List.mem_of_getElem? (i := 33) rfl))) (mvT hZ (hw _ (List.mem_of_getElem? (i := 5) rfl))) (notFace_of_selects (args := #[]) (mvT hZ (hw _ (List.mem_of_getElem? (i := 7) rfl)))) (mvT hZ (hw _ (List.mem_of_getElem? (i := 7) rfl))) (mvT hZ (hw _ (List.mem_of_getElem? (i := 6) rfl))) (by decide) (backOf (W := 0) (rm_hasTo_8 l Z a0 hw [] a_NONE a_TO a_BOTH a_FROM h0 n0 O0 En) hZ (hw _ (List.mem_of_getElem? (i := 8) rfl)) (hw _ (List.mem_of_getElem? (i := 1) rfl)) (by decide) (by decide)) q1a q1c (g := (mkF m 1 #[.val (.ref a_FROM), .val (.int (1 : Int32))] [(.ref a_FROM)])) rfl (by rw [hml]; rfl) (Steps.refl _) (argsL := []) (rest := []) (lenOf pd_0 rfl) rfl (by show 2 * 0 + _ ≤ _; exact Nat.le_of_eq rfl) (hb hby dc4_1) (fun _ _ => ⟨rfl, e0, (by decide : 0 + 0 ≤ _), (by decide : 0 + 0 ≤ _)⟩)
  dsimp only [Pt.U, Pt.locs, Pt.cells, Pt.slots] at X1 l1 y1 z1 st1 hQ1
  subst l1 y1 z1
  obtain ⟨rfl, N1q, hh1⟩ := hQ1
  have N1 := Fr.app N0 N1q
  obtain ⟨_, _, ⟨T2, L2, k2, n2⟩, -, X2, ⟨Lc2, hQ2, l2, y2, z2⟩, st2⟩ := Jvm.LawKit.callS X1 hx (y := (⟨"com/example/carbonfold/carbonfold/model/RosterItem$Subscription", "combined", "(ZZ)Lcom/example/carbonfold/carbonfold/model/RosterItem$Subscription;"⟩ : MethodName)) hown (mvT hZ (hw _ (List.mem_of_getElem? (i := 25) rfl))) (mvT hZ (hw _ (List.mem_of_getElem? (i := 26) rfl))) (mvT hZ (hw _ (List.mem_of_getElem? (i := 1) rfl))) (mvT hZ (hw _ (List.mem_of_getElem? (i := 27) rfl))) (by decide) (backOf (W := 0) (rm_combined_7 l Z a0 hw [] a_NONE a_TO a_BOTH a_FROM h0 n0 O0 En) hZ (hw _ (List.mem_of_getElem? (i := 27) rfl)) (hw _ (List.mem_of_getElem? (i := 1) rfl)) (by decide) (by decide)) (g := (mkF m 5 #[.val (.ref a_FROM), .val (.int (1 : Int32))] [(.int (1 : Int32)), (.int (0 : Int32))])) rfl (by rw [hml]; rfl) (argsL := [(.int (0 : Int32)), (.int (1 : Int32))]) (rest := []) (lenOf pd_1 rfl) rfl (by show 2 * 0 + _ ≤ _; exact Nat.le_of_eq rfl) (hb hby dc4_5) (fun _ _ => ⟨rfl, hh1, (by decide : 0 + 0 ≤ _), (by decide : 0 + 0 ≤ _)⟩)
  dsimp only [Pt.U, Pt.locs, Pt.cells, Pt.slots] at X2 l2 y2 z2 st2 hQ2
  subst l2 y2 z2
  obtain ⟨rfl, N2q, hh2⟩ := hQ2
  have N2 := Fr.app N1 N2q
  obtain ⟨fs, hr, hrun, hended, hW, hsame⟩ := X2.leave (v := some (.ref a_FROM)) (fun h => by rw [Bd.returns] at h; cases h)
  refine ⟨_, _, pre0 _ ?_, hrun, hended, _, _, rfl, ?_, ⟨_, rfl⟩, hW, hsame.mono (by decide) (by decide)⟩
  · skip
    show Steps p.tables e below (s₁.setTop (mkF m 0 #[.val (.ref a_FROM), .val (.int (1 : Int32))] [])) _
    refine XS.aloadN X0.here hx rfl (hb hby dc4_0) rfl rfl ?_
    show Steps p.tables e below (s₁.setTop (mkF m 1 #[.val (.ref a_FROM), .val (.int (1 : Int32))] [(.ref a_FROM)])) _
    refine st1.trans ?_
    show Steps p.tables e below (T1.setTop (mkF m 4 #[.val (.ref a_FROM), .val (.int (1 : Int32))] [(.int (0 : Int32))])) _
    refine XS.iloadN X1.here hx rfl (hb hby dc4_4) rfl ?_
    show Steps p.tables e below (T1.setTop (mkF m 5 #[.val (.ref a_FROM), .val (.int (1 : Int32))] [(.int (1 : Int32)), (.int (0 : Int32))])) _
    refine st2 _ ?_
    show Steps p.tables e below (T2.setTop (mkF m 8 #[.val (.ref a_FROM), .val (.int (1 : Int32))] [(.ref a_FROM)])) _
    exact retOut X2 hx (t := (.object "com/example/carbonfold/carbonfold/model/RosterItem$Subscription")) Bd.returns rfl (Or.inr (Or.inr (Or.inr (Or.inr ⟨rfl, rfl, rfl⟩)))) (hb hby dc4_8) hr
  · show Q_rm_withFrom_22 a_NONE a_TO a_BOTH a_FROM h0 n0 _ T2.heap _
    rw [hh2]
    exact ⟨rfl, N2, rfl⟩
def Q_rm_withTo_23 (a_NONE a_TO a_BOTH a_FROM : Addr) (h0 : Heap) (n0 : Nat) (v : Option Value) (h : Heap) (L : List Loc) : Prop := v = some (.ref a_BOTH) ∧ Fr n0 L ∧ h = h0
set_option maxRecDepth 65536 in
set_option maxHeartbeats 40000000 in
theorem rm_withTo_23 (l : Launch) (Z : State) (a0 : Array Value) (hw : ∀ d ∈ tables_1, d.before a0 Z = true) (ws : List Jvm.Cond) (a_NONE a_TO a_BOTH a_FROM : Addr) (h0 : Heap) (n0 : Nat) (O0 : Old Z n0 h0) (En : OwnEnv Z a_NONE a_TO a_BOTH a_FROM) :
    MetFree l (⟨"com/example/carbonfold/carbonfold/model/RosterItem$Subscription", "withTo", "(Z)Lcom/example/carbonfold/carbonfold/model/RosterItem$Subscription;"⟩ : MethodName) (head1 (Jvm.Cond.code (⟨"com/example/carbonfold/carbonfold/model/RosterItem$Subscription", "withTo", "(Z)Lcom/example/carbonfold/carbonfold/model/RosterItem$Subscription;"⟩ : MethodName) prog_67_method_7_code 2 (some (.object "com/example/carbonfold/carbonfold/model/RosterItem$Subscription")) :: ws) ({ frames := 1, cells := 0, slots := 0, locals := 13 } : Room)) (fun a U => a = #[(.ref a_FROM), (.int (1 : Int32))] ∧ Z.Warmed39 U.vm ∧ U.heap = h0) (fun _ _ _ _ _ => True) (fun _ U o U' => ∃ v L, o = .returned v ∧ Q_rm_withTo_23 a_NONE a_TO a_BOTH a_FROM h0 n0 v U'.heap L ∧ FrameEnd U o U' L ({ frames := 1, cells := 0, slots := 0, locals := 13 } : Room).cells ({ frames := 1, cells := 0, slots := 0, locals := 13 } : Room).slots) := by
  refine MetFree.of_bodySF (plainFor_of_name pn_1) hisR ?_
  intro p e s m args below meth c s₁ Bd hml0 hP hK
  obtain ⟨rfl, hZ, hh⟩ := hP
  have hx := Bd.exec
  have hby := Bd.bytes
  have hml : c.maxLocals = 2 := hml0
  have hown : s.vm.findClass "com/example/carbonfold/carbonfold/model/RosterItem$Subscription" = some m.cls := findClass_of_methodNamed Bd.named
  have hnm := (name_of_methodNamed Bd.named Bd.method).1
  have X0 : Stand p l e ({ frames := 1, cells := 0, slots := 0, locals := 13 } : Room) s m #[(.ref a_FROM), (.int (1 : Int32))] below meth c s₁ [] 0 0 := Stand.of_body Bd
  have e0 : s₁.heap = h0 := by rw [← hh, Bd.state]; rfl
  have N0 := Fr.nil n0
  have pre0 : ∀ t, Steps p.tables e below (s₁.setTop (mkF m 0 #[.val (.ref a_FROM), .val (.int (1 : Int32))] [])) t → Steps p.tables e below (s₁.setTop (entryFrame m #[(.ref a_FROM), (.int (1 : Int32))] 2)) t := fun t k => castTop (ef_2 m a_FROM (1 : Int32)) k
  obtain ⟨S_a_NONE, X_a_NONE, S_a_TO, X_a_TO, S_a_BOTH, X_a_BOTH, S_a_FROM, X_a_FROM, F_a_NONE_ordinal, F_a_TO_ordinal, F_a_BOTH_ordinal, F_a_FROM_ordinal⟩ := id En
  obtain ⟨cq1, kq1, q1a, q1b, q1c⟩ := isOf hZ e0 (Exa.ext O0.2 X_a_FROM)
  obtain ⟨_, _, ⟨T1, L1, k1, n1⟩, -, X1, ⟨Lc1, hQ1, l1, y1, z1⟩, st1⟩ := X0.virtualBack hx (y := (⟨"com/example/carbonfold/carbonfold/model/RosterItem$Subscription", "hasFrom", "()Z"⟩ : MethodName)) (z := (⟨"com/example/carbonfold/carbonfold/model/RosterItem$Subscription", "hasFrom", "()Z"⟩ : MethodName)) hown (mvT hZ (hw _ (List.mem_of_getElem? (i := 18) rfl))) (mvT hZ (hw _ (List.mem_of_getElem? (i := 19) rfl))) (notFace_of_selects (args := #[]) (mvT hZ (hw _ (List.mem_of_getElem? (i := 21) rfl)))) (mvT hZ (hw _ (List.mem_of_getElem? (i := 21) rfl))) (mvT hZ (hw _ (List.mem_of_getElem? (i := 20) rfl))) (by decide) (backOf (W := 1) (rm_hasFrom_20 l Z a0 hw [] a_NONE a_TO a_BOTH a_FROM h0 n0 O0 En) hZ (hw _ (List.mem_of_getElem? (i := 22) rfl)) (hw _ (List.mem_of_getElem? (i := 1) rfl)) (by decide) (by decide)) q1a q1c (g := (mkF m 2 #[.val (.ref a_FROM), .val (.int (1 : Int32))] [(.ref a_FROM), (.int (1 : Int32))])) rfl (by rw [hml]; rfl) (Steps.refl _) (argsL := []) (rest := [(.int (1 : Int32))]) (lenOf pd_0 rfl) rfl (by show 2 * 0 + _ ≤ _; exact Nat.le_of_eq rfl) (hb hby dc1_2) (fun _ _ => ⟨rfl, e0, (by decide : 0 + 0 ≤ _), (by decide : 0 + 0 ≤ _)⟩)
  dsimp only [Pt.U, Pt.locs, Pt.cells, Pt.slots] at X1 l1 y1 z1 st1 hQ1
  subst l1 y1 z1
  obtain ⟨rfl, N1q, hh1⟩ := hQ1
  have N1 := Fr.app N0 N1q
  obtain ⟨_, _, ⟨T2, L2, k2, n2⟩, -, X2, ⟨Lc2, hQ2, l2, y2, z2⟩, st2⟩ := Jvm.LawKit.callS X1 hx (y := (⟨"com/example/carbonfold/carbonfold/model/RosterItem$Subscription", "combined", "(ZZ)Lcom/example/carbonfold/carbonfold/model/RosterItem$Subscription;"⟩ : MethodName)) hown (mvT hZ (hw _ (List.mem_of_getElem? (i := 25) rfl))) (mvT hZ (hw _ (List.mem_of_getElem? (i := 26) rfl))) (mvT hZ (hw _ (List.mem_of_getElem? (i := 1) rfl))) (mvT hZ (hw _ (List.mem_of_getElem? (i := 27) rfl))) (by decide) (backOf (W := 0) (rm_combined_16 l Z a0 hw [] a_NONE a_TO a_BOTH a_FROM h0 n0 O0 En) hZ (hw _ (List.mem_of_getElem? (i := 27) rfl)) (hw _ (List.mem_of_getElem? (i := 1) rfl)) (by decide) (by decide)) (g := (mkF m 5 #[.val (.ref a_FROM), .val (.int (1 : Int32))] [(.int (1 : Int32)), (.int (1 : Int32))])) rfl (by rw [hml]; rfl) (argsL := [(.int (1 : Int32)), (.int (1 : Int32))]) (rest := []) (lenOf pd_1 rfl) rfl (by show 2 * 0 + _ ≤ _; exact Nat.le_of_eq rfl) (hb hby dc1_5) (fun _ _ => ⟨rfl, hh1, (by decide : 0 + 0 ≤ _), (by decide : 0 + 0 ≤ _)⟩)
  dsimp only [Pt.U, Pt.locs, Pt.cells, Pt.slots] at X2 l2 y2 z2 st2 hQ2
  subst l2 y2 z2
  obtain ⟨rfl, N2q, hh2⟩ := hQ2
  have N2 := Fr.app N1 N2q
  obtain ⟨fs, hr, hrun, hended, hW, hsame⟩ := X2.leave (v := some (.ref a_BOTH)) (fun h => by rw [Bd.returns] at h; cases h)
  refine ⟨_, _, pre0 _ ?_, hrun, hended, _, _, rfl, ?_, ⟨_, rfl⟩, hW, hsame.mono (by decide) (by decide)⟩
  · skip
    show Steps p.tables e below (s₁.setTop (mkF m 0 #[.val (.ref a_FROM), .val (.int (1 : Int32))] [])) _
    refine XS.iloadN X0.here hx rfl (hb hby dc1_0) rfl ?_
    show Steps p.tables e below (s₁.setTop (mkF m 1 #[.val (.ref a_FROM), .val (.int (1 : Int32))] [(.int (1 : Int32))])) _
    refine XS.aloadN X0.here hx rfl (hb hby dc1_1) rfl rfl ?_
    show Steps p.tables e below (s₁.setTop (mkF m 2 #[.val (.ref a_FROM), .val (.int (1 : Int32))] [(.ref a_FROM), (.int (1 : Int32))])) _
    refine st1.trans ?_
    show Steps p.tables e below (T1.setTop (mkF m 5 #[.val (.ref a_FROM), .val (.int (1 : Int32))] [(.int (1 : Int32)), (.int (1 : Int32))])) _
    refine st2 _ ?_
    show Steps p.tables e below (T2.setTop (mkF m 8 #[.val (.ref a_FROM), .val (.int (1 : Int32))] [(.ref a_BOTH)])) _
    exact retOut X2 hx (t := (.object "com/example/carbonfold/carbonfold/model/RosterItem$Subscription")) Bd.returns rfl (Or.inr (Or.inr (Or.inr (Or.inr ⟨rfl, rfl, rfl⟩)))) (hb hby dc1_8) hr
  · show Q_rm_withTo_23 a_NONE a_TO a_BOTH a_FROM h0 n0 _ T2.heap _
    rw [hh2]
    exact ⟨rfl, N2, rfl⟩
def Q_rm_hasFrom_25 (a_NONE a_TO a_BOTH a_FROM : Addr) (h0 : Heap) (n0 : Nat) (v : Option Value) (h : Heap) (L : List Loc) : Prop := v = some (.int (1 : Int32)) ∧ Fr n0 L ∧ h = h0
set_option maxRecDepth 65536 in
set_option maxHeartbeats 40000000 in
theorem rm_hasFrom_25 (l : Launch) (Z : State) (a0 : Array Value) (hw : ∀ d ∈ tables_1, d.before a0 Z = true) (ws : List Jvm.Cond) (a_NONE a_TO a_BOTH a_FROM : Addr) (h0 : Heap) (n0 : Nat) (O0 : Old Z n0 h0) (En : OwnEnv Z a_NONE a_TO a_BOTH a_FROM) :
    MetFree l (⟨"com/example/carbonfold/carbonfold/model/RosterItem$Subscription", "hasFrom", "()Z"⟩ : MethodName) (head1 (Jvm.Cond.code (⟨"com/example/carbonfold/carbonfold/model/RosterItem$Subscription", "hasFrom", "()Z"⟩ : MethodName) prog_67_method_6_code 1 (some .boolean) :: ws) ({ frames := 0, cells := 0, slots := 0, locals := 0 } : Room)) (fun a U => a = #[(.ref a_BOTH)] ∧ Z.Warmed39 U.vm ∧ U.heap = h0) (fun _ _ _ _ _ => True) (fun _ U o U' => ∃ v L, o = .returned v ∧ Q_rm_hasFrom_25 a_NONE a_TO a_BOTH a_FROM h0 n0 v U'.heap L ∧ FrameEnd U o U' L ({ frames := 0, cells := 0, slots := 0, locals := 0 } : Room).cells ({ frames := 0, cells := 0, slots := 0, locals := 0 } : Room).slots) := by
  refine MetFree.of_bodySF (plainFor_of_name pn_1) hisR ?_
  intro p e s m args below meth c s₁ Bd hml0 hP hK
  obtain ⟨rfl, hZ, hh⟩ := hP
  have hx := Bd.exec
  have hby := Bd.bytes
  have hml : c.maxLocals = 1 := hml0
  have hown : s.vm.findClass "com/example/carbonfold/carbonfold/model/RosterItem$Subscription" = some m.cls := findClass_of_methodNamed Bd.named
  have hnm := (name_of_methodNamed Bd.named Bd.method).1
  have X0 : Stand p l e ({ frames := 0, cells := 0, slots := 0, locals := 0 } : Room) s m #[(.ref a_BOTH)] below meth c s₁ [] 0 0 := Stand.of_body Bd
  have e0 : s₁.heap = h0 := by rw [← hh, Bd.state]; rfl
  have N0 := Fr.nil n0
  have pre0 : ∀ t, Steps p.tables e below (s₁.setTop (mkF m 0 #[.val (.ref a_BOTH)] [])) t → Steps p.tables e below (s₁.setTop (entryFrame m #[(.ref a_BOTH)] 1)) t := fun t k => castTop (ef_1 m a_BOTH) k
  obtain ⟨S_a_NONE, X_a_NONE, S_a_TO, X_a_TO, S_a_BOTH, X_a_BOTH, S_a_FROM, X_a_FROM, F_a_NONE_ordinal, F_a_TO_ordinal, F_a_BOTH_ordinal, F_a_FROM_ordinal⟩ := id En
  obtain ⟨T1, X1, e1, st1⟩ := getS2 X0 hx hZ hown (host := "") (Or.inl (hw _ (List.mem_of_getElem? (i := 23) rfl))) Via.refl e0 (Sta.ext O0.2 S_a_FROM) (g := (mkF m 1 #[.val (.ref a_BOTH)] [(.ref a_BOTH)])) rfl (hb hby dc2_1)
  obtain ⟨T2, X2, e2, st2⟩ := getS2 X1 hx hZ hown (host := "") (Or.inl (hw _ (List.mem_of_getElem? (i := 11) rfl))) Via.refl e1 (Sta.ext O0.2 S_a_BOTH) (g := (mkF m 8 #[.val (.ref a_BOTH)] [(.ref a_BOTH)])) rfl (hb hby dc2_8)
  obtain ⟨fs, hr, hrun, hended, hW, hsame⟩ := X2.leave (v := some (.int (1 : Int32))) (fun h => by rw [Bd.returns] at h; cases h)
  refine ⟨_, _, pre0 _ ?_, hrun, hended, _, _, rfl, ?_, ⟨_, rfl⟩, hW, hsame.mono (by decide) (by decide)⟩
  · skip
    show Steps p.tables e below (s₁.setTop (mkF m 0 #[.val (.ref a_BOTH)] [])) _
    refine XS.aloadN X0.here hx rfl (hb hby dc2_0) rfl rfl ?_
    show Steps p.tables e below (s₁.setTop (mkF m 1 #[.val (.ref a_BOTH)] [(.ref a_BOTH)])) _
    refine st1 _ ?_
    show Steps p.tables e below (T1.setTop (mkF m 4 #[.val (.ref a_BOTH)] [(.ref a_FROM), (.ref a_BOTH)])) _
    refine Jvm.RoadKit.acmp (g := (mkF m 4 #[.val (.ref a_BOTH)] [(.ref a_FROM), (.ref a_BOTH)])) X1 hx rfl rfl rfl (pc0 := 4) (pc' := 7) (same := false) rfl (hb hby dc2_4) rfl (decide_eq_false fun q => (Fld.ne F_a_BOTH_ordinal F_a_FROM_ordinal (by simp)) (Value.ref.inj q)) (by decide) (by decide) ?_
    show Steps p.tables e below (T1.setTop (mkF m 7 #[.val (.ref a_BOTH)] [])) _
    refine XS.aloadN X1.here hx rfl (hb hby dc2_7) rfl rfl ?_
    show Steps p.tables e below (T1.setTop (mkF m 8 #[.val (.ref a_BOTH)] [(.ref a_BOTH)])) _
    refine st2 _ ?_
    show Steps p.tables e below (T2.setTop (mkF m 11 #[.val (.ref a_BOTH)] [(.ref a_BOTH), (.ref a_BOTH)])) _
    refine Jvm.RoadKit.acmp (g := (mkF m 11 #[.val (.ref a_BOTH)] [(.ref a_BOTH), (.ref a_BOTH)])) X2 hx rfl rfl rfl (pc0 := 11) (pc' := 14) (same := true) rfl (hb hby dc2_11) rfl (decide_eq_true rfl) (by decide) (by decide) ?_
    show Steps p.tables e below (T2.setTop (mkF m 14 #[.val (.ref a_BOTH)] [])) _
    refine XS.iconst X2.here hx rfl (hb hby dc2_14) ?_
    show Steps p.tables e below (T2.setTop (mkF m 15 #[.val (.ref a_BOTH)] [(.int (1 : Int32))])) _
    refine XS.goto X2.here hx rfl (pc0 := 15) (pc' := 19) rfl (hb hby dc2_15) (by decide) (by decide) ?_
    show Steps p.tables e below (T2.setTop (mkF m 19 #[.val (.ref a_BOTH)] [(.int (1 : Int32))])) _
    exact retN X2 hx (t := .boolean) Bd.returns (by simp) (hb hby dc2_19) hr
  · show Q_rm_hasFrom_25 a_NONE a_TO a_BOTH a_FROM h0 n0 _ T2.heap _
    rw [e2]
    exact ⟨rfl, N0, rfl⟩
def Q_rm_withTo_24 (a_NONE a_TO a_BOTH a_FROM : Addr) (h0 : Heap) (n0 : Nat) (v : Option Value) (h : Heap) (L : List Loc) : Prop := v = some (.ref a_FROM) ∧ Fr n0 L ∧ h = h0
set_option maxRecDepth 65536 in
set_option maxHeartbeats 40000000 in
theorem rm_withTo_24 (l : Launch) (Z : State) (a0 : Array Value) (hw : ∀ d ∈ tables_1, d.before a0 Z = true) (ws : List Jvm.Cond) (a_NONE a_TO a_BOTH a_FROM : Addr) (h0 : Heap) (n0 : Nat) (O0 : Old Z n0 h0) (En : OwnEnv Z a_NONE a_TO a_BOTH a_FROM) :
    MetFree l (⟨"com/example/carbonfold/carbonfold/model/RosterItem$Subscription", "withTo", "(Z)Lcom/example/carbonfold/carbonfold/model/RosterItem$Subscription;"⟩ : MethodName) (head1 (Jvm.Cond.code (⟨"com/example/carbonfold/carbonfold/model/RosterItem$Subscription", "withTo", "(Z)Lcom/example/carbonfold/carbonfold/model/RosterItem$Subscription;"⟩ : MethodName) prog_67_method_7_code 2 (some (.object "com/example/carbonfold/carbonfold/model/RosterItem$Subscription")) :: ws) ({ frames := 1, cells := 0, slots := 0, locals := 13 } : Room)) (fun a U => a = #[(.ref a_BOTH), (.int (0 : Int32))] ∧ Z.Warmed39 U.vm ∧ U.heap = h0) (fun _ _ _ _ _ => True) (fun _ U o U' => ∃ v L, o = .returned v ∧ Q_rm_withTo_24 a_NONE a_TO a_BOTH a_FROM h0 n0 v U'.heap L ∧ FrameEnd U o U' L ({ frames := 1, cells := 0, slots := 0, locals := 13 } : Room).cells ({ frames := 1, cells := 0, slots := 0, locals := 13 } : Room).slots) := by
  refine MetFree.of_bodySF (plainFor_of_name pn_1) hisR ?_
  intro p e s m args below meth c s₁ Bd hml0 hP hK
  obtain ⟨rfl, hZ, hh⟩ := hP
  have hx := Bd.exec
  have hby := Bd.bytes
  have hml : c.maxLocals = 2 := hml0
  have hown : s.vm.findClass "com/example/carbonfold/carbonfold/model/RosterItem$Subscription" = some m.cls := findClass_of_methodNamed Bd.named
  have hnm := (name_of_methodNamed Bd.named Bd.method).1
  have X0 : Stand p l e ({ frames := 1, cells := 0, slots := 0, locals := 13 } : Room) s m #[(.ref a_BOTH), (.int (0 : Int32))] below meth c s₁ [] 0 0 := Stand.of_body Bd
  have e0 : s₁.heap = h0 := by rw [← hh, Bd.state]; rfl
  have N0 := Fr.nil n0
  have pre0 : ∀ t, Steps p.tables e below (s₁.setTop (mkF m 0 #[.val (.ref a_BOTH), .val (.int (0 : Int32))] [])) t → Steps p.tables e below (s₁.setTop (entryFrame m #[(.ref a_BOTH), (.int (0 : Int32))] 2)) t := fun t k => castTop (ef_2 m a_BOTH (0 : Int32)) k
  obtain ⟨S_a_NONE, X_a_NONE, S_a_TO, X_a_TO, S_a_BOTH, X_a_BOTH, S_a_FROM, X_a_FROM, F_a_NONE_ordinal, F_a_TO_ordinal, F_a_BOTH_ordinal, F_a_FROM_ordinal⟩ := id En
  obtain ⟨cq1, kq1, q1a, q1b, q1c⟩ := isOf hZ e0 (Exa.ext O0.2 X_a_BOTH)
  obtain ⟨_, _, ⟨T1, L1, k1, n1⟩, -, X1, ⟨Lc1, hQ1, l1, y1, z1⟩, st1⟩ := X0.virtualBack hx (y := (⟨"com/example/carbonfold/carbonfold/model/RosterItem$Subscription", "hasFrom", "()Z"⟩ : MethodName)) (z := (⟨"com/example/carbonfold/carbonfold/model/RosterItem$Subscription", "hasFrom", "()Z"⟩ : MethodName)) hown (mvT hZ (hw _ (List.mem_of_getElem? (i := 18) rfl))) (mvT hZ (hw _ (List.mem_of_getElem? (i := 19) rfl))) (notFace_of_selects (args := #[]) (mvT hZ (hw _ (List.mem_of_getElem? (i := 21) rfl)))) (mvT hZ (hw _ (List.mem_of_getElem? (i := 21) rfl))) (mvT hZ (hw _ (List.mem_of_getElem? (i := 20) rfl))) (by decide) (backOf (W := 1) (rm_hasFrom_25 l Z a0 hw [] a_NONE a_TO a_BOTH a_FROM h0 n0 O0 En) hZ (hw _ (List.mem_of_getElem? (i := 22) rfl)) (hw _ (List.mem_of_getElem? (i := 1) rfl)) (by decide) (by decide)) q1a q1c (g := (mkF m 2 #[.val (.ref a_BOTH), .val (.int (0 : Int32))] [(.ref a_BOTH), (.int (0 : Int32))])) rfl (by rw [hml]; rfl) (Steps.refl _) (argsL := []) (rest := [(.int (0 : Int32))]) (lenOf pd_0 rfl) rfl (by show 2 * 0 + _ ≤ _; exact Nat.le_of_eq rfl) (hb hby dc1_2) (fun _ _ => ⟨rfl, e0, (by decide : 0 + 0 ≤ _), (by decide : 0 + 0 ≤ _)⟩)
  dsimp only [Pt.U, Pt.locs, Pt.cells, Pt.slots] at X1 l1 y1 z1 st1 hQ1
  subst l1 y1 z1
  obtain ⟨rfl, N1q, hh1⟩ := hQ1
  have N1 := Fr.app N0 N1q
  obtain ⟨_, _, ⟨T2, L2, k2, n2⟩, -, X2, ⟨Lc2, hQ2, l2, y2, z2⟩, st2⟩ := Jvm.LawKit.callS X1 hx (y := (⟨"com/example/carbonfold/carbonfold/model/RosterItem$Subscription", "combined", "(ZZ)Lcom/example/carbonfold/carbonfold/model/RosterItem$Subscription;"⟩ : MethodName)) hown (mvT hZ (hw _ (List.mem_of_getElem? (i := 25) rfl))) (mvT hZ (hw _ (List.mem_of_getElem? (i := 26) rfl))) (mvT hZ (hw _ (List.mem_of_getElem? (i := 1) rfl))) (mvT hZ (hw _ (List.mem_of_getElem? (i := 27) rfl))) (by decide) (backOf (W := 0) (rm_combined_7 l Z a0 hw [] a_NONE a_TO a_BOTH a_FROM h0 n0 O0 En) hZ (hw _ (List.mem_of_getElem? (i := 27) rfl)) (hw _ (List.mem_of_getElem? (i := 1) rfl)) (by decide) (by decide)) (g := (mkF m 5 #[.val (.ref a_BOTH), .val (.int (0 : Int32))] [(.int (1 : Int32)), (.int (0 : Int32))])) rfl (by rw [hml]; rfl) (argsL := [(.int (0 : Int32)), (.int (1 : Int32))]) (rest := []) (lenOf pd_1 rfl) rfl (by show 2 * 0 + _ ≤ _; exact Nat.le_of_eq rfl) (hb hby dc1_5) (fun _ _ => ⟨rfl, hh1, (by decide : 0 + 0 ≤ _), (by decide : 0 + 0 ≤ _)⟩)
  dsimp only [Pt.U, Pt.locs, Pt.cells, Pt.slots] at X2 l2 y2 z2 st2 hQ2
  subst l2 y2 z2
  obtain ⟨rfl, N2q, hh2⟩ := hQ2
  have N2 := Fr.app N1 N2q
  obtain ⟨fs, hr, hrun, hended, hW, hsame⟩ := X2.leave (v := some (.ref a_FROM)) (fun h => by rw [Bd.returns] at h; cases h)
  refine ⟨_, _, pre0 _ ?_, hrun, hended, _, _, rfl, ?_, ⟨_, rfl⟩, hW, hsame.mono (by decide) (by decide)⟩
  · skip
    show Steps p.tables e below (s₁.setTop (mkF m 0 #[.val (.ref a_BOTH), .val (.int (0 : Int32))] [])) _
    refine XS.iloadN X0.here hx rfl (hb hby dc1_0) rfl ?_
    show Steps p.tables e below (s₁.setTop (mkF m 1 #[.val (.ref a_BOTH), .val (.int (0 : Int32))] [(.int (0 : Int32))])) _
    refine XS.aloadN X0.here hx rfl (hb hby dc1_1) rfl rfl ?_
    show Steps p.tables e below (s₁.setTop (mkF m 2 #[.val (.ref a_BOTH), .val (.int (0 : Int32))] [(.ref a_BOTH), (.int (0 : Int32))])) _
    refine st1.trans ?_
    show Steps p.tables e below (T1.setTop (mkF m 5 #[.val (.ref a_BOTH), .val (.int (0 : Int32))] [(.int (1 : Int32)), (.int (0 : Int32))])) _
    refine st2 _ ?_
    show Steps p.tables e below (T2.setTop (mkF m 8 #[.val (.ref a_BOTH), .val (.int (0 : Int32))] [(.ref a_FROM)])) _
    exact retOut X2 hx (t := (.object "com/example/carbonfold/carbonfold/model/RosterItem$Subscription")) Bd.returns rfl (Or.inr (Or.inr (Or.inr (Or.inr ⟨rfl, rfl, rfl⟩)))) (hb hby dc1_8) hr
  · show Q_rm_withTo_24 a_NONE a_TO a_BOTH a_FROM h0 n0 _ T2.heap _
    rw [hh2]
    exact ⟨rfl, N2, rfl⟩
def Q_rm_withFrom_26 (a_NONE a_TO a_BOTH a_FROM : Addr) (h0 : Heap) (n0 : Nat) (v : Option Value) (h : Heap) (L : List Loc) : Prop := v = some (.ref a_TO) ∧ Fr n0 L ∧ h = h0
set_option maxRecDepth 65536 in
set_option maxHeartbeats 40000000 in
theorem rm_withFrom_26 (l : Launch) (Z : State) (a0 : Array Value) (hw : ∀ d ∈ tables_1, d.before a0 Z = true) (ws : List Jvm.Cond) (a_NONE a_TO a_BOTH a_FROM : Addr) (h0 : Heap) (n0 : Nat) (O0 : Old Z n0 h0) (En : OwnEnv Z a_NONE a_TO a_BOTH a_FROM) :
    MetFree l (⟨"com/example/carbonfold/carbonfold/model/RosterItem$Subscription", "withFrom", "(Z)Lcom/example/carbonfold/carbonfold/model/RosterItem$Subscription;"⟩ : MethodName) (head1 (Jvm.Cond.code (⟨"com/example/carbonfold/carbonfold/model/RosterItem$Subscription", "withFrom", "(Z)Lcom/example/carbonfold/carbonfold/model/RosterItem$Subscription;"⟩ : MethodName) prog_67_method_8_code 2 (some (.object "com/example/carbonfold/carbonfold/model/RosterItem$Subscription")) :: ws) ({ frames := 1, cells := 0, slots := 0, locals := 13 } : Room)) (fun a U => a = #[(.ref a_BOTH), (.int (0 : Int32))] ∧ Z.Warmed39 U.vm ∧ U.heap = h0) (fun _ _ _ _ _ => True) (fun _ U o U' => ∃ v L, o = .returned v ∧ Q_rm_withFrom_26 a_NONE a_TO a_BOTH a_FROM h0 n0 v U'.heap L ∧ FrameEnd U o U' L ({ frames := 1, cells := 0, slots := 0, locals := 13 } : Room).cells ({ frames := 1, cells := 0, slots := 0, locals := 13 } : Room).slots) := by
  refine MetFree.of_bodySF (plainFor_of_name pn_1) hisR ?_
  intro p e s m args below meth c s₁ Bd hml0 hP hK
  obtain ⟨rfl, hZ, hh⟩ := hP
  have hx := Bd.exec
  have hby := Bd.bytes
  have hml : c.maxLocals = 2 := hml0
  have hown : s.vm.findClass "com/example/carbonfold/carbonfold/model/RosterItem$Subscription" = some m.cls := findClass_of_methodNamed Bd.named
  have hnm := (name_of_methodNamed Bd.named Bd.method).1
  have X0 : Stand p l e ({ frames := 1, cells := 0, slots := 0, locals := 13 } : Room) s m #[(.ref a_BOTH), (.int (0 : Int32))] below meth c s₁ [] 0 0 := Stand.of_body Bd
  have e0 : s₁.heap = h0 := by rw [← hh, Bd.state]; rfl
  have N0 := Fr.nil n0
  have pre0 : ∀ t, Steps p.tables e below (s₁.setTop (mkF m 0 #[.val (.ref a_BOTH), .val (.int (0 : Int32))] [])) t → Steps p.tables e below (s₁.setTop (entryFrame m #[(.ref a_BOTH), (.int (0 : Int32))] 2)) t := fun t k => castTop (ef_2 m a_BOTH (0 : Int32)) k
  obtain ⟨S_a_NONE, X_a_NONE, S_a_TO, X_a_TO, S_a_BOTH, X_a_BOTH, S_a_FROM, X_a_FROM, F_a_NONE_ordinal, F_a_TO_ordinal, F_a_BOTH_ordinal, F_a_FROM_ordinal⟩ := id En
  obtain ⟨cq1, kq1, q1a, q1b, q1c⟩ := isOf hZ e0 (Exa.ext O0.2 X_a_BOTH)
  obtain ⟨_, _, ⟨T1, L1, k1, n1⟩, -, X1, ⟨Lc1, hQ1, l1, y1, z1⟩, st1⟩ := X0.virtualBack hx (y := (⟨"com/example/carbonfold/carbonfold/model/RosterItem$Subscription", "hasTo", "()Z"⟩ : MethodName)) (z := (⟨"com/example/carbonfold/carbonfold/model/RosterItem$Subscription", "hasTo", "()Z"⟩ : MethodName)) hown (mvT hZ (hw _ (List.mem_of_getElem? (i := 33) rfl))) (mvT hZ (hw _ (List.mem_of_getElem? (i := 5) rfl))) (notFace_of_selects (args := #[]) (mvT hZ (hw _ (List.mem_of_getElem? (i := 7) rfl)))) (mvT hZ (hw _ (List.mem_of_getElem? (i := 7) rfl))) (mvT hZ (hw _ (List.mem_of_getElem? (i := 6) rfl))) (by decide) (backOf (W := 0) (rm_hasTo_17 l Z a0 hw [] a_NONE a_TO a_BOTH a_FROM h0 n0 O0 En) hZ (hw _ (List.mem_of_getElem? (i := 8) rfl)) (hw _ (List.mem_of_getElem? (i := 1) rfl)) (by decide) (by decide)) q1a q1c (g := (mkF m 1 #[.val (.ref a_BOTH), .val (.int (0 : Int32))] [(.ref a_BOTH)])) rfl (by rw [hml]; rfl) (Steps.refl _) (argsL := []) (rest := []) (lenOf pd_0 rfl) rfl (by show 2 * 0 + _ ≤ _; exact Nat.le_of_eq rfl) (hb hby dc4_1) (fun _ _ => ⟨rfl, e0, (by decide : 0 + 0 ≤ _), (by decide : 0 + 0 ≤ _)⟩)
  dsimp only [Pt.U, Pt.locs, Pt.cells, Pt.slots] at X1 l1 y1 z1 st1 hQ1
  subst l1 y1 z1
  obtain ⟨rfl, N1q, hh1⟩ := hQ1
  have N1 := Fr.app N0 N1q
  obtain ⟨_, _, ⟨T2, L2, k2, n2⟩, -, X2, ⟨Lc2, hQ2, l2, y2, z2⟩, st2⟩ := Jvm.LawKit.callS X1 hx (y := (⟨"com/example/carbonfold/carbonfold/model/RosterItem$Subscription", "combined", "(ZZ)Lcom/example/carbonfold/carbonfold/model/RosterItem$Subscription;"⟩ : MethodName)) hown (mvT hZ (hw _ (List.mem_of_getElem? (i := 25) rfl))) (mvT hZ (hw _ (List.mem_of_getElem? (i := 26) rfl))) (mvT hZ (hw _ (List.mem_of_getElem? (i := 1) rfl))) (mvT hZ (hw _ (List.mem_of_getElem? (i := 27) rfl))) (by decide) (backOf (W := 0) (rm_combined_10 l Z a0 hw [] a_NONE a_TO a_BOTH a_FROM h0 n0 O0 En) hZ (hw _ (List.mem_of_getElem? (i := 27) rfl)) (hw _ (List.mem_of_getElem? (i := 1) rfl)) (by decide) (by decide)) (g := (mkF m 5 #[.val (.ref a_BOTH), .val (.int (0 : Int32))] [(.int (0 : Int32)), (.int (1 : Int32))])) rfl (by rw [hml]; rfl) (argsL := [(.int (1 : Int32)), (.int (0 : Int32))]) (rest := []) (lenOf pd_1 rfl) rfl (by show 2 * 0 + _ ≤ _; exact Nat.le_of_eq rfl) (hb hby dc4_5) (fun _ _ => ⟨rfl, hh1, (by decide : 0 + 0 ≤ _), (by decide : 0 + 0 ≤ _)⟩)
  dsimp only [Pt.U, Pt.locs, Pt.cells, Pt.slots] at X2 l2 y2 z2 st2 hQ2
  subst l2 y2 z2
  obtain ⟨rfl, N2q, hh2⟩ := hQ2
  have N2 := Fr.app N1 N2q
  obtain ⟨fs, hr, hrun, hended, hW, hsame⟩ := X2.leave (v := some (.ref a_TO)) (fun h => by rw [Bd.returns] at h; cases h)
  refine ⟨_, _, pre0 _ ?_, hrun, hended, _, _, rfl, ?_, ⟨_, rfl⟩, hW, hsame.mono (by decide) (by decide)⟩
  · skip
    show Steps p.tables e below (s₁.setTop (mkF m 0 #[.val (.ref a_BOTH), .val (.int (0 : Int32))] [])) _
    refine XS.aloadN X0.here hx rfl (hb hby dc4_0) rfl rfl ?_
    show Steps p.tables e below (s₁.setTop (mkF m 1 #[.val (.ref a_BOTH), .val (.int (0 : Int32))] [(.ref a_BOTH)])) _
    refine st1.trans ?_
    show Steps p.tables e below (T1.setTop (mkF m 4 #[.val (.ref a_BOTH), .val (.int (0 : Int32))] [(.int (1 : Int32))])) _
    refine XS.iloadN X1.here hx rfl (hb hby dc4_4) rfl ?_
    show Steps p.tables e below (T1.setTop (mkF m 5 #[.val (.ref a_BOTH), .val (.int (0 : Int32))] [(.int (0 : Int32)), (.int (1 : Int32))])) _
    refine st2 _ ?_
    show Steps p.tables e below (T2.setTop (mkF m 8 #[.val (.ref a_BOTH), .val (.int (0 : Int32))] [(.ref a_TO)])) _
    exact retOut X2 hx (t := (.object "com/example/carbonfold/carbonfold/model/RosterItem$Subscription")) Bd.returns rfl (Or.inr (Or.inr (Or.inr (Or.inr ⟨rfl, rfl, rfl⟩)))) (hb hby dc4_8) hr
  · show Q_rm_withFrom_26 a_NONE a_TO a_BOTH a_FROM h0 n0 _ T2.heap _
    rw [hh2]
    exact ⟨rfl, N2, rfl⟩
def Q_rm_withFrom_27 (a_NONE a_TO a_BOTH a_FROM : Addr) (h0 : Heap) (n0 : Nat) (v : Option Value) (h : Heap) (L : List Loc) : Prop := v = some (.ref a_BOTH) ∧ Fr n0 L ∧ h = h0
set_option maxRecDepth 65536 in
set_option maxHeartbeats 40000000 in
theorem rm_withFrom_27 (l : Launch) (Z : State) (a0 : Array Value) (hw : ∀ d ∈ tables_1, d.before a0 Z = true) (ws : List Jvm.Cond) (a_NONE a_TO a_BOTH a_FROM : Addr) (h0 : Heap) (n0 : Nat) (O0 : Old Z n0 h0) (En : OwnEnv Z a_NONE a_TO a_BOTH a_FROM) :
    MetFree l (⟨"com/example/carbonfold/carbonfold/model/RosterItem$Subscription", "withFrom", "(Z)Lcom/example/carbonfold/carbonfold/model/RosterItem$Subscription;"⟩ : MethodName) (head1 (Jvm.Cond.code (⟨"com/example/carbonfold/carbonfold/model/RosterItem$Subscription", "withFrom", "(Z)Lcom/example/carbonfold/carbonfold/model/RosterItem$Subscription;"⟩ : MethodName) prog_67_method_8_code 2 (some (.object "com/example/carbonfold/carbonfold/model/RosterItem$Subscription")) :: ws) ({ frames := 1, cells := 0, slots := 0, locals := 13 } : Room)) (fun a U => a = #[(.ref a_BOTH), (.int (1 : Int32))] ∧ Z.Warmed39 U.vm ∧ U.heap = h0) (fun _ _ _ _ _ => True) (fun _ U o U' => ∃ v L, o = .returned v ∧ Q_rm_withFrom_27 a_NONE a_TO a_BOTH a_FROM h0 n0 v U'.heap L ∧ FrameEnd U o U' L ({ frames := 1, cells := 0, slots := 0, locals := 13 } : Room).cells ({ frames := 1, cells := 0, slots := 0, locals := 13 } : Room).slots) := by
  refine MetFree.of_bodySF (plainFor_of_name pn_1) hisR ?_
  intro p e s m args below meth c s₁ Bd hml0 hP hK
  obtain ⟨rfl, hZ, hh⟩ := hP
  have hx := Bd.exec
  have hby := Bd.bytes
  have hml : c.maxLocals = 2 := hml0
  have hown : s.vm.findClass "com/example/carbonfold/carbonfold/model/RosterItem$Subscription" = some m.cls := findClass_of_methodNamed Bd.named
  have hnm := (name_of_methodNamed Bd.named Bd.method).1
  have X0 : Stand p l e ({ frames := 1, cells := 0, slots := 0, locals := 13 } : Room) s m #[(.ref a_BOTH), (.int (1 : Int32))] below meth c s₁ [] 0 0 := Stand.of_body Bd
  have e0 : s₁.heap = h0 := by rw [← hh, Bd.state]; rfl
  have N0 := Fr.nil n0
  have pre0 : ∀ t, Steps p.tables e below (s₁.setTop (mkF m 0 #[.val (.ref a_BOTH), .val (.int (1 : Int32))] [])) t → Steps p.tables e below (s₁.setTop (entryFrame m #[(.ref a_BOTH), (.int (1 : Int32))] 2)) t := fun t k => castTop (ef_2 m a_BOTH (1 : Int32)) k
  obtain ⟨S_a_NONE, X_a_NONE, S_a_TO, X_a_TO, S_a_BOTH, X_a_BOTH, S_a_FROM, X_a_FROM, F_a_NONE_ordinal, F_a_TO_ordinal, F_a_BOTH_ordinal, F_a_FROM_ordinal⟩ := id En
  obtain ⟨cq1, kq1, q1a, q1b, q1c⟩ := isOf hZ e0 (Exa.ext O0.2 X_a_BOTH)
  obtain ⟨_, _, ⟨T1, L1, k1, n1⟩, -, X1, ⟨Lc1, hQ1, l1, y1, z1⟩, st1⟩ := X0.virtualBack hx (y := (⟨"com/example/carbonfold/carbonfold/model/RosterItem$Subscription", "hasTo", "()Z"⟩ : MethodName)) (z := (⟨"com/example/carbonfold/carbonfold/model/RosterItem$Subscription", "hasTo", "()Z"⟩ : MethodName)) hown (mvT hZ (hw _ (List.mem_of_getElem? (i := 33) rfl))) (mvT hZ (hw _ (List.mem_of_getElem? (i := 5) rfl))) (notFace_of_selects (args := #[]) (mvT hZ (hw _ (List.mem_of_getElem? (i := 7) rfl)))) (mvT hZ (hw _ (List.mem_of_getElem? (i := 7) rfl))) (mvT hZ (hw _ (List.mem_of_getElem? (i := 6) rfl))) (by decide) (backOf (W := 0) (rm_hasTo_17 l Z a0 hw [] a_NONE a_TO a_BOTH a_FROM h0 n0 O0 En) hZ (hw _ (List.mem_of_getElem? (i := 8) rfl)) (hw _ (List.mem_of_getElem? (i := 1) rfl)) (by decide) (by decide)) q1a q1c (g := (mkF m 1 #[.val (.ref a_BOTH), .val (.int (1 : Int32))] [(.ref a_BOTH)])) rfl (by rw [hml]; rfl) (Steps.refl _) (argsL := []) (rest := []) (lenOf pd_0 rfl) rfl (by show 2 * 0 + _ ≤ _; exact Nat.le_of_eq rfl) (hb hby dc4_1) (fun _ _ => ⟨rfl, e0, (by decide : 0 + 0 ≤ _), (by decide : 0 + 0 ≤ _)⟩)
  dsimp only [Pt.U, Pt.locs, Pt.cells, Pt.slots] at X1 l1 y1 z1 st1 hQ1
  subst l1 y1 z1
  obtain ⟨rfl, N1q, hh1⟩ := hQ1
  have N1 := Fr.app N0 N1q
  obtain ⟨_, _, ⟨T2, L2, k2, n2⟩, -, X2, ⟨Lc2, hQ2, l2, y2, z2⟩, st2⟩ := Jvm.LawKit.callS X1 hx (y := (⟨"com/example/carbonfold/carbonfold/model/RosterItem$Subscription", "combined", "(ZZ)Lcom/example/carbonfold/carbonfold/model/RosterItem$Subscription;"⟩ : MethodName)) hown (mvT hZ (hw _ (List.mem_of_getElem? (i := 25) rfl))) (mvT hZ (hw _ (List.mem_of_getElem? (i := 26) rfl))) (mvT hZ (hw _ (List.mem_of_getElem? (i := 1) rfl))) (mvT hZ (hw _ (List.mem_of_getElem? (i := 27) rfl))) (by decide) (backOf (W := 0) (rm_combined_16 l Z a0 hw [] a_NONE a_TO a_BOTH a_FROM h0 n0 O0 En) hZ (hw _ (List.mem_of_getElem? (i := 27) rfl)) (hw _ (List.mem_of_getElem? (i := 1) rfl)) (by decide) (by decide)) (g := (mkF m 5 #[.val (.ref a_BOTH), .val (.int (1 : Int32))] [(.int (1 : Int32)), (.int (1 : Int32))])) rfl (by rw [hml]; rfl) (argsL := [(.int (1 : Int32)), (.int (1 : Int32))]) (rest := []) (lenOf pd_1 rfl) rfl (by show 2 * 0 + _ ≤ _; exact Nat.le_of_eq rfl) (hb hby dc4_5) (fun _ _ => ⟨rfl, hh1, (by decide : 0 + 0 ≤ _), (by decide : 0 + 0 ≤ _)⟩)
  dsimp only [Pt.U, Pt.locs, Pt.cells, Pt.slots] at X2 l2 y2 z2 st2 hQ2
  subst l2 y2 z2
  obtain ⟨rfl, N2q, hh2⟩ := hQ2
  have N2 := Fr.app N1 N2q
  obtain ⟨fs, hr, hrun, hended, hW, hsame⟩ := X2.leave (v := some (.ref a_BOTH)) (fun h => by rw [Bd.returns] at h; cases h)
  refine ⟨_, _, pre0 _ ?_, hrun, hended, _, _, rfl, ?_, ⟨_, rfl⟩, hW, hsame.mono (by decide) (by decide)⟩
  · skip
    show Steps p.tables e below (s₁.setTop (mkF m 0 #[.val (.ref a_BOTH), .val (.int (1 : Int32))] [])) _
    refine XS.aloadN X0.here hx rfl (hb hby dc4_0) rfl rfl ?_
    show Steps p.tables e below (s₁.setTop (mkF m 1 #[.val (.ref a_BOTH), .val (.int (1 : Int32))] [(.ref a_BOTH)])) _
    refine st1.trans ?_
    show Steps p.tables e below (T1.setTop (mkF m 4 #[.val (.ref a_BOTH), .val (.int (1 : Int32))] [(.int (1 : Int32))])) _
    refine XS.iloadN X1.here hx rfl (hb hby dc4_4) rfl ?_
    show Steps p.tables e below (T1.setTop (mkF m 5 #[.val (.ref a_BOTH), .val (.int (1 : Int32))] [(.int (1 : Int32)), (.int (1 : Int32))])) _
    refine st2 _ ?_
    show Steps p.tables e below (T2.setTop (mkF m 8 #[.val (.ref a_BOTH), .val (.int (1 : Int32))] [(.ref a_BOTH)])) _
    exact retOut X2 hx (t := (.object "com/example/carbonfold/carbonfold/model/RosterItem$Subscription")) Bd.returns rfl (Or.inr (Or.inr (Or.inr (Or.inr ⟨rfl, rfl, rfl⟩)))) (hb hby dc4_8) hr
  · show Q_rm_withFrom_27 a_NONE a_TO a_BOTH a_FROM h0 n0 _ T2.heap _
    rw [hh2]
    exact ⟨rfl, N2, rfl⟩
def Q_rm_withTo_28 (a_NONE a_TO a_BOTH a_FROM : Addr) (h0 : Heap) (n0 : Nat) (v : Option Value) (h : Heap) (L : List Loc) : Prop := v = some (.ref a_BOTH) ∧ Fr n0 L ∧ h = h0
set_option maxRecDepth 65536 in
set_option maxHeartbeats 40000000 in
theorem rm_withTo_28 (l : Launch) (Z : State) (a0 : Array Value) (hw : ∀ d ∈ tables_1, d.before a0 Z = true) (ws : List Jvm.Cond) (a_NONE a_TO a_BOTH a_FROM : Addr) (h0 : Heap) (n0 : Nat) (O0 : Old Z n0 h0) (En : OwnEnv Z a_NONE a_TO a_BOTH a_FROM) :
    MetFree l (⟨"com/example/carbonfold/carbonfold/model/RosterItem$Subscription", "withTo", "(Z)Lcom/example/carbonfold/carbonfold/model/RosterItem$Subscription;"⟩ : MethodName) (head1 (Jvm.Cond.code (⟨"com/example/carbonfold/carbonfold/model/RosterItem$Subscription", "withTo", "(Z)Lcom/example/carbonfold/carbonfold/model/RosterItem$Subscription;"⟩ : MethodName) prog_67_method_7_code 2 (some (.object "com/example/carbonfold/carbonfold/model/RosterItem$Subscription")) :: ws) ({ frames := 1, cells := 0, slots := 0, locals := 13 } : Room)) (fun a U => a = #[(.ref a_BOTH), (.int (1 : Int32))] ∧ Z.Warmed39 U.vm ∧ U.heap = h0) (fun _ _ _ _ _ => True) (fun _ U o U' => ∃ v L, o = .returned v ∧ Q_rm_withTo_28 a_NONE a_TO a_BOTH a_FROM h0 n0 v U'.heap L ∧ FrameEnd U o U' L ({ frames := 1, cells := 0, slots := 0, locals := 13 } : Room).cells ({ frames := 1, cells := 0, slots := 0, locals := 13 } : Room).slots) := by
  refine MetFree.of_bodySF (plainFor_of_name pn_1) hisR ?_
  intro p e s m args below meth c s₁ Bd hml0 hP hK
  obtain ⟨rfl, hZ, hh⟩ := hP
  have hx := Bd.exec
  have hby := Bd.bytes
  have hml : c.maxLocals = 2 := hml0
  have hown : s.vm.findClass "com/example/carbonfold/carbonfold/model/RosterItem$Subscription" = some m.cls := findClass_of_methodNamed Bd.named
  have hnm := (name_of_methodNamed Bd.named Bd.method).1
  have X0 : Stand p l e ({ frames := 1, cells := 0, slots := 0, locals := 13 } : Room) s m #[(.ref a_BOTH), (.int (1 : Int32))] below meth c s₁ [] 0 0 := Stand.of_body Bd
  have e0 : s₁.heap = h0 := by rw [← hh, Bd.state]; rfl
  have N0 := Fr.nil n0
  have pre0 : ∀ t, Steps p.tables e below (s₁.setTop (mkF m 0 #[.val (.ref a_BOTH), .val (.int (1 : Int32))] [])) t → Steps p.tables e below (s₁.setTop (entryFrame m #[(.ref a_BOTH), (.int (1 : Int32))] 2)) t := fun t k => castTop (ef_2 m a_BOTH (1 : Int32)) k
  obtain ⟨S_a_NONE, X_a_NONE, S_a_TO, X_a_TO, S_a_BOTH, X_a_BOTH, S_a_FROM, X_a_FROM, F_a_NONE_ordinal, F_a_TO_ordinal, F_a_BOTH_ordinal, F_a_FROM_ordinal⟩ := id En
  obtain ⟨cq1, kq1, q1a, q1b, q1c⟩ := isOf hZ e0 (Exa.ext O0.2 X_a_BOTH)
  obtain ⟨_, _, ⟨T1, L1, k1, n1⟩, -, X1, ⟨Lc1, hQ1, l1, y1, z1⟩, st1⟩ := X0.virtualBack hx (y := (⟨"com/example/carbonfold/carbonfold/model/RosterItem$Subscription", "hasFrom", "()Z"⟩ : MethodName)) (z := (⟨"com/example/carbonfold/carbonfold/model/RosterItem$Subscription", "hasFrom", "()Z"⟩ : MethodName)) hown (mvT hZ (hw _ (List.mem_of_getElem? (i := 18) rfl))) (mvT hZ (hw _ (List.mem_of_getElem? (i := 19) rfl))) (notFace_of_selects (args := #[]) (mvT hZ (hw _ (List.mem_of_getElem? (i := 21) rfl)))) (mvT hZ (hw _ (List.mem_of_getElem? (i := 21) rfl))) (mvT hZ (hw _ (List.mem_of_getElem? (i := 20) rfl))) (by decide) (backOf (W := 1) (rm_hasFrom_25 l Z a0 hw [] a_NONE a_TO a_BOTH a_FROM h0 n0 O0 En) hZ (hw _ (List.mem_of_getElem? (i := 22) rfl)) (hw _ (List.mem_of_getElem? (i := 1) rfl)) (by decide) (by decide)) q1a q1c (g := (mkF m 2 #[.val (.ref a_BOTH), .val (.int (1 : Int32))] [(.ref a_BOTH), (.int (1 : Int32))])) rfl (by rw [hml]; rfl) (Steps.refl _) (argsL := []) (rest := [(.int (1 : Int32))]) (lenOf pd_0 rfl) rfl (by show 2 * 0 + _ ≤ _; exact Nat.le_of_eq rfl) (hb hby dc1_2) (fun _ _ => ⟨rfl, e0, (by decide : 0 + 0 ≤ _), (by decide : 0 + 0 ≤ _)⟩)
  dsimp only [Pt.U, Pt.locs, Pt.cells, Pt.slots] at X1 l1 y1 z1 st1 hQ1
  subst l1 y1 z1
  obtain ⟨rfl, N1q, hh1⟩ := hQ1
  have N1 := Fr.app N0 N1q
  obtain ⟨_, _, ⟨T2, L2, k2, n2⟩, -, X2, ⟨Lc2, hQ2, l2, y2, z2⟩, st2⟩ := Jvm.LawKit.callS X1 hx (y := (⟨"com/example/carbonfold/carbonfold/model/RosterItem$Subscription", "combined", "(ZZ)Lcom/example/carbonfold/carbonfold/model/RosterItem$Subscription;"⟩ : MethodName)) hown (mvT hZ (hw _ (List.mem_of_getElem? (i := 25) rfl))) (mvT hZ (hw _ (List.mem_of_getElem? (i := 26) rfl))) (mvT hZ (hw _ (List.mem_of_getElem? (i := 1) rfl))) (mvT hZ (hw _ (List.mem_of_getElem? (i := 27) rfl))) (by decide) (backOf (W := 0) (rm_combined_16 l Z a0 hw [] a_NONE a_TO a_BOTH a_FROM h0 n0 O0 En) hZ (hw _ (List.mem_of_getElem? (i := 27) rfl)) (hw _ (List.mem_of_getElem? (i := 1) rfl)) (by decide) (by decide)) (g := (mkF m 5 #[.val (.ref a_BOTH), .val (.int (1 : Int32))] [(.int (1 : Int32)), (.int (1 : Int32))])) rfl (by rw [hml]; rfl) (argsL := [(.int (1 : Int32)), (.int (1 : Int32))]) (rest := []) (lenOf pd_1 rfl) rfl (by show 2 * 0 + _ ≤ _; exact Nat.le_of_eq rfl) (hb hby dc1_5) (fun _ _ => ⟨rfl, hh1, (by decide : 0 + 0 ≤ _), (by decide : 0 + 0 ≤ _)⟩)
  dsimp only [Pt.U, Pt.locs, Pt.cells, Pt.slots] at X2 l2 y2 z2 st2 hQ2
  subst l2 y2 z2
  obtain ⟨rfl, N2q, hh2⟩ := hQ2
  have N2 := Fr.app N1 N2q
  obtain ⟨fs, hr, hrun, hended, hW, hsame⟩ := X2.leave (v := some (.ref a_BOTH)) (fun h => by rw [Bd.returns] at h; cases h)
  refine ⟨_, _, pre0 _ ?_, hrun, hended, _, _, rfl, ?_, ⟨_, rfl⟩, hW, hsame.mono (by decide) (by decide)⟩
  · skip
    show Steps p.tables e below (s₁.setTop (mkF m 0 #[.val (.ref a_BOTH), .val (.int (1 : Int32))] [])) _
    refine XS.iloadN X0.here hx rfl (hb hby dc1_0) rfl ?_
    show Steps p.tables e below (s₁.setTop (mkF m 1 #[.val (.ref a_BOTH), .val (.int (1 : Int32))] [(.int (1 : Int32))])) _
    refine XS.aloadN X0.here hx rfl (hb hby dc1_1) rfl rfl ?_
    show Steps p.tables e below (s₁.setTop (mkF m 2 #[.val (.ref a_BOTH), .val (.int (1 : Int32))] [(.ref a_BOTH), (.int (1 : Int32))])) _
    refine st1.trans ?_
    show Steps p.tables e below (T1.setTop (mkF m 5 #[.val (.ref a_BOTH), .val (.int (1 : Int32))] [(.int (1 : Int32)), (.int (1 : Int32))])) _
    refine st2 _ ?_
    show Steps p.tables e below (T2.setTop (mkF m 8 #[.val (.ref a_BOTH), .val (.int (1 : Int32))] [(.ref a_BOTH)])) _
    exact retOut X2 hx (t := (.object "com/example/carbonfold/carbonfold/model/RosterItem$Subscription")) Bd.returns rfl (Or.inr (Or.inr (Or.inr (Or.inr ⟨rfl, rfl, rfl⟩)))) (hb hby dc1_8) hr
  · show Q_rm_withTo_28 a_NONE a_TO a_BOTH a_FROM h0 n0 _ T2.heap _
    rw [hh2]
    exact ⟨rfl, N2, rfl⟩
set_option maxRecDepth 65536 in
set_option maxHeartbeats 40000000 in
theorem rm0 (l : Launch) (Z : State) (a0 : Array Value) (hw : ∀ d ∈ tables_1, d.before a0 Z = true) (ws : List Jvm.Cond) (i0 i1 : Int32) (a_NONE a_TO a_BOTH a_FROM : Addr) (h0 : Heap) (n0 : Nat) (O0 : Old Z n0 h0) (En : OwnEnv Z a_NONE a_TO a_BOTH a_FROM) :
    MetFree l x (head1 (Jvm.Cond.code x code maxLocals ret :: ws) room_1) (fun a U => a = #[(.int i0), (.int i1)] ∧ Z.Warmed39 U.vm ∧ U.heap = h0) (fun _ _ _ _ _ => True) (fun _ U o U' => ∃ v L, o = .returned v ∧ QL n0 v U'.heap L ∧ FrameEnd U o U' L room_1.cells room_1.slots) := by
  refine MetFree.of_bodySF (plainFor_of_name pn_0) hisR ?_
  intro p e s m args below meth c s₁ Bd hml0 hP hK
  obtain ⟨rfl, hZ, hh⟩ := hP
  have hx := Bd.exec
  have hby := Bd.bytes
  have hml : c.maxLocals = 8 := hml0
  have hown : s.vm.findClass "com/example/carbonfold/carbonfold/model/SubscriptionHasToPinLaw" = some m.cls := findClass_of_methodNamed Bd.named
  have hnm := (name_of_methodNamed Bd.named Bd.method).1
  have X0 : Stand p l e room_1 s m #[(.int i0), (.int i1)] below meth c s₁ [] 0 0 := Stand.of_body Bd
  have e0 : s₁.heap = h0 := by rw [← hh, Bd.state]; rfl
  have N0 := Fr.nil n0
  have pre0 : ∀ t, Steps p.tables e below (s₁.setTop (mkF m 0 #[.val (.int i0), .val (.int i1), .unset, .unset, .unset, .unset, .unset, .unset] [])) t → Steps p.tables e below (s₁.setTop (entryFrame m #[(.int i0), (.int i1)] maxLocals)) t := fun t k => castTop (ef_0 m i0 i1) k
  obtain ⟨S_a_NONE, X_a_NONE, S_a_TO, X_a_TO, S_a_BOTH, X_a_BOTH, S_a_FROM, X_a_FROM, F_a_NONE_ordinal, F_a_TO_ordinal, F_a_BOTH_ordinal, F_a_FROM_ordinal⟩ := id En
  have pre1 : ∀ t, Steps p.tables e below (s₁.setTop (mkF m 3 #[.val (.int i0), .val (.int i1), .unset, .unset, .unset, .unset, .unset, .unset] [(.int (i0 &&& (3 : Int32)))])) t → Steps p.tables e below (s₁.setTop (entryFrame m #[(.int i0), (.int i1)] maxLocals)) t := fun t kt => pre0 t (by
      show Steps p.tables e below (s₁.setTop (mkF m 0 #[.val (.int i0), .val (.int i1), .unset, .unset, .unset, .unset, .unset, .unset] [])) _
      refine XS.iloadN X0.here hx rfl (hb hby at_0) rfl ?_
      show Steps p.tables e below (s₁.setTop (mkF m 1 #[.val (.int i0), .val (.int i1), .unset, .unset, .unset, .unset, .unset, .unset] [(.int i0)])) _
      refine XS.iconst X0.here hx rfl (hb hby at_1) ?_
      show Steps p.tables e below (s₁.setTop (mkF m 2 #[.val (.int i0), .val (.int i1), .unset, .unset, .unset, .unset, .unset, .unset] [(.int (3 : Int32)), (.int i0)])) _
      refine XS.iand X0.here hx rfl (hb hby at_2) rfl ?_
      exact kt)
  rcases own_k i0 with hk2 | hk2 | hk2 | hk2
  · skip
    have pre3 : ∀ t, Steps p.tables e below (s₁.setTop (mkF m 7 #[.val (.int i0), .val (.int i1), .val (.int (0 : Int32)), .unset, .unset, .unset, .unset, .unset] [(.int (i1 &&& (1 : Int32)))])) t → Steps p.tables e below (s₁.setTop (entryFrame m #[(.int i0), (.int i1)] maxLocals)) t := fun t kt => pre1 t (by
        show Steps p.tables e below (s₁.setTop (mkF m 3 #[.val (.int i0), .val (.int i1), .unset, .unset, .unset, .unset, .unset, .unset] [(.int (i0 &&& (3 : Int32)))])) _
        rw [hk2]
        show Steps p.tables e below (s₁.setTop (mkF m 3 #[.val (.int i0), .val (.int i1), .unset, .unset, .unset, .unset, .unset, .unset] [(.int (0 : Int32))])) _
        refine XS.istoreN X0.here hx rfl (hb hby at_3) rfl (l' := #[.val (.int i0), .val (.int i1), .val (.int (0 : Int32)), .unset, .unset, .unset, .unset, .unset]) rfl ?_
        show Steps p.tables e below (s₁.setTop (mkF m 4 #[.val (.int i0), .val (.int i1), .val (.int (0 : Int32)), .unset, .unset, .unset, .unset, .unset] [])) _
        refine XS.iloadN X0.here hx rfl (hb hby at_4) rfl ?_
        show Steps p.tables e below (s₁.setTop (mkF m 5 #[.val (.int i0), .val (.int i1), .val (.int (0 : Int32)), .unset, .unset, .unset, .unset, .unset] [(.int i1)])) _
        refine XS.iconst X0.here hx rfl (hb hby at_5) ?_
        show Steps p.tables e below (s₁.setTop (mkF m 6 #[.val (.int i0), .val (.int i1), .val (.int (0 : Int32)), .unset, .unset, .unset, .unset, .unset] [(.int (1 : Int32)), (.int i1)])) _
        refine XS.iand X0.here hx rfl (hb hby at_6) rfl ?_
        exact kt)
    rcases own_b i1 with hk4 | hk4
    · skip
      have pre5 : ∀ t, Steps p.tables e below (s₁.setTop (mkF m 19 #[.val (.int i0), .val (.int i1), .val (.int (0 : Int32)), .val (.int (0 : Int32)), .unset, .unset, .unset, .unset] [(.int (i1 &&& (2 : Int32)))])) t → Steps p.tables e below (s₁.setTop (entryFrame m #[(.int i0), (.int i1)] maxLocals)) t := fun t kt => pre3 t (by
          show Steps p.tables e below (s₁.setTop (mkF m 7 #[.val (.int i0), .val (.int i1), .val (.int (0 : Int32)), .unset, .unset, .unset, .unset, .unset] [(.int (i1 &&& (1 : Int32)))])) _
          rw [hk4]
          show Steps p.tables e below (s₁.setTop (mkF m 7 #[.val (.int i0), .val (.int i1), .val (.int (0 : Int32)), .unset, .unset, .unset, .unset, .unset] [(.int (0 : Int32))])) _
          refine XS.ifYes X0.here hx rfl (pc0 := 7) (pc' := 14) rfl (hb hby at_7) rfl (by decide) (by decide) (by decide) ?_
          show Steps p.tables e below (s₁.setTop (mkF m 14 #[.val (.int i0), .val (.int i1), .val (.int (0 : Int32)), .unset, .unset, .unset, .unset, .unset] [])) _
          refine XS.iconst X0.here hx rfl (hb hby at_14) ?_
          show Steps p.tables e below (s₁.setTop (mkF m 15 #[.val (.int i0), .val (.int i1), .val (.int (0 : Int32)), .unset, .unset, .unset, .unset, .unset] [(.int (0 : Int32))])) _
          refine XS.istoreN X0.here hx rfl (hb hby at_15) rfl (l' := #[.val (.int i0), .val (.int i1), .val (.int (0 : Int32)), .val (.int (0 : Int32)), .unset, .unset, .unset, .unset]) rfl ?_
          show Steps p.tables e below (s₁.setTop (mkF m 16 #[.val (.int i0), .val (.int i1), .val (.int (0 : Int32)), .val (.int (0 : Int32)), .unset, .unset, .unset, .unset] [])) _
          refine XS.iloadN X0.here hx rfl (hb hby at_16) rfl ?_
          show Steps p.tables e below (s₁.setTop (mkF m 17 #[.val (.int i0), .val (.int i1), .val (.int (0 : Int32)), .val (.int (0 : Int32)), .unset, .unset, .unset, .unset] [(.int i1)])) _
          refine XS.iconst X0.here hx rfl (hb hby at_17) ?_
          show Steps p.tables e below (s₁.setTop (mkF m 18 #[.val (.int i0), .val (.int i1), .val (.int (0 : Int32)), .val (.int (0 : Int32)), .unset, .unset, .unset, .unset] [(.int (2 : Int32)), (.int i1)])) _
          refine XS.iand X0.here hx rfl (hb hby at_18) rfl ?_
          exact kt)
      rcases own_c i1 with hk6 | hk6
      · skip
        obtain ⟨T7, X7, e7, st7⟩ := getS2 X0 hx hZ hown (host := "") (Or.inl (hw _ (List.mem_of_getElem? (i := 0) rfl))) Via.refl e0 (Sta.ext O0.2 S_a_NONE) (g := (mkF m 33 #[.val (.int i0), .val (.int i1), .val (.int (0 : Int32)), .val (.int (0 : Int32)), .val (.int (0 : Int32)), .unset, .unset, .unset] [])) rfl (hb hby at_33)
        obtain ⟨T8, h8, k8, X8, e8, E8, A8, st8⟩ := newP X7 hx hZ (hw _ (List.mem_of_getElem? (i := 3) rfl)) e7 (g := (mkF m 67 #[.val (.int i0), .val (.int i1), .val (.int (0 : Int32)), .val (.int (0 : Int32)), .val (.int (0 : Int32)), .val (.ref a_NONE), .unset, .unset] [(.int (4 : Int32))])) rfl (hb hby at_67) rfl (by decide) (cap := 4) (by decide) (by decide) (by decide) (by decide)
        obtain ⟨b8, g8⟩ : ∃ z, z = h0.size := ⟨_, rfl⟩
        rw [← g8] at A8 st8
        have gb8 : n0 ≤ b8 := by rw [g8, ← O0.1]; exact O0.2.1
        have ne8_a_BOTH : a_BOTH ≠ b8 := by rw [g8]; exact Nat.ne_of_lt ((Exa.ext O0.2 X_a_BOTH)).lt
        have ne8_a_FROM : a_FROM ≠ b8 := by rw [g8]; exact Nat.ne_of_lt ((Exa.ext O0.2 X_a_FROM)).lt
        have ne8_a_NONE : a_NONE ≠ b8 := by rw [g8]; exact Nat.ne_of_lt ((Exa.ext O0.2 X_a_NONE)).lt
        have ne8_a_TO : a_TO ≠ b8 := by rw [g8]; exact Nat.ne_of_lt ((Exa.ext O0.2 X_a_TO)).lt
        have V8 : Arv Z h8 b8 k8 .boolean (4 : Int32) [(.int (0 : Int32)), (.int (0 : Int32)), (.int (0 : Int32)), (.int (0 : Int32))] (.int (0 : Int32)) := (Arv.new A8 (by decide)).pad (pad_rep [] (.int (0 : Int32)) 4)
        obtain ⟨cl9, Ar9, q9, S9, N9_, H9, G9⟩ := V8
        have hin9 : ¬ ((0 : Int32) < 0 ∨ cl9.slots.size ≤ ((0 : Int32)).toNatClampNeg) := inb_of S9 ⟨by decide, by decide⟩
        obtain ⟨T10, h10, X10, e10, W10, st10⟩ := stZ X8 hx hZ e8 Ar9 (j := (0 : Int32)) hin9 (g := (mkF m 72 #[.val (.int i0), .val (.int i1), .val (.int (0 : Int32)), .val (.int (0 : Int32)), .val (.int (0 : Int32)), .val (.ref a_NONE), .unset, .unset] [(.int (0 : Int32)), (.int (0 : Int32)), (.ref b8), (.ref b8)])) rfl rfl (hb hby at_72)
        have V10 : Arv Z h10 b8 k8 .boolean (4 : Int32) [(.int (0 : Int32)), (.int (0 : Int32)), (.int (0 : Int32)), (.int (0 : Int32))] (.int (0 : Int32)) := Arv.set Ar9 q9 S9 N9_ H9 G9 (fits_nar_bool _) W10 0 rfl (Nat.le_of_ble_eq_true rfl)
        have N10 := Fr.snoc X10 N0 gb8
        obtain ⟨cl11, Ar11, q11, S11, N11_, H11, G11⟩ := V10
        have hin11 : ¬ ((1 : Int32) < 0 ∨ cl11.slots.size ≤ ((1 : Int32)).toNatClampNeg) := inb_of S11 ⟨by decide, by decide⟩
        obtain ⟨T12, h12, X12, e12, W12, st12⟩ := stZ X10 hx hZ e10 Ar11 (j := (1 : Int32)) hin11 (g := (mkF m 76 #[.val (.int i0), .val (.int i1), .val (.int (0 : Int32)), .val (.int (0 : Int32)), .val (.int (0 : Int32)), .val (.ref a_NONE), .unset, .unset] [(.int (1 : Int32)), (.int (1 : Int32)), (.ref b8), (.ref b8)])) rfl rfl (hb hby at_76)
        have V12 : Arv Z h12 b8 k8 .boolean (4 : Int32) [(.int (0 : Int32)), (.int (1 : Int32)), (.int (0 : Int32)), (.int (0 : Int32))] (.int (0 : Int32)) := Arv.set Ar11 q11 S11 N11_ H11 G11 (fits_nar_bool _) W12 1 rfl (Nat.le_of_ble_eq_true rfl)
        have N12 := Fr.snoc X12 N10 gb8
        obtain ⟨cl13, Ar13, q13, S13, N13_, H13, G13⟩ := V12
        have hin13 : ¬ ((2 : Int32) < 0 ∨ cl13.slots.size ≤ ((2 : Int32)).toNatClampNeg) := inb_of S13 ⟨by decide, by decide⟩
        obtain ⟨T14, h14, X14, e14, W14, st14⟩ := stZ X12 hx hZ e12 Ar13 (j := (2 : Int32)) hin13 (g := (mkF m 80 #[.val (.int i0), .val (.int i1), .val (.int (0 : Int32)), .val (.int (0 : Int32)), .val (.int (0 : Int32)), .val (.ref a_NONE), .unset, .unset] [(.int (0 : Int32)), (.int (2 : Int32)), (.ref b8), (.ref b8)])) rfl rfl (hb hby at_80)
        have V14 : Arv Z h14 b8 k8 .boolean (4 : Int32) [(.int (0 : Int32)), (.int (1 : Int32)), (.int (0 : Int32)), (.int (0 : Int32))] (.int (0 : Int32)) := Arv.set Ar13 q13 S13 N13_ H13 G13 (fits_nar_bool _) W14 2 rfl (Nat.le_of_ble_eq_true rfl)
        have N14 := Fr.snoc X14 N12 gb8
        obtain ⟨cl15, Ar15, q15, S15, N15_, H15, G15⟩ := V14
        have hin15 : ¬ ((3 : Int32) < 0 ∨ cl15.slots.size ≤ ((3 : Int32)).toNatClampNeg) := inb_of S15 ⟨by decide, by decide⟩
        obtain ⟨T16, h16, X16, e16, W16, st16⟩ := stZ X14 hx hZ e14 Ar15 (j := (3 : Int32)) hin15 (g := (mkF m 84 #[.val (.int i0), .val (.int i1), .val (.int (0 : Int32)), .val (.int (0 : Int32)), .val (.int (0 : Int32)), .val (.ref a_NONE), .unset, .unset] [(.int (1 : Int32)), (.int (3 : Int32)), (.ref b8), (.ref b8)])) rfl rfl (hb hby at_84)
        have V16 : Arv Z h16 b8 k8 .boolean (4 : Int32) [(.int (0 : Int32)), (.int (1 : Int32)), (.int (0 : Int32)), (.int (1 : Int32))] (.int (0 : Int32)) := Arv.set Ar15 q15 S15 N15_ H15 G15 (fits_nar_bool _) W16 3 rfl (Nat.le_of_ble_eq_true rfl)
        have N16 := Fr.snoc X16 N14 gb8
        obtain ⟨cl17, Ar17, q17, S17, N17_, H17, G17⟩ := V16
        have hin17 : ¬ ((0 : Int32) < 0 ∨ cl17.slots.size ≤ ((0 : Int32)).toNatClampNeg) := inb_of S17 ⟨by decide, by decide⟩
        have hat17 : cl17.slots[((0 : Int32)).toNatClampNeg]? = some (.int (0 : Int32)) := H17.at hin17 rfl
        have O18 : Old Z n0 h16 := (((((O0.ext E8).wr W10 gb8).wr W12 gb8).wr W14 gb8).wr W16 gb8)
        have f20 := ((((((Exa.ext O0.2 X_a_NONE).ext E8).wr W10).wr W12).wr W14).wr W16)
        obtain ⟨cq19, kq19, q19a, q19b, q19c⟩ := isOf hZ e16 f20
        obtain ⟨_, _, ⟨T19, L19, k19, n19⟩, -, X19, ⟨Lc19, hQ19, l19, y19, z19⟩, st19⟩ := X16.virtualBack hx (y := (⟨"com/example/carbonfold/carbonfold/model/RosterItem$Subscription", "hasTo", "()Z"⟩ : MethodName)) (z := (⟨"com/example/carbonfold/carbonfold/model/RosterItem$Subscription", "hasTo", "()Z"⟩ : MethodName)) hown (mvT hZ (hw _ (List.mem_of_getElem? (i := 4) rfl))) (mvT hZ (hw _ (List.mem_of_getElem? (i := 5) rfl))) (notFace_of_selects (args := #[]) (mvT hZ (hw _ (List.mem_of_getElem? (i := 7) rfl)))) (mvT hZ (hw _ (List.mem_of_getElem? (i := 7) rfl))) (mvT hZ (hw _ (List.mem_of_getElem? (i := 6) rfl))) (by decide) (backOf (W := 0) (rm_hasTo_1 l Z a0 hw [] a_NONE a_TO a_BOTH a_FROM h16 n0 O18 En) hZ (hw _ (List.mem_of_getElem? (i := 8) rfl)) (hw _ (List.mem_of_getElem? (i := 1) rfl)) (by decide) (by decide)) q19a q19c (g := (mkF m 95 #[.val (.int i0), .val (.int i1), .val (.int (0 : Int32)), .val (.int (0 : Int32)), .val (.int (0 : Int32)), .val (.ref a_NONE), .val (.ref b8), .val (.int (0 : Int32))] [(.ref a_NONE)])) rfl (by rw [hml]; rfl) (Steps.refl _) (argsL := []) (rest := []) (lenOf pd_0 rfl) rfl (by show 2 * 0 + _ ≤ _; exact Nat.le_of_eq rfl) (hb hby at_95) (fun _ _ => ⟨rfl, e16, (by decide : 1 + 0 ≤ _), (by decide : 4 + 0 ≤ _)⟩)
        dsimp only [Pt.U, Pt.locs, Pt.cells, Pt.slots] at X19 l19 y19 z19 st19 hQ19
        subst l19 y19 z19
        obtain ⟨rfl, N19q, hh19⟩ := hQ19
        have N19 := Fr.app N16 N19q
        obtain ⟨cq21, kq21, q21a, q21b, q21c⟩ := isOf hZ hh19 f20
        obtain ⟨_, _, ⟨T21, L21, k21, n21⟩, -, X21, ⟨Lc21, hQ21, l21, y21, z21⟩, st21⟩ := X19.virtualBack hx (y := (⟨"com/example/carbonfold/carbonfold/model/RosterItem$Subscription", "withTo", "(Z)Lcom/example/carbonfold/carbonfold/model/RosterItem$Subscription;"⟩ : MethodName)) (z := (⟨"com/example/carbonfold/carbonfold/model/RosterItem$Subscription", "withTo", "(Z)Lcom/example/carbonfold/carbonfold/model/RosterItem$Subscription;"⟩ : MethodName)) hown (mvT hZ (hw _ (List.mem_of_getElem? (i := 13) rfl))) (mvT hZ (hw _ (List.mem_of_getElem? (i := 14) rfl))) (notFace_of_selects (args := #[]) (mvT hZ (hw _ (List.mem_of_getElem? (i := 16) rfl)))) (mvT hZ (hw _ (List.mem_of_getElem? (i := 16) rfl))) (mvT hZ (hw _ (List.mem_of_getElem? (i := 15) rfl))) (by decide) (backOf (W := 0) (rm_withTo_2 l Z a0 hw [] a_NONE a_TO a_BOTH a_FROM h16 n0 O18 En) hZ (hw _ (List.mem_of_getElem? (i := 17) rfl)) (hw _ (List.mem_of_getElem? (i := 1) rfl)) (by decide) (by decide)) q21a q21c (g := (mkF m 106 #[.val (.int i0), .val (.int i1), .val (.int (0 : Int32)), .val (.int (0 : Int32)), .val (.int (0 : Int32)), .val (.ref a_NONE), .val (.ref b8), .val (.int (0 : Int32))] [(.int (0 : Int32)), (.ref a_NONE)])) rfl (by rw [hml]; rfl) (Steps.refl _) (argsL := [(.int (0 : Int32))]) (rest := []) (lenOf pd_2 rfl) rfl (by show 2 * 0 + _ ≤ _; exact Nat.le_of_eq rfl) (hb hby at_106) (fun _ _ => ⟨rfl, hh19, (by decide : 1 + 0 ≤ _), (by decide : 4 + 0 ≤ _)⟩)
        dsimp only [Pt.U, Pt.locs, Pt.cells, Pt.slots] at X21 l21 y21 z21 st21 hQ21
        subst l21 y21 z21
        obtain ⟨rfl, N21q, hh21⟩ := hQ21
        have N21 := Fr.app N19 N21q
        obtain ⟨cq22, kq22, q22a, q22b, q22c⟩ := isOf hZ hh21 f20
        obtain ⟨_, _, ⟨T22, L22, k22, n22⟩, -, X22, ⟨Lc22, hQ22, l22, y22, z22⟩, st22⟩ := X21.virtualBack hx (y := (⟨"com/example/carbonfold/carbonfold/model/RosterItem$Subscription", "hasTo", "()Z"⟩ : MethodName)) (z := (⟨"com/example/carbonfold/carbonfold/model/RosterItem$Subscription", "hasTo", "()Z"⟩ : MethodName)) hown (mvT hZ (hw _ (List.mem_of_getElem? (i := 4) rfl))) (mvT hZ (hw _ (List.mem_of_getElem? (i := 5) rfl))) (notFace_of_selects (args := #[]) (mvT hZ (hw _ (List.mem_of_getElem? (i := 7) rfl)))) (mvT hZ (hw _ (List.mem_of_getElem? (i := 7) rfl))) (mvT hZ (hw _ (List.mem_of_getElem? (i := 6) rfl))) (by decide) (backOf (W := 0) (rm_hasTo_1 l Z a0 hw [] a_NONE a_TO a_BOTH a_FROM h16 n0 O18 En) hZ (hw _ (List.mem_of_getElem? (i := 8) rfl)) (hw _ (List.mem_of_getElem? (i := 1) rfl)) (by decide) (by decide)) q22a q22c (g := (mkF m 109 #[.val (.int i0), .val (.int i1), .val (.int (0 : Int32)), .val (.int (0 : Int32)), .val (.int (0 : Int32)), .val (.ref a_NONE), .val (.ref b8), .val (.int (0 : Int32))] [(.ref a_NONE)])) rfl (by rw [hml]; rfl) (Steps.refl _) (argsL := []) (rest := []) (lenOf pd_0 rfl) rfl (by show 2 * 0 + _ ≤ _; exact Nat.le_of_eq rfl) (hb hby at_109) (fun _ _ => ⟨rfl, hh21, (by decide : 1 + 0 ≤ _), (by decide : 4 + 0 ≤ _)⟩)
        dsimp only [Pt.U, Pt.locs, Pt.cells, Pt.slots] at X22 l22 y22 z22 st22 hQ22
        subst l22 y22 z22
        obtain ⟨rfl, N22q, hh22⟩ := hQ22
        have N22 := Fr.app N21 N22q
        obtain ⟨cq23, kq23, q23a, q23b, q23c⟩ := isOf hZ hh22 f20
        obtain ⟨_, _, ⟨T23, L23, k23, n23⟩, -, X23, ⟨Lc23, hQ23, l23, y23, z23⟩, st23⟩ := X22.virtualBack hx (y := (⟨"com/example/carbonfold/carbonfold/model/RosterItem$Subscription", "withFrom", "(Z)Lcom/example/carbonfold/carbonfold/model/RosterItem$Subscription;"⟩ : MethodName)) (z := (⟨"com/example/carbonfold/carbonfold/model/RosterItem$Subscription", "withFrom", "(Z)Lcom/example/carbonfold/carbonfold/model/RosterItem$Subscription;"⟩ : MethodName)) hown (mvT hZ (hw _ (List.mem_of_getElem? (i := 28) rfl))) (mvT hZ (hw _ (List.mem_of_getElem? (i := 29) rfl))) (notFace_of_selects (args := #[]) (mvT hZ (hw _ (List.mem_of_getElem? (i := 31) rfl)))) (mvT hZ (hw _ (List.mem_of_getElem? (i := 31) rfl))) (mvT hZ (hw _ (List.mem_of_getElem? (i := 30) rfl))) (by decide) (backOf (W := 0) (rm_withFrom_5 l Z a0 hw [] a_NONE a_TO a_BOTH a_FROM h16 n0 O18 En) hZ (hw _ (List.mem_of_getElem? (i := 32) rfl)) (hw _ (List.mem_of_getElem? (i := 1) rfl)) (by decide) (by decide)) q23a q23c (g := (mkF m 120 #[.val (.int i0), .val (.int i1), .val (.int (0 : Int32)), .val (.int (0 : Int32)), .val (.int (0 : Int32)), .val (.ref a_NONE), .val (.ref b8), .val (.int (0 : Int32))] [(.int (0 : Int32)), (.ref a_NONE)])) rfl (by rw [hml]; rfl) (Steps.refl _) (argsL := [(.int (0 : Int32))]) (rest := []) (lenOf pd_2 rfl) rfl (by show 2 * 0 + _ ≤ _; exact Nat.le_of_eq rfl) (hb hby at_120) (fun _ _ => ⟨rfl, hh22, (by decide : 1 + 0 ≤ _), (by decide : 4 + 0 ≤ _)⟩)
        dsimp only [Pt.U, Pt.locs, Pt.cells, Pt.slots] at X23 l23 y23 z23 st23 hQ23
        subst l23 y23 z23
        obtain ⟨rfl, N23q, hh23⟩ := hQ23
        have N23 := Fr.app N22 N23q
        obtain ⟨cq24, kq24, q24a, q24b, q24c⟩ := isOf hZ hh23 f20
        obtain ⟨_, _, ⟨T24, L24, k24, n24⟩, -, X24, ⟨Lc24, hQ24, l24, y24, z24⟩, st24⟩ := X23.virtualBack hx (y := (⟨"com/example/carbonfold/carbonfold/model/RosterItem$Subscription", "hasTo", "()Z"⟩ : MethodName)) (z := (⟨"com/example/carbonfold/carbonfold/model/RosterItem$Subscription", "hasTo", "()Z"⟩ : MethodName)) hown (mvT hZ (hw _ (List.mem_of_getElem? (i := 4) rfl))) (mvT hZ (hw _ (List.mem_of_getElem? (i := 5) rfl))) (notFace_of_selects (args := #[]) (mvT hZ (hw _ (List.mem_of_getElem? (i := 7) rfl)))) (mvT hZ (hw _ (List.mem_of_getElem? (i := 7) rfl))) (mvT hZ (hw _ (List.mem_of_getElem? (i := 6) rfl))) (by decide) (backOf (W := 0) (rm_hasTo_1 l Z a0 hw [] a_NONE a_TO a_BOTH a_FROM h16 n0 O18 En) hZ (hw _ (List.mem_of_getElem? (i := 8) rfl)) (hw _ (List.mem_of_getElem? (i := 1) rfl)) (by decide) (by decide)) q24a q24c (g := (mkF m 123 #[.val (.int i0), .val (.int i1), .val (.int (0 : Int32)), .val (.int (0 : Int32)), .val (.int (0 : Int32)), .val (.ref a_NONE), .val (.ref b8), .val (.int (0 : Int32))] [(.ref a_NONE)])) rfl (by rw [hml]; rfl) (Steps.refl _) (argsL := []) (rest := []) (lenOf pd_0 rfl) rfl (by show 2 * 0 + _ ≤ _; exact Nat.le_of_eq rfl) (hb hby at_123) (fun _ _ => ⟨rfl, hh23, (by decide : 1 + 0 ≤ _), (by decide : 4 + 0 ≤ _)⟩)
        dsimp only [Pt.U, Pt.locs, Pt.cells, Pt.slots] at X24 l24 y24 z24 st24 hQ24
        subst l24 y24 z24
        obtain ⟨rfl, N24q, hh24⟩ := hQ24
        have N24 := Fr.app N23 N24q
        obtain ⟨fs, hr, hrun, hended, hW, hsame⟩ := X24.leave (v := some (.int (1 : Int32))) (fun h => by rw [Bd.returns] at h; cases h)
        refine ⟨_, _, pre5 _ ?_, hrun, hended, _, _, rfl, ?_, ⟨_, rfl⟩, hW, hsame.mono (by decide) (by decide)⟩
        · skip
          show Steps p.tables e below (s₁.setTop (mkF m 19 #[.val (.int i0), .val (.int i1), .val (.int (0 : Int32)), .val (.int (0 : Int32)), .unset, .unset, .unset, .unset] [(.int (i1 &&& (2 : Int32)))])) _
          rw [hk6]
          show Steps p.tables e below (s₁.setTop (mkF m 19 #[.val (.int i0), .val (.int i1), .val (.int (0 : Int32)), .val (.int (0 : Int32)), .unset, .unset, .unset, .unset] [(.int (0 : Int32))])) _
          refine XS.ifYes X0.here hx rfl (pc0 := 19) (pc' := 26) rfl (hb hby at_19) rfl (by decide) (by decide) (by decide) ?_
          show Steps p.tables e below (s₁.setTop (mkF m 26 #[.val (.int i0), .val (.int i1), .val (.int (0 : Int32)), .val (.int (0 : Int32)), .unset, .unset, .unset, .unset] [])) _
          refine XS.iconst X0.here hx rfl (hb hby at_26) ?_
          show Steps p.tables e below (s₁.setTop (mkF m 27 #[.val (.int i0), .val (.int i1), .val (.int (0 : Int32)), .val (.int (0 : Int32)), .unset, .unset, .unset, .unset] [(.int (0 : Int32))])) _
          refine XS.istore X0.here hx rfl (hb hby at_27) rfl (l' := #[.val (.int i0), .val (.int i1), .val (.int (0 : Int32)), .val (.int (0 : Int32)), .val (.int (0 : Int32)), .unset, .unset, .unset]) rfl ?_
          show Steps p.tables e below (s₁.setTop (mkF m 29 #[.val (.int i0), .val (.int i1), .val (.int (0 : Int32)), .val (.int (0 : Int32)), .val (.int (0 : Int32)), .unset, .unset, .unset] [])) _
          refine XS.iloadN X0.here hx rfl (hb hby at_29) rfl ?_
          show Steps p.tables e below (s₁.setTop (mkF m 30 #[.val (.int i0), .val (.int i1), .val (.int (0 : Int32)), .val (.int (0 : Int32)), .val (.int (0 : Int32)), .unset, .unset, .unset] [(.int (0 : Int32))])) _
          refine XS.ifNo X0.here hx rfl (hb hby at_30) rfl (by decide) ?_
          show Steps p.tables e below (s₁.setTop (mkF m 33 #[.val (.int i0), .val (.int i1), .val (.int (0 : Int32)), .val (.int (0 : Int32)), .val (.int (0 : Int32)), .unset, .unset, .unset] [])) _
          refine st7 _ ?_
          show Steps p.tables e below (T7.setTop (mkF m 36 #[.val (.int i0), .val (.int i1), .val (.int (0 : Int32)), .val (.int (0 : Int32)), .val (.int (0 : Int32)), .unset, .unset, .unset] [(.ref a_NONE)])) _
          refine XS.goto X7.here hx rfl (pc0 := 36) (pc' := 64) rfl (hb hby at_36) (by decide) (by decide) ?_
          show Steps p.tables e below (T7.setTop (mkF m 64 #[.val (.int i0), .val (.int i1), .val (.int (0 : Int32)), .val (.int (0 : Int32)), .val (.int (0 : Int32)), .unset, .unset, .unset] [(.ref a_NONE)])) _
          refine XS.astore X7.here hx rfl (hb hby at_64) rfl rfl (l' := #[.val (.int i0), .val (.int i1), .val (.int (0 : Int32)), .val (.int (0 : Int32)), .val (.int (0 : Int32)), .val (.ref a_NONE), .unset, .unset]) rfl ?_
          show Steps p.tables e below (T7.setTop (mkF m 66 #[.val (.int i0), .val (.int i1), .val (.int (0 : Int32)), .val (.int (0 : Int32)), .val (.int (0 : Int32)), .val (.ref a_NONE), .unset, .unset] [])) _
          refine XS.iconst X7.here hx rfl (hb hby at_66) ?_
          show Steps p.tables e below (T7.setTop (mkF m 67 #[.val (.int i0), .val (.int i1), .val (.int (0 : Int32)), .val (.int (0 : Int32)), .val (.int (0 : Int32)), .val (.ref a_NONE), .unset, .unset] [(.int (4 : Int32))])) _
          refine st8 _ ?_
          show Steps p.tables e below (T8.setTop (mkF m 69 #[.val (.int i0), .val (.int i1), .val (.int (0 : Int32)), .val (.int (0 : Int32)), .val (.int (0 : Int32)), .val (.ref a_NONE), .unset, .unset] [(.ref b8)])) _
          refine XS.dup X8.here hx rfl (hb hby at_69) rfl rfl ?_
          show Steps p.tables e below (T8.setTop (mkF m 70 #[.val (.int i0), .val (.int i1), .val (.int (0 : Int32)), .val (.int (0 : Int32)), .val (.int (0 : Int32)), .val (.ref a_NONE), .unset, .unset] [(.ref b8), (.ref b8)])) _
          refine XS.iconst X8.here hx rfl (hb hby at_70) ?_
          show Steps p.tables e below (T8.setTop (mkF m 71 #[.val (.int i0), .val (.int i1), .val (.int (0 : Int32)), .val (.int (0 : Int32)), .val (.int (0 : Int32)), .val (.ref a_NONE), .unset, .unset] [(.int (0 : Int32)), (.ref b8), (.ref b8)])) _
          refine XS.iconst X8.here hx rfl (hb hby at_71) ?_
          show Steps p.tables e below (T8.setTop (mkF m 72 #[.val (.int i0), .val (.int i1), .val (.int (0 : Int32)), .val (.int (0 : Int32)), .val (.int (0 : Int32)), .val (.ref a_NONE), .unset, .unset] [(.int (0 : Int32)), (.int (0 : Int32)), (.ref b8), (.ref b8)])) _
          refine st10 _ ?_
          show Steps p.tables e below (T10.setTop (mkF m 73 #[.val (.int i0), .val (.int i1), .val (.int (0 : Int32)), .val (.int (0 : Int32)), .val (.int (0 : Int32)), .val (.ref a_NONE), .unset, .unset] [(.ref b8)])) _
          refine XS.dup X10.here hx rfl (hb hby at_73) rfl rfl ?_
          show Steps p.tables e below (T10.setTop (mkF m 74 #[.val (.int i0), .val (.int i1), .val (.int (0 : Int32)), .val (.int (0 : Int32)), .val (.int (0 : Int32)), .val (.ref a_NONE), .unset, .unset] [(.ref b8), (.ref b8)])) _
          refine XS.iconst X10.here hx rfl (hb hby at_74) ?_
          show Steps p.tables e below (T10.setTop (mkF m 75 #[.val (.int i0), .val (.int i1), .val (.int (0 : Int32)), .val (.int (0 : Int32)), .val (.int (0 : Int32)), .val (.ref a_NONE), .unset, .unset] [(.int (1 : Int32)), (.ref b8), (.ref b8)])) _
          refine XS.iconst X10.here hx rfl (hb hby at_75) ?_
          show Steps p.tables e below (T10.setTop (mkF m 76 #[.val (.int i0), .val (.int i1), .val (.int (0 : Int32)), .val (.int (0 : Int32)), .val (.int (0 : Int32)), .val (.ref a_NONE), .unset, .unset] [(.int (1 : Int32)), (.int (1 : Int32)), (.ref b8), (.ref b8)])) _
          refine st12 _ ?_
          show Steps p.tables e below (T12.setTop (mkF m 77 #[.val (.int i0), .val (.int i1), .val (.int (0 : Int32)), .val (.int (0 : Int32)), .val (.int (0 : Int32)), .val (.ref a_NONE), .unset, .unset] [(.ref b8)])) _
          refine XS.dup X12.here hx rfl (hb hby at_77) rfl rfl ?_
          show Steps p.tables e below (T12.setTop (mkF m 78 #[.val (.int i0), .val (.int i1), .val (.int (0 : Int32)), .val (.int (0 : Int32)), .val (.int (0 : Int32)), .val (.ref a_NONE), .unset, .unset] [(.ref b8), (.ref b8)])) _
          refine XS.iconst X12.here hx rfl (hb hby at_78) ?_
          show Steps p.tables e below (T12.setTop (mkF m 79 #[.val (.int i0), .val (.int i1), .val (.int (0 : Int32)), .val (.int (0 : Int32)), .val (.int (0 : Int32)), .val (.ref a_NONE), .unset, .unset] [(.int (2 : Int32)), (.ref b8), (.ref b8)])) _
          refine XS.iconst X12.here hx rfl (hb hby at_79) ?_
          show Steps p.tables e below (T12.setTop (mkF m 80 #[.val (.int i0), .val (.int i1), .val (.int (0 : Int32)), .val (.int (0 : Int32)), .val (.int (0 : Int32)), .val (.ref a_NONE), .unset, .unset] [(.int (0 : Int32)), (.int (2 : Int32)), (.ref b8), (.ref b8)])) _
          refine st14 _ ?_
          show Steps p.tables e below (T14.setTop (mkF m 81 #[.val (.int i0), .val (.int i1), .val (.int (0 : Int32)), .val (.int (0 : Int32)), .val (.int (0 : Int32)), .val (.ref a_NONE), .unset, .unset] [(.ref b8)])) _
          refine XS.dup X14.here hx rfl (hb hby at_81) rfl rfl ?_
          show Steps p.tables e below (T14.setTop (mkF m 82 #[.val (.int i0), .val (.int i1), .val (.int (0 : Int32)), .val (.int (0 : Int32)), .val (.int (0 : Int32)), .val (.ref a_NONE), .unset, .unset] [(.ref b8), (.ref b8)])) _
          refine XS.iconst X14.here hx rfl (hb hby at_82) ?_
          show Steps p.tables e below (T14.setTop (mkF m 83 #[.val (.int i0), .val (.int i1), .val (.int (0 : Int32)), .val (.int (0 : Int32)), .val (.int (0 : Int32)), .val (.ref a_NONE), .unset, .unset] [(.int (3 : Int32)), (.ref b8), (.ref b8)])) _
          refine XS.iconst X14.here hx rfl (hb hby at_83) ?_
          show Steps p.tables e below (T14.setTop (mkF m 84 #[.val (.int i0), .val (.int i1), .val (.int (0 : Int32)), .val (.int (0 : Int32)), .val (.int (0 : Int32)), .val (.ref a_NONE), .unset, .unset] [(.int (1 : Int32)), (.int (3 : Int32)), (.ref b8), (.ref b8)])) _
          refine st16 _ ?_
          show Steps p.tables e below (T16.setTop (mkF m 85 #[.val (.int i0), .val (.int i1), .val (.int (0 : Int32)), .val (.int (0 : Int32)), .val (.int (0 : Int32)), .val (.ref a_NONE), .unset, .unset] [(.ref b8)])) _
          refine XS.astore X16.here hx rfl (hb hby at_85) rfl rfl (l' := #[.val (.int i0), .val (.int i1), .val (.int (0 : Int32)), .val (.int (0 : Int32)), .val (.int (0 : Int32)), .val (.ref a_NONE), .val (.ref b8), .unset]) rfl ?_
          show Steps p.tables e below (T16.setTop (mkF m 87 #[.val (.int i0), .val (.int i1), .val (.int (0 : Int32)), .val (.int (0 : Int32)), .val (.int (0 : Int32)), .val (.ref a_NONE), .val (.ref b8), .unset] [])) _
          refine XS.aload X16.here hx rfl (hb hby at_87) rfl rfl ?_
          show Steps p.tables e below (T16.setTop (mkF m 89 #[.val (.int i0), .val (.int i1), .val (.int (0 : Int32)), .val (.int (0 : Int32)), .val (.int (0 : Int32)), .val (.ref a_NONE), .val (.ref b8), .unset] [(.ref b8)])) _
          refine XS.iloadN X16.here hx rfl (hb hby at_89) rfl ?_
          show Steps p.tables e below (T16.setTop (mkF m 90 #[.val (.int i0), .val (.int i1), .val (.int (0 : Int32)), .val (.int (0 : Int32)), .val (.int (0 : Int32)), .val (.ref a_NONE), .val (.ref b8), .unset] [(.int (0 : Int32)), (.ref b8)])) _
          refine X16.baloadBooleans hx (j := (0 : Int32)) (v := (.int (0 : Int32))) (by rw [e16]; exact Ar17.1) (State.isArrayOf_alike hZ.alike Ar17.2.1) Ar17.2.2 hin17 hat17 (g := (mkF m 90 #[.val (.int i0), .val (.int i1), .val (.int (0 : Int32)), .val (.int (0 : Int32)), .val (.int (0 : Int32)), .val (.ref a_NONE), .val (.ref b8), .unset] [(.int (0 : Int32)), (.ref b8)])) rfl rfl (hb hby at_90) _ ?_
          show Steps p.tables e below (T16.setTop (mkF m 91 #[.val (.int i0), .val (.int i1), .val (.int (0 : Int32)), .val (.int (0 : Int32)), .val (.int (0 : Int32)), .val (.ref a_NONE), .val (.ref b8), .unset] [(.int (0 : Int32))])) _
          refine XS.istore X16.here hx rfl (hb hby at_91) rfl (l' := #[.val (.int i0), .val (.int i1), .val (.int (0 : Int32)), .val (.int (0 : Int32)), .val (.int (0 : Int32)), .val (.ref a_NONE), .val (.ref b8), .val (.int (0 : Int32))]) rfl ?_
          show Steps p.tables e below (T16.setTop (mkF m 93 #[.val (.int i0), .val (.int i1), .val (.int (0 : Int32)), .val (.int (0 : Int32)), .val (.int (0 : Int32)), .val (.ref a_NONE), .val (.ref b8), .val (.int (0 : Int32))] [])) _
          refine XS.aload X16.here hx rfl (hb hby at_93) rfl rfl ?_
          show Steps p.tables e below (T16.setTop (mkF m 95 #[.val (.int i0), .val (.int i1), .val (.int (0 : Int32)), .val (.int (0 : Int32)), .val (.int (0 : Int32)), .val (.ref a_NONE), .val (.ref b8), .val (.int (0 : Int32))] [(.ref a_NONE)])) _
          refine st19.trans ?_
          show Steps p.tables e below (T19.setTop (mkF m 98 #[.val (.int i0), .val (.int i1), .val (.int (0 : Int32)), .val (.int (0 : Int32)), .val (.int (0 : Int32)), .val (.ref a_NONE), .val (.ref b8), .val (.int (0 : Int32))] [(.int (0 : Int32))])) _
          refine XS.iload X19.here hx rfl (hb hby at_98) rfl ?_
          show Steps p.tables e below (T19.setTop (mkF m 100 #[.val (.int i0), .val (.int i1), .val (.int (0 : Int32)), .val (.int (0 : Int32)), .val (.int (0 : Int32)), .val (.ref a_NONE), .val (.ref b8), .val (.int (0 : Int32))] [(.int (0 : Int32)), (.int (0 : Int32))])) _
          refine XS.icmpNo X19.here hx rfl (hb hby at_100) rfl (by decide) ?_
          show Steps p.tables e below (T19.setTop (mkF m 103 #[.val (.int i0), .val (.int i1), .val (.int (0 : Int32)), .val (.int (0 : Int32)), .val (.int (0 : Int32)), .val (.ref a_NONE), .val (.ref b8), .val (.int (0 : Int32))] [])) _
          refine XS.aload X19.here hx rfl (hb hby at_103) rfl rfl ?_
          show Steps p.tables e below (T19.setTop (mkF m 105 #[.val (.int i0), .val (.int i1), .val (.int (0 : Int32)), .val (.int (0 : Int32)), .val (.int (0 : Int32)), .val (.ref a_NONE), .val (.ref b8), .val (.int (0 : Int32))] [(.ref a_NONE)])) _
          refine XS.iloadN X19.here hx rfl (hb hby at_105) rfl ?_
          show Steps p.tables e below (T19.setTop (mkF m 106 #[.val (.int i0), .val (.int i1), .val (.int (0 : Int32)), .val (.int (0 : Int32)), .val (.int (0 : Int32)), .val (.ref a_NONE), .val (.ref b8), .val (.int (0 : Int32))] [(.int (0 : Int32)), (.ref a_NONE)])) _
          refine st21.trans ?_
          show Steps p.tables e below (T21.setTop (mkF m 109 #[.val (.int i0), .val (.int i1), .val (.int (0 : Int32)), .val (.int (0 : Int32)), .val (.int (0 : Int32)), .val (.ref a_NONE), .val (.ref b8), .val (.int (0 : Int32))] [(.ref a_NONE)])) _
          refine st22.trans ?_
          show Steps p.tables e below (T22.setTop (mkF m 112 #[.val (.int i0), .val (.int i1), .val (.int (0 : Int32)), .val (.int (0 : Int32)), .val (.int (0 : Int32)), .val (.ref a_NONE), .val (.ref b8), .val (.int (0 : Int32))] [(.int (0 : Int32))])) _
          refine XS.iloadN X22.here hx rfl (hb hby at_112) rfl ?_
          show Steps p.tables e below (T22.setTop (mkF m 113 #[.val (.int i0), .val (.int i1), .val (.int (0 : Int32)), .val (.int (0 : Int32)), .val (.int (0 : Int32)), .val (.ref a_NONE), .val (.ref b8), .val (.int (0 : Int32))] [(.int (0 : Int32)), (.int (0 : Int32))])) _
          refine XS.icmpNo X22.here hx rfl (hb hby at_113) rfl (by decide) ?_
          show Steps p.tables e below (T22.setTop (mkF m 116 #[.val (.int i0), .val (.int i1), .val (.int (0 : Int32)), .val (.int (0 : Int32)), .val (.int (0 : Int32)), .val (.ref a_NONE), .val (.ref b8), .val (.int (0 : Int32))] [])) _
          refine XS.aload X22.here hx rfl (hb hby at_116) rfl rfl ?_
          show Steps p.tables e below (T22.setTop (mkF m 118 #[.val (.int i0), .val (.int i1), .val (.int (0 : Int32)), .val (.int (0 : Int32)), .val (.int (0 : Int32)), .val (.ref a_NONE), .val (.ref b8), .val (.int (0 : Int32))] [(.ref a_NONE)])) _
          refine XS.iload X22.here hx rfl (hb hby at_118) rfl ?_
          show Steps p.tables e below (T22.setTop (mkF m 120 #[.val (.int i0), .val (.int i1), .val (.int (0 : Int32)), .val (.int (0 : Int32)), .val (.int (0 : Int32)), .val (.ref a_NONE), .val (.ref b8), .val (.int (0 : Int32))] [(.int (0 : Int32)), (.ref a_NONE)])) _
          refine st23.trans ?_
          show Steps p.tables e below (T23.setTop (mkF m 123 #[.val (.int i0), .val (.int i1), .val (.int (0 : Int32)), .val (.int (0 : Int32)), .val (.int (0 : Int32)), .val (.ref a_NONE), .val (.ref b8), .val (.int (0 : Int32))] [(.ref a_NONE)])) _
          refine st24.trans ?_
          show Steps p.tables e below (T24.setTop (mkF m 126 #[.val (.int i0), .val (.int i1), .val (.int (0 : Int32)), .val (.int (0 : Int32)), .val (.int (0 : Int32)), .val (.ref a_NONE), .val (.ref b8), .val (.int (0 : Int32))] [(.int (0 : Int32))])) _
          refine XS.iload X24.here hx rfl (hb hby at_126) rfl ?_
          show Steps p.tables e below (T24.setTop (mkF m 128 #[.val (.int i0), .val (.int i1), .val (.int (0 : Int32)), .val (.int (0 : Int32)), .val (.int (0 : Int32)), .val (.ref a_NONE), .val (.ref b8), .val (.int (0 : Int32))] [(.int (0 : Int32)), (.int (0 : Int32))])) _
          refine XS.icmpNo X24.here hx rfl (hb hby at_128) rfl (by decide) ?_
          show Steps p.tables e below (T24.setTop (mkF m 131 #[.val (.int i0), .val (.int i1), .val (.int (0 : Int32)), .val (.int (0 : Int32)), .val (.int (0 : Int32)), .val (.ref a_NONE), .val (.ref b8), .val (.int (0 : Int32))] [])) _
          refine XS.iconst X24.here hx rfl (hb hby at_131) ?_
          show Steps p.tables e below (T24.setTop (mkF m 132 #[.val (.int i0), .val (.int i1), .val (.int (0 : Int32)), .val (.int (0 : Int32)), .val (.int (0 : Int32)), .val (.ref a_NONE), .val (.ref b8), .val (.int (0 : Int32))] [(.int (1 : Int32))])) _
          refine XS.goto X24.here hx rfl (pc0 := 132) (pc' := 136) rfl (hb hby at_132) (by decide) (by decide) ?_
          show Steps p.tables e below (T24.setTop (mkF m 136 #[.val (.int i0), .val (.int i1), .val (.int (0 : Int32)), .val (.int (0 : Int32)), .val (.int (0 : Int32)), .val (.ref a_NONE), .val (.ref b8), .val (.int (0 : Int32))] [(.int (1 : Int32))])) _
          exact retN X24 hx (t := .boolean) Bd.returns (by simp) (hb hby at_136) hr
        · show QL n0 _ T24.heap _
          rw [hh24]
          exact ⟨rfl, N24⟩
      · skip
        obtain ⟨T25, X25, e25, st25⟩ := getS2 X0 hx hZ hown (host := "") (Or.inl (hw _ (List.mem_of_getElem? (i := 0) rfl))) Via.refl e0 (Sta.ext O0.2 S_a_NONE) (g := (mkF m 33 #[.val (.int i0), .val (.int i1), .val (.int (0 : Int32)), .val (.int (0 : Int32)), .val (.int (1 : Int32)), .unset, .unset, .unset] [])) rfl (hb hby at_33)
        obtain ⟨T26, h26, k26, X26, e26, E26, A26, st26⟩ := newP X25 hx hZ (hw _ (List.mem_of_getElem? (i := 3) rfl)) e25 (g := (mkF m 67 #[.val (.int i0), .val (.int i1), .val (.int (0 : Int32)), .val (.int (0 : Int32)), .val (.int (1 : Int32)), .val (.ref a_NONE), .unset, .unset] [(.int (4 : Int32))])) rfl (hb hby at_67) rfl (by decide) (cap := 4) (by decide) (by decide) (by decide) (by decide)
        obtain ⟨b26, g26⟩ : ∃ z, z = h0.size := ⟨_, rfl⟩
        rw [← g26] at A26 st26
        have gb26 : n0 ≤ b26 := by rw [g26, ← O0.1]; exact O0.2.1
        have ne26_a_BOTH : a_BOTH ≠ b26 := by rw [g26]; exact Nat.ne_of_lt ((Exa.ext O0.2 X_a_BOTH)).lt
        have ne26_a_FROM : a_FROM ≠ b26 := by rw [g26]; exact Nat.ne_of_lt ((Exa.ext O0.2 X_a_FROM)).lt
        have ne26_a_NONE : a_NONE ≠ b26 := by rw [g26]; exact Nat.ne_of_lt ((Exa.ext O0.2 X_a_NONE)).lt
        have ne26_a_TO : a_TO ≠ b26 := by rw [g26]; exact Nat.ne_of_lt ((Exa.ext O0.2 X_a_TO)).lt
        have V26 : Arv Z h26 b26 k26 .boolean (4 : Int32) [(.int (0 : Int32)), (.int (0 : Int32)), (.int (0 : Int32)), (.int (0 : Int32))] (.int (0 : Int32)) := (Arv.new A26 (by decide)).pad (pad_rep [] (.int (0 : Int32)) 4)
        obtain ⟨cl27, Ar27, q27, S27, N27_, H27, G27⟩ := V26
        have hin27 : ¬ ((0 : Int32) < 0 ∨ cl27.slots.size ≤ ((0 : Int32)).toNatClampNeg) := inb_of S27 ⟨by decide, by decide⟩
        obtain ⟨T28, h28, X28, e28, W28, st28⟩ := stZ X26 hx hZ e26 Ar27 (j := (0 : Int32)) hin27 (g := (mkF m 72 #[.val (.int i0), .val (.int i1), .val (.int (0 : Int32)), .val (.int (0 : Int32)), .val (.int (1 : Int32)), .val (.ref a_NONE), .unset, .unset] [(.int (0 : Int32)), (.int (0 : Int32)), (.ref b26), (.ref b26)])) rfl rfl (hb hby at_72)
        have V28 : Arv Z h28 b26 k26 .boolean (4 : Int32) [(.int (0 : Int32)), (.int (0 : Int32)), (.int (0 : Int32)), (.int (0 : Int32))] (.int (0 : Int32)) := Arv.set Ar27 q27 S27 N27_ H27 G27 (fits_nar_bool _) W28 0 rfl (Nat.le_of_ble_eq_true rfl)
        have N28 := Fr.snoc X28 N0 gb26
        obtain ⟨cl29, Ar29, q29, S29, N29_, H29, G29⟩ := V28
        have hin29 : ¬ ((1 : Int32) < 0 ∨ cl29.slots.size ≤ ((1 : Int32)).toNatClampNeg) := inb_of S29 ⟨by decide, by decide⟩
        obtain ⟨T30, h30, X30, e30, W30, st30⟩ := stZ X28 hx hZ e28 Ar29 (j := (1 : Int32)) hin29 (g := (mkF m 76 #[.val (.int i0), .val (.int i1), .val (.int (0 : Int32)), .val (.int (0 : Int32)), .val (.int (1 : Int32)), .val (.ref a_NONE), .unset, .unset] [(.int (1 : Int32)), (.int (1 : Int32)), (.ref b26), (.ref b26)])) rfl rfl (hb hby at_76)
        have V30 : Arv Z h30 b26 k26 .boolean (4 : Int32) [(.int (0 : Int32)), (.int (1 : Int32)), (.int (0 : Int32)), (.int (0 : Int32))] (.int (0 : Int32)) := Arv.set Ar29 q29 S29 N29_ H29 G29 (fits_nar_bool _) W30 1 rfl (Nat.le_of_ble_eq_true rfl)
        have N30 := Fr.snoc X30 N28 gb26
        obtain ⟨cl31, Ar31, q31, S31, N31_, H31, G31⟩ := V30
        have hin31 : ¬ ((2 : Int32) < 0 ∨ cl31.slots.size ≤ ((2 : Int32)).toNatClampNeg) := inb_of S31 ⟨by decide, by decide⟩
        obtain ⟨T32, h32, X32, e32, W32, st32⟩ := stZ X30 hx hZ e30 Ar31 (j := (2 : Int32)) hin31 (g := (mkF m 80 #[.val (.int i0), .val (.int i1), .val (.int (0 : Int32)), .val (.int (0 : Int32)), .val (.int (1 : Int32)), .val (.ref a_NONE), .unset, .unset] [(.int (0 : Int32)), (.int (2 : Int32)), (.ref b26), (.ref b26)])) rfl rfl (hb hby at_80)
        have V32 : Arv Z h32 b26 k26 .boolean (4 : Int32) [(.int (0 : Int32)), (.int (1 : Int32)), (.int (0 : Int32)), (.int (0 : Int32))] (.int (0 : Int32)) := Arv.set Ar31 q31 S31 N31_ H31 G31 (fits_nar_bool _) W32 2 rfl (Nat.le_of_ble_eq_true rfl)
        have N32 := Fr.snoc X32 N30 gb26
        obtain ⟨cl33, Ar33, q33, S33, N33_, H33, G33⟩ := V32
        have hin33 : ¬ ((3 : Int32) < 0 ∨ cl33.slots.size ≤ ((3 : Int32)).toNatClampNeg) := inb_of S33 ⟨by decide, by decide⟩
        obtain ⟨T34, h34, X34, e34, W34, st34⟩ := stZ X32 hx hZ e32 Ar33 (j := (3 : Int32)) hin33 (g := (mkF m 84 #[.val (.int i0), .val (.int i1), .val (.int (0 : Int32)), .val (.int (0 : Int32)), .val (.int (1 : Int32)), .val (.ref a_NONE), .unset, .unset] [(.int (1 : Int32)), (.int (3 : Int32)), (.ref b26), (.ref b26)])) rfl rfl (hb hby at_84)
        have V34 : Arv Z h34 b26 k26 .boolean (4 : Int32) [(.int (0 : Int32)), (.int (1 : Int32)), (.int (0 : Int32)), (.int (1 : Int32))] (.int (0 : Int32)) := Arv.set Ar33 q33 S33 N33_ H33 G33 (fits_nar_bool _) W34 3 rfl (Nat.le_of_ble_eq_true rfl)
        have N34 := Fr.snoc X34 N32 gb26
        obtain ⟨cl35, Ar35, q35, S35, N35_, H35, G35⟩ := V34
        have hin35 : ¬ ((0 : Int32) < 0 ∨ cl35.slots.size ≤ ((0 : Int32)).toNatClampNeg) := inb_of S35 ⟨by decide, by decide⟩
        have hat35 : cl35.slots[((0 : Int32)).toNatClampNeg]? = some (.int (0 : Int32)) := H35.at hin35 rfl
        have O36 : Old Z n0 h34 := (((((O0.ext E26).wr W28 gb26).wr W30 gb26).wr W32 gb26).wr W34 gb26)
        have f38 := ((((((Exa.ext O0.2 X_a_NONE).ext E26).wr W28).wr W30).wr W32).wr W34)
        obtain ⟨cq37, kq37, q37a, q37b, q37c⟩ := isOf hZ e34 f38
        obtain ⟨_, _, ⟨T37, L37, k37, n37⟩, -, X37, ⟨Lc37, hQ37, l37, y37, z37⟩, st37⟩ := X34.virtualBack hx (y := (⟨"com/example/carbonfold/carbonfold/model/RosterItem$Subscription", "hasTo", "()Z"⟩ : MethodName)) (z := (⟨"com/example/carbonfold/carbonfold/model/RosterItem$Subscription", "hasTo", "()Z"⟩ : MethodName)) hown (mvT hZ (hw _ (List.mem_of_getElem? (i := 4) rfl))) (mvT hZ (hw _ (List.mem_of_getElem? (i := 5) rfl))) (notFace_of_selects (args := #[]) (mvT hZ (hw _ (List.mem_of_getElem? (i := 7) rfl)))) (mvT hZ (hw _ (List.mem_of_getElem? (i := 7) rfl))) (mvT hZ (hw _ (List.mem_of_getElem? (i := 6) rfl))) (by decide) (backOf (W := 0) (rm_hasTo_1 l Z a0 hw [] a_NONE a_TO a_BOTH a_FROM h34 n0 O36 En) hZ (hw _ (List.mem_of_getElem? (i := 8) rfl)) (hw _ (List.mem_of_getElem? (i := 1) rfl)) (by decide) (by decide)) q37a q37c (g := (mkF m 95 #[.val (.int i0), .val (.int i1), .val (.int (0 : Int32)), .val (.int (0 : Int32)), .val (.int (1 : Int32)), .val (.ref a_NONE), .val (.ref b26), .val (.int (0 : Int32))] [(.ref a_NONE)])) rfl (by rw [hml]; rfl) (Steps.refl _) (argsL := []) (rest := []) (lenOf pd_0 rfl) rfl (by show 2 * 0 + _ ≤ _; exact Nat.le_of_eq rfl) (hb hby at_95) (fun _ _ => ⟨rfl, e34, (by decide : 1 + 0 ≤ _), (by decide : 4 + 0 ≤ _)⟩)
        dsimp only [Pt.U, Pt.locs, Pt.cells, Pt.slots] at X37 l37 y37 z37 st37 hQ37
        subst l37 y37 z37
        obtain ⟨rfl, N37q, hh37⟩ := hQ37
        have N37 := Fr.app N34 N37q
        obtain ⟨cq39, kq39, q39a, q39b, q39c⟩ := isOf hZ hh37 f38
        obtain ⟨_, _, ⟨T39, L39, k39, n39⟩, -, X39, ⟨Lc39, hQ39, l39, y39, z39⟩, st39⟩ := X37.virtualBack hx (y := (⟨"com/example/carbonfold/carbonfold/model/RosterItem$Subscription", "withTo", "(Z)Lcom/example/carbonfold/carbonfold/model/RosterItem$Subscription;"⟩ : MethodName)) (z := (⟨"com/example/carbonfold/carbonfold/model/RosterItem$Subscription", "withTo", "(Z)Lcom/example/carbonfold/carbonfold/model/RosterItem$Subscription;"⟩ : MethodName)) hown (mvT hZ (hw _ (List.mem_of_getElem? (i := 13) rfl))) (mvT hZ (hw _ (List.mem_of_getElem? (i := 14) rfl))) (notFace_of_selects (args := #[]) (mvT hZ (hw _ (List.mem_of_getElem? (i := 16) rfl)))) (mvT hZ (hw _ (List.mem_of_getElem? (i := 16) rfl))) (mvT hZ (hw _ (List.mem_of_getElem? (i := 15) rfl))) (by decide) (backOf (W := 0) (rm_withTo_2 l Z a0 hw [] a_NONE a_TO a_BOTH a_FROM h34 n0 O36 En) hZ (hw _ (List.mem_of_getElem? (i := 17) rfl)) (hw _ (List.mem_of_getElem? (i := 1) rfl)) (by decide) (by decide)) q39a q39c (g := (mkF m 106 #[.val (.int i0), .val (.int i1), .val (.int (0 : Int32)), .val (.int (0 : Int32)), .val (.int (1 : Int32)), .val (.ref a_NONE), .val (.ref b26), .val (.int (0 : Int32))] [(.int (0 : Int32)), (.ref a_NONE)])) rfl (by rw [hml]; rfl) (Steps.refl _) (argsL := [(.int (0 : Int32))]) (rest := []) (lenOf pd_2 rfl) rfl (by show 2 * 0 + _ ≤ _; exact Nat.le_of_eq rfl) (hb hby at_106) (fun _ _ => ⟨rfl, hh37, (by decide : 1 + 0 ≤ _), (by decide : 4 + 0 ≤ _)⟩)
        dsimp only [Pt.U, Pt.locs, Pt.cells, Pt.slots] at X39 l39 y39 z39 st39 hQ39
        subst l39 y39 z39
        obtain ⟨rfl, N39q, hh39⟩ := hQ39
        have N39 := Fr.app N37 N39q
        obtain ⟨cq40, kq40, q40a, q40b, q40c⟩ := isOf hZ hh39 f38
        obtain ⟨_, _, ⟨T40, L40, k40, n40⟩, -, X40, ⟨Lc40, hQ40, l40, y40, z40⟩, st40⟩ := X39.virtualBack hx (y := (⟨"com/example/carbonfold/carbonfold/model/RosterItem$Subscription", "hasTo", "()Z"⟩ : MethodName)) (z := (⟨"com/example/carbonfold/carbonfold/model/RosterItem$Subscription", "hasTo", "()Z"⟩ : MethodName)) hown (mvT hZ (hw _ (List.mem_of_getElem? (i := 4) rfl))) (mvT hZ (hw _ (List.mem_of_getElem? (i := 5) rfl))) (notFace_of_selects (args := #[]) (mvT hZ (hw _ (List.mem_of_getElem? (i := 7) rfl)))) (mvT hZ (hw _ (List.mem_of_getElem? (i := 7) rfl))) (mvT hZ (hw _ (List.mem_of_getElem? (i := 6) rfl))) (by decide) (backOf (W := 0) (rm_hasTo_1 l Z a0 hw [] a_NONE a_TO a_BOTH a_FROM h34 n0 O36 En) hZ (hw _ (List.mem_of_getElem? (i := 8) rfl)) (hw _ (List.mem_of_getElem? (i := 1) rfl)) (by decide) (by decide)) q40a q40c (g := (mkF m 109 #[.val (.int i0), .val (.int i1), .val (.int (0 : Int32)), .val (.int (0 : Int32)), .val (.int (1 : Int32)), .val (.ref a_NONE), .val (.ref b26), .val (.int (0 : Int32))] [(.ref a_NONE)])) rfl (by rw [hml]; rfl) (Steps.refl _) (argsL := []) (rest := []) (lenOf pd_0 rfl) rfl (by show 2 * 0 + _ ≤ _; exact Nat.le_of_eq rfl) (hb hby at_109) (fun _ _ => ⟨rfl, hh39, (by decide : 1 + 0 ≤ _), (by decide : 4 + 0 ≤ _)⟩)
        dsimp only [Pt.U, Pt.locs, Pt.cells, Pt.slots] at X40 l40 y40 z40 st40 hQ40
        subst l40 y40 z40
        obtain ⟨rfl, N40q, hh40⟩ := hQ40
        have N40 := Fr.app N39 N40q
        obtain ⟨cq41, kq41, q41a, q41b, q41c⟩ := isOf hZ hh40 f38
        obtain ⟨_, _, ⟨T41, L41, k41, n41⟩, -, X41, ⟨Lc41, hQ41, l41, y41, z41⟩, st41⟩ := X40.virtualBack hx (y := (⟨"com/example/carbonfold/carbonfold/model/RosterItem$Subscription", "withFrom", "(Z)Lcom/example/carbonfold/carbonfold/model/RosterItem$Subscription;"⟩ : MethodName)) (z := (⟨"com/example/carbonfold/carbonfold/model/RosterItem$Subscription", "withFrom", "(Z)Lcom/example/carbonfold/carbonfold/model/RosterItem$Subscription;"⟩ : MethodName)) hown (mvT hZ (hw _ (List.mem_of_getElem? (i := 28) rfl))) (mvT hZ (hw _ (List.mem_of_getElem? (i := 29) rfl))) (notFace_of_selects (args := #[]) (mvT hZ (hw _ (List.mem_of_getElem? (i := 31) rfl)))) (mvT hZ (hw _ (List.mem_of_getElem? (i := 31) rfl))) (mvT hZ (hw _ (List.mem_of_getElem? (i := 30) rfl))) (by decide) (backOf (W := 0) (rm_withFrom_6 l Z a0 hw [] a_NONE a_TO a_BOTH a_FROM h34 n0 O36 En) hZ (hw _ (List.mem_of_getElem? (i := 32) rfl)) (hw _ (List.mem_of_getElem? (i := 1) rfl)) (by decide) (by decide)) q41a q41c (g := (mkF m 120 #[.val (.int i0), .val (.int i1), .val (.int (0 : Int32)), .val (.int (0 : Int32)), .val (.int (1 : Int32)), .val (.ref a_NONE), .val (.ref b26), .val (.int (0 : Int32))] [(.int (1 : Int32)), (.ref a_NONE)])) rfl (by rw [hml]; rfl) (Steps.refl _) (argsL := [(.int (1 : Int32))]) (rest := []) (lenOf pd_2 rfl) rfl (by show 2 * 0 + _ ≤ _; exact Nat.le_of_eq rfl) (hb hby at_120) (fun _ _ => ⟨rfl, hh40, (by decide : 1 + 0 ≤ _), (by decide : 4 + 0 ≤ _)⟩)
        dsimp only [Pt.U, Pt.locs, Pt.cells, Pt.slots] at X41 l41 y41 z41 st41 hQ41
        subst l41 y41 z41
        obtain ⟨rfl, N41q, hh41⟩ := hQ41
        have N41 := Fr.app N40 N41q
        have f43 := ((((((Exa.ext O0.2 X_a_FROM).ext E26).wr W28).wr W30).wr W32).wr W34)
        obtain ⟨cq42, kq42, q42a, q42b, q42c⟩ := isOf hZ hh41 f43
        obtain ⟨_, _, ⟨T42, L42, k42, n42⟩, -, X42, ⟨Lc42, hQ42, l42, y42, z42⟩, st42⟩ := X41.virtualBack hx (y := (⟨"com/example/carbonfold/carbonfold/model/RosterItem$Subscription", "hasTo", "()Z"⟩ : MethodName)) (z := (⟨"com/example/carbonfold/carbonfold/model/RosterItem$Subscription", "hasTo", "()Z"⟩ : MethodName)) hown (mvT hZ (hw _ (List.mem_of_getElem? (i := 4) rfl))) (mvT hZ (hw _ (List.mem_of_getElem? (i := 5) rfl))) (notFace_of_selects (args := #[]) (mvT hZ (hw _ (List.mem_of_getElem? (i := 7) rfl)))) (mvT hZ (hw _ (List.mem_of_getElem? (i := 7) rfl))) (mvT hZ (hw _ (List.mem_of_getElem? (i := 6) rfl))) (by decide) (backOf (W := 0) (rm_hasTo_8 l Z a0 hw [] a_NONE a_TO a_BOTH a_FROM h34 n0 O36 En) hZ (hw _ (List.mem_of_getElem? (i := 8) rfl)) (hw _ (List.mem_of_getElem? (i := 1) rfl)) (by decide) (by decide)) q42a q42c (g := (mkF m 123 #[.val (.int i0), .val (.int i1), .val (.int (0 : Int32)), .val (.int (0 : Int32)), .val (.int (1 : Int32)), .val (.ref a_NONE), .val (.ref b26), .val (.int (0 : Int32))] [(.ref a_FROM)])) rfl (by rw [hml]; rfl) (Steps.refl _) (argsL := []) (rest := []) (lenOf pd_0 rfl) rfl (by show 2 * 0 + _ ≤ _; exact Nat.le_of_eq rfl) (hb hby at_123) (fun _ _ => ⟨rfl, hh41, (by decide : 1 + 0 ≤ _), (by decide : 4 + 0 ≤ _)⟩)
        dsimp only [Pt.U, Pt.locs, Pt.cells, Pt.slots] at X42 l42 y42 z42 st42 hQ42
        subst l42 y42 z42
        obtain ⟨rfl, N42q, hh42⟩ := hQ42
        have N42 := Fr.app N41 N42q
        obtain ⟨fs, hr, hrun, hended, hW, hsame⟩ := X42.leave (v := some (.int (1 : Int32))) (fun h => by rw [Bd.returns] at h; cases h)
        refine ⟨_, _, pre5 _ ?_, hrun, hended, _, _, rfl, ?_, ⟨_, rfl⟩, hW, hsame.mono (by decide) (by decide)⟩
        · skip
          show Steps p.tables e below (s₁.setTop (mkF m 19 #[.val (.int i0), .val (.int i1), .val (.int (0 : Int32)), .val (.int (0 : Int32)), .unset, .unset, .unset, .unset] [(.int (i1 &&& (2 : Int32)))])) _
          rw [hk6]
          show Steps p.tables e below (s₁.setTop (mkF m 19 #[.val (.int i0), .val (.int i1), .val (.int (0 : Int32)), .val (.int (0 : Int32)), .unset, .unset, .unset, .unset] [(.int (2 : Int32))])) _
          refine XS.ifNo X0.here hx rfl (hb hby at_19) rfl (by decide) ?_
          show Steps p.tables e below (s₁.setTop (mkF m 22 #[.val (.int i0), .val (.int i1), .val (.int (0 : Int32)), .val (.int (0 : Int32)), .unset, .unset, .unset, .unset] [])) _
          refine XS.iconst X0.here hx rfl (hb hby at_22) ?_
          show Steps p.tables e below (s₁.setTop (mkF m 23 #[.val (.int i0), .val (.int i1), .val (.int (0 : Int32)), .val (.int (0 : Int32)), .unset, .unset, .unset, .unset] [(.int (1 : Int32))])) _
          refine XS.goto X0.here hx rfl (pc0 := 23) (pc' := 27) rfl (hb hby at_23) (by decide) (by decide) ?_
          show Steps p.tables e below (s₁.setTop (mkF m 27 #[.val (.int i0), .val (.int i1), .val (.int (0 : Int32)), .val (.int (0 : Int32)), .unset, .unset, .unset, .unset] [(.int (1 : Int32))])) _
          refine XS.istore X0.here hx rfl (hb hby at_27) rfl (l' := #[.val (.int i0), .val (.int i1), .val (.int (0 : Int32)), .val (.int (0 : Int32)), .val (.int (1 : Int32)), .unset, .unset, .unset]) rfl ?_
          show Steps p.tables e below (s₁.setTop (mkF m 29 #[.val (.int i0), .val (.int i1), .val (.int (0 : Int32)), .val (.int (0 : Int32)), .val (.int (1 : Int32)), .unset, .unset, .unset] [])) _
          refine XS.iloadN X0.here hx rfl (hb hby at_29) rfl ?_
          show Steps p.tables e below (s₁.setTop (mkF m 30 #[.val (.int i0), .val (.int i1), .val (.int (0 : Int32)), .val (.int (0 : Int32)), .val (.int (1 : Int32)), .unset, .unset, .unset] [(.int (0 : Int32))])) _
          refine XS.ifNo X0.here hx rfl (hb hby at_30) rfl (by decide) ?_
          show Steps p.tables e below (s₁.setTop (mkF m 33 #[.val (.int i0), .val (.int i1), .val (.int (0 : Int32)), .val (.int (0 : Int32)), .val (.int (1 : Int32)), .unset, .unset, .unset] [])) _
          refine st25 _ ?_
          show Steps p.tables e below (T25.setTop (mkF m 36 #[.val (.int i0), .val (.int i1), .val (.int (0 : Int32)), .val (.int (0 : Int32)), .val (.int (1 : Int32)), .unset, .unset, .unset] [(.ref a_NONE)])) _
          refine XS.goto X25.here hx rfl (pc0 := 36) (pc' := 64) rfl (hb hby at_36) (by decide) (by decide) ?_
          show Steps p.tables e below (T25.setTop (mkF m 64 #[.val (.int i0), .val (.int i1), .val (.int (0 : Int32)), .val (.int (0 : Int32)), .val (.int (1 : Int32)), .unset, .unset, .unset] [(.ref a_NONE)])) _
          refine XS.astore X25.here hx rfl (hb hby at_64) rfl rfl (l' := #[.val (.int i0), .val (.int i1), .val (.int (0 : Int32)), .val (.int (0 : Int32)), .val (.int (1 : Int32)), .val (.ref a_NONE), .unset, .unset]) rfl ?_
          show Steps p.tables e below (T25.setTop (mkF m 66 #[.val (.int i0), .val (.int i1), .val (.int (0 : Int32)), .val (.int (0 : Int32)), .val (.int (1 : Int32)), .val (.ref a_NONE), .unset, .unset] [])) _
          refine XS.iconst X25.here hx rfl (hb hby at_66) ?_
          show Steps p.tables e below (T25.setTop (mkF m 67 #[.val (.int i0), .val (.int i1), .val (.int (0 : Int32)), .val (.int (0 : Int32)), .val (.int (1 : Int32)), .val (.ref a_NONE), .unset, .unset] [(.int (4 : Int32))])) _
          refine st26 _ ?_
          show Steps p.tables e below (T26.setTop (mkF m 69 #[.val (.int i0), .val (.int i1), .val (.int (0 : Int32)), .val (.int (0 : Int32)), .val (.int (1 : Int32)), .val (.ref a_NONE), .unset, .unset] [(.ref b26)])) _
          refine XS.dup X26.here hx rfl (hb hby at_69) rfl rfl ?_
          show Steps p.tables e below (T26.setTop (mkF m 70 #[.val (.int i0), .val (.int i1), .val (.int (0 : Int32)), .val (.int (0 : Int32)), .val (.int (1 : Int32)), .val (.ref a_NONE), .unset, .unset] [(.ref b26), (.ref b26)])) _
          refine XS.iconst X26.here hx rfl (hb hby at_70) ?_
          show Steps p.tables e below (T26.setTop (mkF m 71 #[.val (.int i0), .val (.int i1), .val (.int (0 : Int32)), .val (.int (0 : Int32)), .val (.int (1 : Int32)), .val (.ref a_NONE), .unset, .unset] [(.int (0 : Int32)), (.ref b26), (.ref b26)])) _
          refine XS.iconst X26.here hx rfl (hb hby at_71) ?_
          show Steps p.tables e below (T26.setTop (mkF m 72 #[.val (.int i0), .val (.int i1), .val (.int (0 : Int32)), .val (.int (0 : Int32)), .val (.int (1 : Int32)), .val (.ref a_NONE), .unset, .unset] [(.int (0 : Int32)), (.int (0 : Int32)), (.ref b26), (.ref b26)])) _
          refine st28 _ ?_
          show Steps p.tables e below (T28.setTop (mkF m 73 #[.val (.int i0), .val (.int i1), .val (.int (0 : Int32)), .val (.int (0 : Int32)), .val (.int (1 : Int32)), .val (.ref a_NONE), .unset, .unset] [(.ref b26)])) _
          refine XS.dup X28.here hx rfl (hb hby at_73) rfl rfl ?_
          show Steps p.tables e below (T28.setTop (mkF m 74 #[.val (.int i0), .val (.int i1), .val (.int (0 : Int32)), .val (.int (0 : Int32)), .val (.int (1 : Int32)), .val (.ref a_NONE), .unset, .unset] [(.ref b26), (.ref b26)])) _
          refine XS.iconst X28.here hx rfl (hb hby at_74) ?_
          show Steps p.tables e below (T28.setTop (mkF m 75 #[.val (.int i0), .val (.int i1), .val (.int (0 : Int32)), .val (.int (0 : Int32)), .val (.int (1 : Int32)), .val (.ref a_NONE), .unset, .unset] [(.int (1 : Int32)), (.ref b26), (.ref b26)])) _
          refine XS.iconst X28.here hx rfl (hb hby at_75) ?_
          show Steps p.tables e below (T28.setTop (mkF m 76 #[.val (.int i0), .val (.int i1), .val (.int (0 : Int32)), .val (.int (0 : Int32)), .val (.int (1 : Int32)), .val (.ref a_NONE), .unset, .unset] [(.int (1 : Int32)), (.int (1 : Int32)), (.ref b26), (.ref b26)])) _
          refine st30 _ ?_
          show Steps p.tables e below (T30.setTop (mkF m 77 #[.val (.int i0), .val (.int i1), .val (.int (0 : Int32)), .val (.int (0 : Int32)), .val (.int (1 : Int32)), .val (.ref a_NONE), .unset, .unset] [(.ref b26)])) _
          refine XS.dup X30.here hx rfl (hb hby at_77) rfl rfl ?_
          show Steps p.tables e below (T30.setTop (mkF m 78 #[.val (.int i0), .val (.int i1), .val (.int (0 : Int32)), .val (.int (0 : Int32)), .val (.int (1 : Int32)), .val (.ref a_NONE), .unset, .unset] [(.ref b26), (.ref b26)])) _
          refine XS.iconst X30.here hx rfl (hb hby at_78) ?_
          show Steps p.tables e below (T30.setTop (mkF m 79 #[.val (.int i0), .val (.int i1), .val (.int (0 : Int32)), .val (.int (0 : Int32)), .val (.int (1 : Int32)), .val (.ref a_NONE), .unset, .unset] [(.int (2 : Int32)), (.ref b26), (.ref b26)])) _
          refine XS.iconst X30.here hx rfl (hb hby at_79) ?_
          show Steps p.tables e below (T30.setTop (mkF m 80 #[.val (.int i0), .val (.int i1), .val (.int (0 : Int32)), .val (.int (0 : Int32)), .val (.int (1 : Int32)), .val (.ref a_NONE), .unset, .unset] [(.int (0 : Int32)), (.int (2 : Int32)), (.ref b26), (.ref b26)])) _
          refine st32 _ ?_
          show Steps p.tables e below (T32.setTop (mkF m 81 #[.val (.int i0), .val (.int i1), .val (.int (0 : Int32)), .val (.int (0 : Int32)), .val (.int (1 : Int32)), .val (.ref a_NONE), .unset, .unset] [(.ref b26)])) _
          refine XS.dup X32.here hx rfl (hb hby at_81) rfl rfl ?_
          show Steps p.tables e below (T32.setTop (mkF m 82 #[.val (.int i0), .val (.int i1), .val (.int (0 : Int32)), .val (.int (0 : Int32)), .val (.int (1 : Int32)), .val (.ref a_NONE), .unset, .unset] [(.ref b26), (.ref b26)])) _
          refine XS.iconst X32.here hx rfl (hb hby at_82) ?_
          show Steps p.tables e below (T32.setTop (mkF m 83 #[.val (.int i0), .val (.int i1), .val (.int (0 : Int32)), .val (.int (0 : Int32)), .val (.int (1 : Int32)), .val (.ref a_NONE), .unset, .unset] [(.int (3 : Int32)), (.ref b26), (.ref b26)])) _
          refine XS.iconst X32.here hx rfl (hb hby at_83) ?_
          show Steps p.tables e below (T32.setTop (mkF m 84 #[.val (.int i0), .val (.int i1), .val (.int (0 : Int32)), .val (.int (0 : Int32)), .val (.int (1 : Int32)), .val (.ref a_NONE), .unset, .unset] [(.int (1 : Int32)), (.int (3 : Int32)), (.ref b26), (.ref b26)])) _
          refine st34 _ ?_
          show Steps p.tables e below (T34.setTop (mkF m 85 #[.val (.int i0), .val (.int i1), .val (.int (0 : Int32)), .val (.int (0 : Int32)), .val (.int (1 : Int32)), .val (.ref a_NONE), .unset, .unset] [(.ref b26)])) _
          refine XS.astore X34.here hx rfl (hb hby at_85) rfl rfl (l' := #[.val (.int i0), .val (.int i1), .val (.int (0 : Int32)), .val (.int (0 : Int32)), .val (.int (1 : Int32)), .val (.ref a_NONE), .val (.ref b26), .unset]) rfl ?_
          show Steps p.tables e below (T34.setTop (mkF m 87 #[.val (.int i0), .val (.int i1), .val (.int (0 : Int32)), .val (.int (0 : Int32)), .val (.int (1 : Int32)), .val (.ref a_NONE), .val (.ref b26), .unset] [])) _
          refine XS.aload X34.here hx rfl (hb hby at_87) rfl rfl ?_
          show Steps p.tables e below (T34.setTop (mkF m 89 #[.val (.int i0), .val (.int i1), .val (.int (0 : Int32)), .val (.int (0 : Int32)), .val (.int (1 : Int32)), .val (.ref a_NONE), .val (.ref b26), .unset] [(.ref b26)])) _
          refine XS.iloadN X34.here hx rfl (hb hby at_89) rfl ?_
          show Steps p.tables e below (T34.setTop (mkF m 90 #[.val (.int i0), .val (.int i1), .val (.int (0 : Int32)), .val (.int (0 : Int32)), .val (.int (1 : Int32)), .val (.ref a_NONE), .val (.ref b26), .unset] [(.int (0 : Int32)), (.ref b26)])) _
          refine X34.baloadBooleans hx (j := (0 : Int32)) (v := (.int (0 : Int32))) (by rw [e34]; exact Ar35.1) (State.isArrayOf_alike hZ.alike Ar35.2.1) Ar35.2.2 hin35 hat35 (g := (mkF m 90 #[.val (.int i0), .val (.int i1), .val (.int (0 : Int32)), .val (.int (0 : Int32)), .val (.int (1 : Int32)), .val (.ref a_NONE), .val (.ref b26), .unset] [(.int (0 : Int32)), (.ref b26)])) rfl rfl (hb hby at_90) _ ?_
          show Steps p.tables e below (T34.setTop (mkF m 91 #[.val (.int i0), .val (.int i1), .val (.int (0 : Int32)), .val (.int (0 : Int32)), .val (.int (1 : Int32)), .val (.ref a_NONE), .val (.ref b26), .unset] [(.int (0 : Int32))])) _
          refine XS.istore X34.here hx rfl (hb hby at_91) rfl (l' := #[.val (.int i0), .val (.int i1), .val (.int (0 : Int32)), .val (.int (0 : Int32)), .val (.int (1 : Int32)), .val (.ref a_NONE), .val (.ref b26), .val (.int (0 : Int32))]) rfl ?_
          show Steps p.tables e below (T34.setTop (mkF m 93 #[.val (.int i0), .val (.int i1), .val (.int (0 : Int32)), .val (.int (0 : Int32)), .val (.int (1 : Int32)), .val (.ref a_NONE), .val (.ref b26), .val (.int (0 : Int32))] [])) _
          refine XS.aload X34.here hx rfl (hb hby at_93) rfl rfl ?_
          show Steps p.tables e below (T34.setTop (mkF m 95 #[.val (.int i0), .val (.int i1), .val (.int (0 : Int32)), .val (.int (0 : Int32)), .val (.int (1 : Int32)), .val (.ref a_NONE), .val (.ref b26), .val (.int (0 : Int32))] [(.ref a_NONE)])) _
          refine st37.trans ?_
          show Steps p.tables e below (T37.setTop (mkF m 98 #[.val (.int i0), .val (.int i1), .val (.int (0 : Int32)), .val (.int (0 : Int32)), .val (.int (1 : Int32)), .val (.ref a_NONE), .val (.ref b26), .val (.int (0 : Int32))] [(.int (0 : Int32))])) _
          refine XS.iload X37.here hx rfl (hb hby at_98) rfl ?_
          show Steps p.tables e below (T37.setTop (mkF m 100 #[.val (.int i0), .val (.int i1), .val (.int (0 : Int32)), .val (.int (0 : Int32)), .val (.int (1 : Int32)), .val (.ref a_NONE), .val (.ref b26), .val (.int (0 : Int32))] [(.int (0 : Int32)), (.int (0 : Int32))])) _
          refine XS.icmpNo X37.here hx rfl (hb hby at_100) rfl (by decide) ?_
          show Steps p.tables e below (T37.setTop (mkF m 103 #[.val (.int i0), .val (.int i1), .val (.int (0 : Int32)), .val (.int (0 : Int32)), .val (.int (1 : Int32)), .val (.ref a_NONE), .val (.ref b26), .val (.int (0 : Int32))] [])) _
          refine XS.aload X37.here hx rfl (hb hby at_103) rfl rfl ?_
          show Steps p.tables e below (T37.setTop (mkF m 105 #[.val (.int i0), .val (.int i1), .val (.int (0 : Int32)), .val (.int (0 : Int32)), .val (.int (1 : Int32)), .val (.ref a_NONE), .val (.ref b26), .val (.int (0 : Int32))] [(.ref a_NONE)])) _
          refine XS.iloadN X37.here hx rfl (hb hby at_105) rfl ?_
          show Steps p.tables e below (T37.setTop (mkF m 106 #[.val (.int i0), .val (.int i1), .val (.int (0 : Int32)), .val (.int (0 : Int32)), .val (.int (1 : Int32)), .val (.ref a_NONE), .val (.ref b26), .val (.int (0 : Int32))] [(.int (0 : Int32)), (.ref a_NONE)])) _
          refine st39.trans ?_
          show Steps p.tables e below (T39.setTop (mkF m 109 #[.val (.int i0), .val (.int i1), .val (.int (0 : Int32)), .val (.int (0 : Int32)), .val (.int (1 : Int32)), .val (.ref a_NONE), .val (.ref b26), .val (.int (0 : Int32))] [(.ref a_NONE)])) _
          refine st40.trans ?_
          show Steps p.tables e below (T40.setTop (mkF m 112 #[.val (.int i0), .val (.int i1), .val (.int (0 : Int32)), .val (.int (0 : Int32)), .val (.int (1 : Int32)), .val (.ref a_NONE), .val (.ref b26), .val (.int (0 : Int32))] [(.int (0 : Int32))])) _
          refine XS.iloadN X40.here hx rfl (hb hby at_112) rfl ?_
          show Steps p.tables e below (T40.setTop (mkF m 113 #[.val (.int i0), .val (.int i1), .val (.int (0 : Int32)), .val (.int (0 : Int32)), .val (.int (1 : Int32)), .val (.ref a_NONE), .val (.ref b26), .val (.int (0 : Int32))] [(.int (0 : Int32)), (.int (0 : Int32))])) _
          refine XS.icmpNo X40.here hx rfl (hb hby at_113) rfl (by decide) ?_
          show Steps p.tables e below (T40.setTop (mkF m 116 #[.val (.int i0), .val (.int i1), .val (.int (0 : Int32)), .val (.int (0 : Int32)), .val (.int (1 : Int32)), .val (.ref a_NONE), .val (.ref b26), .val (.int (0 : Int32))] [])) _
          refine XS.aload X40.here hx rfl (hb hby at_116) rfl rfl ?_
          show Steps p.tables e below (T40.setTop (mkF m 118 #[.val (.int i0), .val (.int i1), .val (.int (0 : Int32)), .val (.int (0 : Int32)), .val (.int (1 : Int32)), .val (.ref a_NONE), .val (.ref b26), .val (.int (0 : Int32))] [(.ref a_NONE)])) _
          refine XS.iload X40.here hx rfl (hb hby at_118) rfl ?_
          show Steps p.tables e below (T40.setTop (mkF m 120 #[.val (.int i0), .val (.int i1), .val (.int (0 : Int32)), .val (.int (0 : Int32)), .val (.int (1 : Int32)), .val (.ref a_NONE), .val (.ref b26), .val (.int (0 : Int32))] [(.int (1 : Int32)), (.ref a_NONE)])) _
          refine st41.trans ?_
          show Steps p.tables e below (T41.setTop (mkF m 123 #[.val (.int i0), .val (.int i1), .val (.int (0 : Int32)), .val (.int (0 : Int32)), .val (.int (1 : Int32)), .val (.ref a_NONE), .val (.ref b26), .val (.int (0 : Int32))] [(.ref a_FROM)])) _
          refine st42.trans ?_
          show Steps p.tables e below (T42.setTop (mkF m 126 #[.val (.int i0), .val (.int i1), .val (.int (0 : Int32)), .val (.int (0 : Int32)), .val (.int (1 : Int32)), .val (.ref a_NONE), .val (.ref b26), .val (.int (0 : Int32))] [(.int (0 : Int32))])) _
          refine XS.iload X42.here hx rfl (hb hby at_126) rfl ?_
          show Steps p.tables e below (T42.setTop (mkF m 128 #[.val (.int i0), .val (.int i1), .val (.int (0 : Int32)), .val (.int (0 : Int32)), .val (.int (1 : Int32)), .val (.ref a_NONE), .val (.ref b26), .val (.int (0 : Int32))] [(.int (0 : Int32)), (.int (0 : Int32))])) _
          refine XS.icmpNo X42.here hx rfl (hb hby at_128) rfl (by decide) ?_
          show Steps p.tables e below (T42.setTop (mkF m 131 #[.val (.int i0), .val (.int i1), .val (.int (0 : Int32)), .val (.int (0 : Int32)), .val (.int (1 : Int32)), .val (.ref a_NONE), .val (.ref b26), .val (.int (0 : Int32))] [])) _
          refine XS.iconst X42.here hx rfl (hb hby at_131) ?_
          show Steps p.tables e below (T42.setTop (mkF m 132 #[.val (.int i0), .val (.int i1), .val (.int (0 : Int32)), .val (.int (0 : Int32)), .val (.int (1 : Int32)), .val (.ref a_NONE), .val (.ref b26), .val (.int (0 : Int32))] [(.int (1 : Int32))])) _
          refine XS.goto X42.here hx rfl (pc0 := 132) (pc' := 136) rfl (hb hby at_132) (by decide) (by decide) ?_
          show Steps p.tables e below (T42.setTop (mkF m 136 #[.val (.int i0), .val (.int i1), .val (.int (0 : Int32)), .val (.int (0 : Int32)), .val (.int (1 : Int32)), .val (.ref a_NONE), .val (.ref b26), .val (.int (0 : Int32))] [(.int (1 : Int32))])) _
          exact retN X42 hx (t := .boolean) Bd.returns (by simp) (hb hby at_136) hr
        · show QL n0 _ T42.heap _
          rw [hh42]
          exact ⟨rfl, N42⟩
    · skip
      have pre44 : ∀ t, Steps p.tables e below (s₁.setTop (mkF m 19 #[.val (.int i0), .val (.int i1), .val (.int (0 : Int32)), .val (.int (1 : Int32)), .unset, .unset, .unset, .unset] [(.int (i1 &&& (2 : Int32)))])) t → Steps p.tables e below (s₁.setTop (entryFrame m #[(.int i0), (.int i1)] maxLocals)) t := fun t kt => pre3 t (by
          show Steps p.tables e below (s₁.setTop (mkF m 7 #[.val (.int i0), .val (.int i1), .val (.int (0 : Int32)), .unset, .unset, .unset, .unset, .unset] [(.int (i1 &&& (1 : Int32)))])) _
          rw [hk4]
          show Steps p.tables e below (s₁.setTop (mkF m 7 #[.val (.int i0), .val (.int i1), .val (.int (0 : Int32)), .unset, .unset, .unset, .unset, .unset] [(.int (1 : Int32))])) _
          refine XS.ifNo X0.here hx rfl (hb hby at_7) rfl (by decide) ?_
          show Steps p.tables e below (s₁.setTop (mkF m 10 #[.val (.int i0), .val (.int i1), .val (.int (0 : Int32)), .unset, .unset, .unset, .unset, .unset] [])) _
          refine XS.iconst X0.here hx rfl (hb hby at_10) ?_
          show Steps p.tables e below (s₁.setTop (mkF m 11 #[.val (.int i0), .val (.int i1), .val (.int (0 : Int32)), .unset, .unset, .unset, .unset, .unset] [(.int (1 : Int32))])) _
          refine XS.goto X0.here hx rfl (pc0 := 11) (pc' := 15) rfl (hb hby at_11) (by decide) (by decide) ?_
          show Steps p.tables e below (s₁.setTop (mkF m 15 #[.val (.int i0), .val (.int i1), .val (.int (0 : Int32)), .unset, .unset, .unset, .unset, .unset] [(.int (1 : Int32))])) _
          refine XS.istoreN X0.here hx rfl (hb hby at_15) rfl (l' := #[.val (.int i0), .val (.int i1), .val (.int (0 : Int32)), .val (.int (1 : Int32)), .unset, .unset, .unset, .unset]) rfl ?_
          show Steps p.tables e below (s₁.setTop (mkF m 16 #[.val (.int i0), .val (.int i1), .val (.int (0 : Int32)), .val (.int (1 : Int32)), .unset, .unset, .unset, .unset] [])) _
          refine XS.iloadN X0.here hx rfl (hb hby at_16) rfl ?_
          show Steps p.tables e below (s₁.setTop (mkF m 17 #[.val (.int i0), .val (.int i1), .val (.int (0 : Int32)), .val (.int (1 : Int32)), .unset, .unset, .unset, .unset] [(.int i1)])) _
          refine XS.iconst X0.here hx rfl (hb hby at_17) ?_
          show Steps p.tables e below (s₁.setTop (mkF m 18 #[.val (.int i0), .val (.int i1), .val (.int (0 : Int32)), .val (.int (1 : Int32)), .unset, .unset, .unset, .unset] [(.int (2 : Int32)), (.int i1)])) _
          refine XS.iand X0.here hx rfl (hb hby at_18) rfl ?_
          exact kt)
      rcases own_c i1 with hk45 | hk45
      · skip
        obtain ⟨T46, X46, e46, st46⟩ := getS2 X0 hx hZ hown (host := "") (Or.inl (hw _ (List.mem_of_getElem? (i := 0) rfl))) Via.refl e0 (Sta.ext O0.2 S_a_NONE) (g := (mkF m 33 #[.val (.int i0), .val (.int i1), .val (.int (0 : Int32)), .val (.int (1 : Int32)), .val (.int (0 : Int32)), .unset, .unset, .unset] [])) rfl (hb hby at_33)
        obtain ⟨T47, h47, k47, X47, e47, E47, A47, st47⟩ := newP X46 hx hZ (hw _ (List.mem_of_getElem? (i := 3) rfl)) e46 (g := (mkF m 67 #[.val (.int i0), .val (.int i1), .val (.int (0 : Int32)), .val (.int (1 : Int32)), .val (.int (0 : Int32)), .val (.ref a_NONE), .unset, .unset] [(.int (4 : Int32))])) rfl (hb hby at_67) rfl (by decide) (cap := 4) (by decide) (by decide) (by decide) (by decide)
        obtain ⟨b47, g47⟩ : ∃ z, z = h0.size := ⟨_, rfl⟩
        rw [← g47] at A47 st47
        have gb47 : n0 ≤ b47 := by rw [g47, ← O0.1]; exact O0.2.1
        have ne47_a_BOTH : a_BOTH ≠ b47 := by rw [g47]; exact Nat.ne_of_lt ((Exa.ext O0.2 X_a_BOTH)).lt
        have ne47_a_FROM : a_FROM ≠ b47 := by rw [g47]; exact Nat.ne_of_lt ((Exa.ext O0.2 X_a_FROM)).lt
        have ne47_a_NONE : a_NONE ≠ b47 := by rw [g47]; exact Nat.ne_of_lt ((Exa.ext O0.2 X_a_NONE)).lt
        have ne47_a_TO : a_TO ≠ b47 := by rw [g47]; exact Nat.ne_of_lt ((Exa.ext O0.2 X_a_TO)).lt
        have V47 : Arv Z h47 b47 k47 .boolean (4 : Int32) [(.int (0 : Int32)), (.int (0 : Int32)), (.int (0 : Int32)), (.int (0 : Int32))] (.int (0 : Int32)) := (Arv.new A47 (by decide)).pad (pad_rep [] (.int (0 : Int32)) 4)
        obtain ⟨cl48, Ar48, q48, S48, N48_, H48, G48⟩ := V47
        have hin48 : ¬ ((0 : Int32) < 0 ∨ cl48.slots.size ≤ ((0 : Int32)).toNatClampNeg) := inb_of S48 ⟨by decide, by decide⟩
        obtain ⟨T49, h49, X49, e49, W49, st49⟩ := stZ X47 hx hZ e47 Ar48 (j := (0 : Int32)) hin48 (g := (mkF m 72 #[.val (.int i0), .val (.int i1), .val (.int (0 : Int32)), .val (.int (1 : Int32)), .val (.int (0 : Int32)), .val (.ref a_NONE), .unset, .unset] [(.int (0 : Int32)), (.int (0 : Int32)), (.ref b47), (.ref b47)])) rfl rfl (hb hby at_72)
        have V49 : Arv Z h49 b47 k47 .boolean (4 : Int32) [(.int (0 : Int32)), (.int (0 : Int32)), (.int (0 : Int32)), (.int (0 : Int32))] (.int (0 : Int32)) := Arv.set Ar48 q48 S48 N48_ H48 G48 (fits_nar_bool _) W49 0 rfl (Nat.le_of_ble_eq_true rfl)
        have N49 := Fr.snoc X49 N0 gb47
        obtain ⟨cl50, Ar50, q50, S50, N50_, H50, G50⟩ := V49
        have hin50 : ¬ ((1 : Int32) < 0 ∨ cl50.slots.size ≤ ((1 : Int32)).toNatClampNeg) := inb_of S50 ⟨by decide, by decide⟩
        obtain ⟨T51, h51, X51, e51, W51, st51⟩ := stZ X49 hx hZ e49 Ar50 (j := (1 : Int32)) hin50 (g := (mkF m 76 #[.val (.int i0), .val (.int i1), .val (.int (0 : Int32)), .val (.int (1 : Int32)), .val (.int (0 : Int32)), .val (.ref a_NONE), .unset, .unset] [(.int (1 : Int32)), (.int (1 : Int32)), (.ref b47), (.ref b47)])) rfl rfl (hb hby at_76)
        have V51 : Arv Z h51 b47 k47 .boolean (4 : Int32) [(.int (0 : Int32)), (.int (1 : Int32)), (.int (0 : Int32)), (.int (0 : Int32))] (.int (0 : Int32)) := Arv.set Ar50 q50 S50 N50_ H50 G50 (fits_nar_bool _) W51 1 rfl (Nat.le_of_ble_eq_true rfl)
        have N51 := Fr.snoc X51 N49 gb47
        obtain ⟨cl52, Ar52, q52, S52, N52_, H52, G52⟩ := V51
        have hin52 : ¬ ((2 : Int32) < 0 ∨ cl52.slots.size ≤ ((2 : Int32)).toNatClampNeg) := inb_of S52 ⟨by decide, by decide⟩
        obtain ⟨T53, h53, X53, e53, W53, st53⟩ := stZ X51 hx hZ e51 Ar52 (j := (2 : Int32)) hin52 (g := (mkF m 80 #[.val (.int i0), .val (.int i1), .val (.int (0 : Int32)), .val (.int (1 : Int32)), .val (.int (0 : Int32)), .val (.ref a_NONE), .unset, .unset] [(.int (0 : Int32)), (.int (2 : Int32)), (.ref b47), (.ref b47)])) rfl rfl (hb hby at_80)
        have V53 : Arv Z h53 b47 k47 .boolean (4 : Int32) [(.int (0 : Int32)), (.int (1 : Int32)), (.int (0 : Int32)), (.int (0 : Int32))] (.int (0 : Int32)) := Arv.set Ar52 q52 S52 N52_ H52 G52 (fits_nar_bool _) W53 2 rfl (Nat.le_of_ble_eq_true rfl)
        have N53 := Fr.snoc X53 N51 gb47
        obtain ⟨cl54, Ar54, q54, S54, N54_, H54, G54⟩ := V53
        have hin54 : ¬ ((3 : Int32) < 0 ∨ cl54.slots.size ≤ ((3 : Int32)).toNatClampNeg) := inb_of S54 ⟨by decide, by decide⟩
        obtain ⟨T55, h55, X55, e55, W55, st55⟩ := stZ X53 hx hZ e53 Ar54 (j := (3 : Int32)) hin54 (g := (mkF m 84 #[.val (.int i0), .val (.int i1), .val (.int (0 : Int32)), .val (.int (1 : Int32)), .val (.int (0 : Int32)), .val (.ref a_NONE), .unset, .unset] [(.int (1 : Int32)), (.int (3 : Int32)), (.ref b47), (.ref b47)])) rfl rfl (hb hby at_84)
        have V55 : Arv Z h55 b47 k47 .boolean (4 : Int32) [(.int (0 : Int32)), (.int (1 : Int32)), (.int (0 : Int32)), (.int (1 : Int32))] (.int (0 : Int32)) := Arv.set Ar54 q54 S54 N54_ H54 G54 (fits_nar_bool _) W55 3 rfl (Nat.le_of_ble_eq_true rfl)
        have N55 := Fr.snoc X55 N53 gb47
        obtain ⟨cl56, Ar56, q56, S56, N56_, H56, G56⟩ := V55
        have hin56 : ¬ ((0 : Int32) < 0 ∨ cl56.slots.size ≤ ((0 : Int32)).toNatClampNeg) := inb_of S56 ⟨by decide, by decide⟩
        have hat56 : cl56.slots[((0 : Int32)).toNatClampNeg]? = some (.int (0 : Int32)) := H56.at hin56 rfl
        have O57 : Old Z n0 h55 := (((((O0.ext E47).wr W49 gb47).wr W51 gb47).wr W53 gb47).wr W55 gb47)
        have f59 := ((((((Exa.ext O0.2 X_a_NONE).ext E47).wr W49).wr W51).wr W53).wr W55)
        obtain ⟨cq58, kq58, q58a, q58b, q58c⟩ := isOf hZ e55 f59
        obtain ⟨_, _, ⟨T58, L58, k58, n58⟩, -, X58, ⟨Lc58, hQ58, l58, y58, z58⟩, st58⟩ := X55.virtualBack hx (y := (⟨"com/example/carbonfold/carbonfold/model/RosterItem$Subscription", "hasTo", "()Z"⟩ : MethodName)) (z := (⟨"com/example/carbonfold/carbonfold/model/RosterItem$Subscription", "hasTo", "()Z"⟩ : MethodName)) hown (mvT hZ (hw _ (List.mem_of_getElem? (i := 4) rfl))) (mvT hZ (hw _ (List.mem_of_getElem? (i := 5) rfl))) (notFace_of_selects (args := #[]) (mvT hZ (hw _ (List.mem_of_getElem? (i := 7) rfl)))) (mvT hZ (hw _ (List.mem_of_getElem? (i := 7) rfl))) (mvT hZ (hw _ (List.mem_of_getElem? (i := 6) rfl))) (by decide) (backOf (W := 0) (rm_hasTo_1 l Z a0 hw [] a_NONE a_TO a_BOTH a_FROM h55 n0 O57 En) hZ (hw _ (List.mem_of_getElem? (i := 8) rfl)) (hw _ (List.mem_of_getElem? (i := 1) rfl)) (by decide) (by decide)) q58a q58c (g := (mkF m 95 #[.val (.int i0), .val (.int i1), .val (.int (0 : Int32)), .val (.int (1 : Int32)), .val (.int (0 : Int32)), .val (.ref a_NONE), .val (.ref b47), .val (.int (0 : Int32))] [(.ref a_NONE)])) rfl (by rw [hml]; rfl) (Steps.refl _) (argsL := []) (rest := []) (lenOf pd_0 rfl) rfl (by show 2 * 0 + _ ≤ _; exact Nat.le_of_eq rfl) (hb hby at_95) (fun _ _ => ⟨rfl, e55, (by decide : 1 + 0 ≤ _), (by decide : 4 + 0 ≤ _)⟩)
        dsimp only [Pt.U, Pt.locs, Pt.cells, Pt.slots] at X58 l58 y58 z58 st58 hQ58
        subst l58 y58 z58
        obtain ⟨rfl, N58q, hh58⟩ := hQ58
        have N58 := Fr.app N55 N58q
        obtain ⟨cq60, kq60, q60a, q60b, q60c⟩ := isOf hZ hh58 f59
        obtain ⟨_, _, ⟨T60, L60, k60, n60⟩, -, X60, ⟨Lc60, hQ60, l60, y60, z60⟩, st60⟩ := X58.virtualBack hx (y := (⟨"com/example/carbonfold/carbonfold/model/RosterItem$Subscription", "withTo", "(Z)Lcom/example/carbonfold/carbonfold/model/RosterItem$Subscription;"⟩ : MethodName)) (z := (⟨"com/example/carbonfold/carbonfold/model/RosterItem$Subscription", "withTo", "(Z)Lcom/example/carbonfold/carbonfold/model/RosterItem$Subscription;"⟩ : MethodName)) hown (mvT hZ (hw _ (List.mem_of_getElem? (i := 13) rfl))) (mvT hZ (hw _ (List.mem_of_getElem? (i := 14) rfl))) (notFace_of_selects (args := #[]) (mvT hZ (hw _ (List.mem_of_getElem? (i := 16) rfl)))) (mvT hZ (hw _ (List.mem_of_getElem? (i := 16) rfl))) (mvT hZ (hw _ (List.mem_of_getElem? (i := 15) rfl))) (by decide) (backOf (W := 0) (rm_withTo_9 l Z a0 hw [] a_NONE a_TO a_BOTH a_FROM h55 n0 O57 En) hZ (hw _ (List.mem_of_getElem? (i := 17) rfl)) (hw _ (List.mem_of_getElem? (i := 1) rfl)) (by decide) (by decide)) q60a q60c (g := (mkF m 106 #[.val (.int i0), .val (.int i1), .val (.int (0 : Int32)), .val (.int (1 : Int32)), .val (.int (0 : Int32)), .val (.ref a_NONE), .val (.ref b47), .val (.int (0 : Int32))] [(.int (1 : Int32)), (.ref a_NONE)])) rfl (by rw [hml]; rfl) (Steps.refl _) (argsL := [(.int (1 : Int32))]) (rest := []) (lenOf pd_2 rfl) rfl (by show 2 * 0 + _ ≤ _; exact Nat.le_of_eq rfl) (hb hby at_106) (fun _ _ => ⟨rfl, hh58, (by decide : 1 + 0 ≤ _), (by decide : 4 + 0 ≤ _)⟩)
        dsimp only [Pt.U, Pt.locs, Pt.cells, Pt.slots] at X60 l60 y60 z60 st60 hQ60
        subst l60 y60 z60
        obtain ⟨rfl, N60q, hh60⟩ := hQ60
        have N60 := Fr.app N58 N60q
        have f62 := ((((((Exa.ext O0.2 X_a_TO).ext E47).wr W49).wr W51).wr W53).wr W55)
        obtain ⟨cq61, kq61, q61a, q61b, q61c⟩ := isOf hZ hh60 f62
        obtain ⟨_, _, ⟨T61, L61, k61, n61⟩, -, X61, ⟨Lc61, hQ61, l61, y61, z61⟩, st61⟩ := X60.virtualBack hx (y := (⟨"com/example/carbonfold/carbonfold/model/RosterItem$Subscription", "hasTo", "()Z"⟩ : MethodName)) (z := (⟨"com/example/carbonfold/carbonfold/model/RosterItem$Subscription", "hasTo", "()Z"⟩ : MethodName)) hown (mvT hZ (hw _ (List.mem_of_getElem? (i := 4) rfl))) (mvT hZ (hw _ (List.mem_of_getElem? (i := 5) rfl))) (notFace_of_selects (args := #[]) (mvT hZ (hw _ (List.mem_of_getElem? (i := 7) rfl)))) (mvT hZ (hw _ (List.mem_of_getElem? (i := 7) rfl))) (mvT hZ (hw _ (List.mem_of_getElem? (i := 6) rfl))) (by decide) (backOf (W := 0) (rm_hasTo_11 l Z a0 hw [] a_NONE a_TO a_BOTH a_FROM h55 n0 O57 En) hZ (hw _ (List.mem_of_getElem? (i := 8) rfl)) (hw _ (List.mem_of_getElem? (i := 1) rfl)) (by decide) (by decide)) q61a q61c (g := (mkF m 109 #[.val (.int i0), .val (.int i1), .val (.int (0 : Int32)), .val (.int (1 : Int32)), .val (.int (0 : Int32)), .val (.ref a_NONE), .val (.ref b47), .val (.int (0 : Int32))] [(.ref a_TO)])) rfl (by rw [hml]; rfl) (Steps.refl _) (argsL := []) (rest := []) (lenOf pd_0 rfl) rfl (by show 2 * 0 + _ ≤ _; exact Nat.le_of_eq rfl) (hb hby at_109) (fun _ _ => ⟨rfl, hh60, (by decide : 1 + 0 ≤ _), (by decide : 4 + 0 ≤ _)⟩)
        dsimp only [Pt.U, Pt.locs, Pt.cells, Pt.slots] at X61 l61 y61 z61 st61 hQ61
        subst l61 y61 z61
        obtain ⟨rfl, N61q, hh61⟩ := hQ61
        have N61 := Fr.app N60 N61q
        obtain ⟨cq63, kq63, q63a, q63b, q63c⟩ := isOf hZ hh61 f59
        obtain ⟨_, _, ⟨T63, L63, k63, n63⟩, -, X63, ⟨Lc63, hQ63, l63, y63, z63⟩, st63⟩ := X61.virtualBack hx (y := (⟨"com/example/carbonfold/carbonfold/model/RosterItem$Subscription", "withFrom", "(Z)Lcom/example/carbonfold/carbonfold/model/RosterItem$Subscription;"⟩ : MethodName)) (z := (⟨"com/example/carbonfold/carbonfold/model/RosterItem$Subscription", "withFrom", "(Z)Lcom/example/carbonfold/carbonfold/model/RosterItem$Subscription;"⟩ : MethodName)) hown (mvT hZ (hw _ (List.mem_of_getElem? (i := 28) rfl))) (mvT hZ (hw _ (List.mem_of_getElem? (i := 29) rfl))) (notFace_of_selects (args := #[]) (mvT hZ (hw _ (List.mem_of_getElem? (i := 31) rfl)))) (mvT hZ (hw _ (List.mem_of_getElem? (i := 31) rfl))) (mvT hZ (hw _ (List.mem_of_getElem? (i := 30) rfl))) (by decide) (backOf (W := 0) (rm_withFrom_5 l Z a0 hw [] a_NONE a_TO a_BOTH a_FROM h55 n0 O57 En) hZ (hw _ (List.mem_of_getElem? (i := 32) rfl)) (hw _ (List.mem_of_getElem? (i := 1) rfl)) (by decide) (by decide)) q63a q63c (g := (mkF m 120 #[.val (.int i0), .val (.int i1), .val (.int (0 : Int32)), .val (.int (1 : Int32)), .val (.int (0 : Int32)), .val (.ref a_NONE), .val (.ref b47), .val (.int (0 : Int32))] [(.int (0 : Int32)), (.ref a_NONE)])) rfl (by rw [hml]; rfl) (Steps.refl _) (argsL := [(.int (0 : Int32))]) (rest := []) (lenOf pd_2 rfl) rfl (by show 2 * 0 + _ ≤ _; exact Nat.le_of_eq rfl) (hb hby at_120) (fun _ _ => ⟨rfl, hh61, (by decide : 1 + 0 ≤ _), (by decide : 4 + 0 ≤ _)⟩)
        dsimp only [Pt.U, Pt.locs, Pt.cells, Pt.slots] at X63 l63 y63 z63 st63 hQ63
        subst l63 y63 z63
        obtain ⟨rfl, N63q, hh63⟩ := hQ63
        have N63 := Fr.app N61 N63q
        obtain ⟨cq64, kq64, q64a, q64b, q64c⟩ := isOf hZ hh63 f59
        obtain ⟨_, _, ⟨T64, L64, k64, n64⟩, -, X64, ⟨Lc64, hQ64, l64, y64, z64⟩, st64⟩ := X63.virtualBack hx (y := (⟨"com/example/carbonfold/carbonfold/model/RosterItem$Subscription", "hasTo", "()Z"⟩ : MethodName)) (z := (⟨"com/example/carbonfold/carbonfold/model/RosterItem$Subscription", "hasTo", "()Z"⟩ : MethodName)) hown (mvT hZ (hw _ (List.mem_of_getElem? (i := 4) rfl))) (mvT hZ (hw _ (List.mem_of_getElem? (i := 5) rfl))) (notFace_of_selects (args := #[]) (mvT hZ (hw _ (List.mem_of_getElem? (i := 7) rfl)))) (mvT hZ (hw _ (List.mem_of_getElem? (i := 7) rfl))) (mvT hZ (hw _ (List.mem_of_getElem? (i := 6) rfl))) (by decide) (backOf (W := 0) (rm_hasTo_1 l Z a0 hw [] a_NONE a_TO a_BOTH a_FROM h55 n0 O57 En) hZ (hw _ (List.mem_of_getElem? (i := 8) rfl)) (hw _ (List.mem_of_getElem? (i := 1) rfl)) (by decide) (by decide)) q64a q64c (g := (mkF m 123 #[.val (.int i0), .val (.int i1), .val (.int (0 : Int32)), .val (.int (1 : Int32)), .val (.int (0 : Int32)), .val (.ref a_NONE), .val (.ref b47), .val (.int (0 : Int32))] [(.ref a_NONE)])) rfl (by rw [hml]; rfl) (Steps.refl _) (argsL := []) (rest := []) (lenOf pd_0 rfl) rfl (by show 2 * 0 + _ ≤ _; exact Nat.le_of_eq rfl) (hb hby at_123) (fun _ _ => ⟨rfl, hh63, (by decide : 1 + 0 ≤ _), (by decide : 4 + 0 ≤ _)⟩)
        dsimp only [Pt.U, Pt.locs, Pt.cells, Pt.slots] at X64 l64 y64 z64 st64 hQ64
        subst l64 y64 z64
        obtain ⟨rfl, N64q, hh64⟩ := hQ64
        have N64 := Fr.app N63 N64q
        obtain ⟨fs, hr, hrun, hended, hW, hsame⟩ := X64.leave (v := some (.int (1 : Int32))) (fun h => by rw [Bd.returns] at h; cases h)
        refine ⟨_, _, pre44 _ ?_, hrun, hended, _, _, rfl, ?_, ⟨_, rfl⟩, hW, hsame.mono (by decide) (by decide)⟩
        · skip
          show Steps p.tables e below (s₁.setTop (mkF m 19 #[.val (.int i0), .val (.int i1), .val (.int (0 : Int32)), .val (.int (1 : Int32)), .unset, .unset, .unset, .unset] [(.int (i1 &&& (2 : Int32)))])) _
          rw [hk45]
          show Steps p.tables e below (s₁.setTop (mkF m 19 #[.val (.int i0), .val (.int i1), .val (.int (0 : Int32)), .val (.int (1 : Int32)), .unset, .unset, .unset, .unset] [(.int (0 : Int32))])) _
          refine XS.ifYes X0.here hx rfl (pc0 := 19) (pc' := 26) rfl (hb hby at_19) rfl (by decide) (by decide) (by decide) ?_
          show Steps p.tables e below (s₁.setTop (mkF m 26 #[.val (.int i0), .val (.int i1), .val (.int (0 : Int32)), .val (.int (1 : Int32)), .unset, .unset, .unset, .unset] [])) _
          refine XS.iconst X0.here hx rfl (hb hby at_26) ?_
          show Steps p.tables e below (s₁.setTop (mkF m 27 #[.val (.int i0), .val (.int i1), .val (.int (0 : Int32)), .val (.int (1 : Int32)), .unset, .unset, .unset, .unset] [(.int (0 : Int32))])) _
          refine XS.istore X0.here hx rfl (hb hby at_27) rfl (l' := #[.val (.int i0), .val (.int i1), .val (.int (0 : Int32)), .val (.int (1 : Int32)), .val (.int (0 : Int32)), .unset, .unset, .unset]) rfl ?_
          show Steps p.tables e below (s₁.setTop (mkF m 29 #[.val (.int i0), .val (.int i1), .val (.int (0 : Int32)), .val (.int (1 : Int32)), .val (.int (0 : Int32)), .unset, .unset, .unset] [])) _
          refine XS.iloadN X0.here hx rfl (hb hby at_29) rfl ?_
          show Steps p.tables e below (s₁.setTop (mkF m 30 #[.val (.int i0), .val (.int i1), .val (.int (0 : Int32)), .val (.int (1 : Int32)), .val (.int (0 : Int32)), .unset, .unset, .unset] [(.int (0 : Int32))])) _
          refine XS.ifNo X0.here hx rfl (hb hby at_30) rfl (by decide) ?_
          show Steps p.tables e below (s₁.setTop (mkF m 33 #[.val (.int i0), .val (.int i1), .val (.int (0 : Int32)), .val (.int (1 : Int32)), .val (.int (0 : Int32)), .unset, .unset, .unset] [])) _
          refine st46 _ ?_
          show Steps p.tables e below (T46.setTop (mkF m 36 #[.val (.int i0), .val (.int i1), .val (.int (0 : Int32)), .val (.int (1 : Int32)), .val (.int (0 : Int32)), .unset, .unset, .unset] [(.ref a_NONE)])) _
          refine XS.goto X46.here hx rfl (pc0 := 36) (pc' := 64) rfl (hb hby at_36) (by decide) (by decide) ?_
          show Steps p.tables e below (T46.setTop (mkF m 64 #[.val (.int i0), .val (.int i1), .val (.int (0 : Int32)), .val (.int (1 : Int32)), .val (.int (0 : Int32)), .unset, .unset, .unset] [(.ref a_NONE)])) _
          refine XS.astore X46.here hx rfl (hb hby at_64) rfl rfl (l' := #[.val (.int i0), .val (.int i1), .val (.int (0 : Int32)), .val (.int (1 : Int32)), .val (.int (0 : Int32)), .val (.ref a_NONE), .unset, .unset]) rfl ?_
          show Steps p.tables e below (T46.setTop (mkF m 66 #[.val (.int i0), .val (.int i1), .val (.int (0 : Int32)), .val (.int (1 : Int32)), .val (.int (0 : Int32)), .val (.ref a_NONE), .unset, .unset] [])) _
          refine XS.iconst X46.here hx rfl (hb hby at_66) ?_
          show Steps p.tables e below (T46.setTop (mkF m 67 #[.val (.int i0), .val (.int i1), .val (.int (0 : Int32)), .val (.int (1 : Int32)), .val (.int (0 : Int32)), .val (.ref a_NONE), .unset, .unset] [(.int (4 : Int32))])) _
          refine st47 _ ?_
          show Steps p.tables e below (T47.setTop (mkF m 69 #[.val (.int i0), .val (.int i1), .val (.int (0 : Int32)), .val (.int (1 : Int32)), .val (.int (0 : Int32)), .val (.ref a_NONE), .unset, .unset] [(.ref b47)])) _
          refine XS.dup X47.here hx rfl (hb hby at_69) rfl rfl ?_
          show Steps p.tables e below (T47.setTop (mkF m 70 #[.val (.int i0), .val (.int i1), .val (.int (0 : Int32)), .val (.int (1 : Int32)), .val (.int (0 : Int32)), .val (.ref a_NONE), .unset, .unset] [(.ref b47), (.ref b47)])) _
          refine XS.iconst X47.here hx rfl (hb hby at_70) ?_
          show Steps p.tables e below (T47.setTop (mkF m 71 #[.val (.int i0), .val (.int i1), .val (.int (0 : Int32)), .val (.int (1 : Int32)), .val (.int (0 : Int32)), .val (.ref a_NONE), .unset, .unset] [(.int (0 : Int32)), (.ref b47), (.ref b47)])) _
          refine XS.iconst X47.here hx rfl (hb hby at_71) ?_
          show Steps p.tables e below (T47.setTop (mkF m 72 #[.val (.int i0), .val (.int i1), .val (.int (0 : Int32)), .val (.int (1 : Int32)), .val (.int (0 : Int32)), .val (.ref a_NONE), .unset, .unset] [(.int (0 : Int32)), (.int (0 : Int32)), (.ref b47), (.ref b47)])) _
          refine st49 _ ?_
          show Steps p.tables e below (T49.setTop (mkF m 73 #[.val (.int i0), .val (.int i1), .val (.int (0 : Int32)), .val (.int (1 : Int32)), .val (.int (0 : Int32)), .val (.ref a_NONE), .unset, .unset] [(.ref b47)])) _
          refine XS.dup X49.here hx rfl (hb hby at_73) rfl rfl ?_
          show Steps p.tables e below (T49.setTop (mkF m 74 #[.val (.int i0), .val (.int i1), .val (.int (0 : Int32)), .val (.int (1 : Int32)), .val (.int (0 : Int32)), .val (.ref a_NONE), .unset, .unset] [(.ref b47), (.ref b47)])) _
          refine XS.iconst X49.here hx rfl (hb hby at_74) ?_
          show Steps p.tables e below (T49.setTop (mkF m 75 #[.val (.int i0), .val (.int i1), .val (.int (0 : Int32)), .val (.int (1 : Int32)), .val (.int (0 : Int32)), .val (.ref a_NONE), .unset, .unset] [(.int (1 : Int32)), (.ref b47), (.ref b47)])) _
          refine XS.iconst X49.here hx rfl (hb hby at_75) ?_
          show Steps p.tables e below (T49.setTop (mkF m 76 #[.val (.int i0), .val (.int i1), .val (.int (0 : Int32)), .val (.int (1 : Int32)), .val (.int (0 : Int32)), .val (.ref a_NONE), .unset, .unset] [(.int (1 : Int32)), (.int (1 : Int32)), (.ref b47), (.ref b47)])) _
          refine st51 _ ?_
          show Steps p.tables e below (T51.setTop (mkF m 77 #[.val (.int i0), .val (.int i1), .val (.int (0 : Int32)), .val (.int (1 : Int32)), .val (.int (0 : Int32)), .val (.ref a_NONE), .unset, .unset] [(.ref b47)])) _
          refine XS.dup X51.here hx rfl (hb hby at_77) rfl rfl ?_
          show Steps p.tables e below (T51.setTop (mkF m 78 #[.val (.int i0), .val (.int i1), .val (.int (0 : Int32)), .val (.int (1 : Int32)), .val (.int (0 : Int32)), .val (.ref a_NONE), .unset, .unset] [(.ref b47), (.ref b47)])) _
          refine XS.iconst X51.here hx rfl (hb hby at_78) ?_
          show Steps p.tables e below (T51.setTop (mkF m 79 #[.val (.int i0), .val (.int i1), .val (.int (0 : Int32)), .val (.int (1 : Int32)), .val (.int (0 : Int32)), .val (.ref a_NONE), .unset, .unset] [(.int (2 : Int32)), (.ref b47), (.ref b47)])) _
          refine XS.iconst X51.here hx rfl (hb hby at_79) ?_
          show Steps p.tables e below (T51.setTop (mkF m 80 #[.val (.int i0), .val (.int i1), .val (.int (0 : Int32)), .val (.int (1 : Int32)), .val (.int (0 : Int32)), .val (.ref a_NONE), .unset, .unset] [(.int (0 : Int32)), (.int (2 : Int32)), (.ref b47), (.ref b47)])) _
          refine st53 _ ?_
          show Steps p.tables e below (T53.setTop (mkF m 81 #[.val (.int i0), .val (.int i1), .val (.int (0 : Int32)), .val (.int (1 : Int32)), .val (.int (0 : Int32)), .val (.ref a_NONE), .unset, .unset] [(.ref b47)])) _
          refine XS.dup X53.here hx rfl (hb hby at_81) rfl rfl ?_
          show Steps p.tables e below (T53.setTop (mkF m 82 #[.val (.int i0), .val (.int i1), .val (.int (0 : Int32)), .val (.int (1 : Int32)), .val (.int (0 : Int32)), .val (.ref a_NONE), .unset, .unset] [(.ref b47), (.ref b47)])) _
          refine XS.iconst X53.here hx rfl (hb hby at_82) ?_
          show Steps p.tables e below (T53.setTop (mkF m 83 #[.val (.int i0), .val (.int i1), .val (.int (0 : Int32)), .val (.int (1 : Int32)), .val (.int (0 : Int32)), .val (.ref a_NONE), .unset, .unset] [(.int (3 : Int32)), (.ref b47), (.ref b47)])) _
          refine XS.iconst X53.here hx rfl (hb hby at_83) ?_
          show Steps p.tables e below (T53.setTop (mkF m 84 #[.val (.int i0), .val (.int i1), .val (.int (0 : Int32)), .val (.int (1 : Int32)), .val (.int (0 : Int32)), .val (.ref a_NONE), .unset, .unset] [(.int (1 : Int32)), (.int (3 : Int32)), (.ref b47), (.ref b47)])) _
          refine st55 _ ?_
          show Steps p.tables e below (T55.setTop (mkF m 85 #[.val (.int i0), .val (.int i1), .val (.int (0 : Int32)), .val (.int (1 : Int32)), .val (.int (0 : Int32)), .val (.ref a_NONE), .unset, .unset] [(.ref b47)])) _
          refine XS.astore X55.here hx rfl (hb hby at_85) rfl rfl (l' := #[.val (.int i0), .val (.int i1), .val (.int (0 : Int32)), .val (.int (1 : Int32)), .val (.int (0 : Int32)), .val (.ref a_NONE), .val (.ref b47), .unset]) rfl ?_
          show Steps p.tables e below (T55.setTop (mkF m 87 #[.val (.int i0), .val (.int i1), .val (.int (0 : Int32)), .val (.int (1 : Int32)), .val (.int (0 : Int32)), .val (.ref a_NONE), .val (.ref b47), .unset] [])) _
          refine XS.aload X55.here hx rfl (hb hby at_87) rfl rfl ?_
          show Steps p.tables e below (T55.setTop (mkF m 89 #[.val (.int i0), .val (.int i1), .val (.int (0 : Int32)), .val (.int (1 : Int32)), .val (.int (0 : Int32)), .val (.ref a_NONE), .val (.ref b47), .unset] [(.ref b47)])) _
          refine XS.iloadN X55.here hx rfl (hb hby at_89) rfl ?_
          show Steps p.tables e below (T55.setTop (mkF m 90 #[.val (.int i0), .val (.int i1), .val (.int (0 : Int32)), .val (.int (1 : Int32)), .val (.int (0 : Int32)), .val (.ref a_NONE), .val (.ref b47), .unset] [(.int (0 : Int32)), (.ref b47)])) _
          refine X55.baloadBooleans hx (j := (0 : Int32)) (v := (.int (0 : Int32))) (by rw [e55]; exact Ar56.1) (State.isArrayOf_alike hZ.alike Ar56.2.1) Ar56.2.2 hin56 hat56 (g := (mkF m 90 #[.val (.int i0), .val (.int i1), .val (.int (0 : Int32)), .val (.int (1 : Int32)), .val (.int (0 : Int32)), .val (.ref a_NONE), .val (.ref b47), .unset] [(.int (0 : Int32)), (.ref b47)])) rfl rfl (hb hby at_90) _ ?_
          show Steps p.tables e below (T55.setTop (mkF m 91 #[.val (.int i0), .val (.int i1), .val (.int (0 : Int32)), .val (.int (1 : Int32)), .val (.int (0 : Int32)), .val (.ref a_NONE), .val (.ref b47), .unset] [(.int (0 : Int32))])) _
          refine XS.istore X55.here hx rfl (hb hby at_91) rfl (l' := #[.val (.int i0), .val (.int i1), .val (.int (0 : Int32)), .val (.int (1 : Int32)), .val (.int (0 : Int32)), .val (.ref a_NONE), .val (.ref b47), .val (.int (0 : Int32))]) rfl ?_
          show Steps p.tables e below (T55.setTop (mkF m 93 #[.val (.int i0), .val (.int i1), .val (.int (0 : Int32)), .val (.int (1 : Int32)), .val (.int (0 : Int32)), .val (.ref a_NONE), .val (.ref b47), .val (.int (0 : Int32))] [])) _
          refine XS.aload X55.here hx rfl (hb hby at_93) rfl rfl ?_
          show Steps p.tables e below (T55.setTop (mkF m 95 #[.val (.int i0), .val (.int i1), .val (.int (0 : Int32)), .val (.int (1 : Int32)), .val (.int (0 : Int32)), .val (.ref a_NONE), .val (.ref b47), .val (.int (0 : Int32))] [(.ref a_NONE)])) _
          refine st58.trans ?_
          show Steps p.tables e below (T58.setTop (mkF m 98 #[.val (.int i0), .val (.int i1), .val (.int (0 : Int32)), .val (.int (1 : Int32)), .val (.int (0 : Int32)), .val (.ref a_NONE), .val (.ref b47), .val (.int (0 : Int32))] [(.int (0 : Int32))])) _
          refine XS.iload X58.here hx rfl (hb hby at_98) rfl ?_
          show Steps p.tables e below (T58.setTop (mkF m 100 #[.val (.int i0), .val (.int i1), .val (.int (0 : Int32)), .val (.int (1 : Int32)), .val (.int (0 : Int32)), .val (.ref a_NONE), .val (.ref b47), .val (.int (0 : Int32))] [(.int (0 : Int32)), (.int (0 : Int32))])) _
          refine XS.icmpNo X58.here hx rfl (hb hby at_100) rfl (by decide) ?_
          show Steps p.tables e below (T58.setTop (mkF m 103 #[.val (.int i0), .val (.int i1), .val (.int (0 : Int32)), .val (.int (1 : Int32)), .val (.int (0 : Int32)), .val (.ref a_NONE), .val (.ref b47), .val (.int (0 : Int32))] [])) _
          refine XS.aload X58.here hx rfl (hb hby at_103) rfl rfl ?_
          show Steps p.tables e below (T58.setTop (mkF m 105 #[.val (.int i0), .val (.int i1), .val (.int (0 : Int32)), .val (.int (1 : Int32)), .val (.int (0 : Int32)), .val (.ref a_NONE), .val (.ref b47), .val (.int (0 : Int32))] [(.ref a_NONE)])) _
          refine XS.iloadN X58.here hx rfl (hb hby at_105) rfl ?_
          show Steps p.tables e below (T58.setTop (mkF m 106 #[.val (.int i0), .val (.int i1), .val (.int (0 : Int32)), .val (.int (1 : Int32)), .val (.int (0 : Int32)), .val (.ref a_NONE), .val (.ref b47), .val (.int (0 : Int32))] [(.int (1 : Int32)), (.ref a_NONE)])) _
          refine st60.trans ?_
          show Steps p.tables e below (T60.setTop (mkF m 109 #[.val (.int i0), .val (.int i1), .val (.int (0 : Int32)), .val (.int (1 : Int32)), .val (.int (0 : Int32)), .val (.ref a_NONE), .val (.ref b47), .val (.int (0 : Int32))] [(.ref a_TO)])) _
          refine st61.trans ?_
          show Steps p.tables e below (T61.setTop (mkF m 112 #[.val (.int i0), .val (.int i1), .val (.int (0 : Int32)), .val (.int (1 : Int32)), .val (.int (0 : Int32)), .val (.ref a_NONE), .val (.ref b47), .val (.int (0 : Int32))] [(.int (1 : Int32))])) _
          refine XS.iloadN X61.here hx rfl (hb hby at_112) rfl ?_
          show Steps p.tables e below (T61.setTop (mkF m 113 #[.val (.int i0), .val (.int i1), .val (.int (0 : Int32)), .val (.int (1 : Int32)), .val (.int (0 : Int32)), .val (.ref a_NONE), .val (.ref b47), .val (.int (0 : Int32))] [(.int (1 : Int32)), (.int (1 : Int32))])) _
          refine XS.icmpNo X61.here hx rfl (hb hby at_113) rfl (by decide) ?_
          show Steps p.tables e below (T61.setTop (mkF m 116 #[.val (.int i0), .val (.int i1), .val (.int (0 : Int32)), .val (.int (1 : Int32)), .val (.int (0 : Int32)), .val (.ref a_NONE), .val (.ref b47), .val (.int (0 : Int32))] [])) _
          refine XS.aload X61.here hx rfl (hb hby at_116) rfl rfl ?_
          show Steps p.tables e below (T61.setTop (mkF m 118 #[.val (.int i0), .val (.int i1), .val (.int (0 : Int32)), .val (.int (1 : Int32)), .val (.int (0 : Int32)), .val (.ref a_NONE), .val (.ref b47), .val (.int (0 : Int32))] [(.ref a_NONE)])) _
          refine XS.iload X61.here hx rfl (hb hby at_118) rfl ?_
          show Steps p.tables e below (T61.setTop (mkF m 120 #[.val (.int i0), .val (.int i1), .val (.int (0 : Int32)), .val (.int (1 : Int32)), .val (.int (0 : Int32)), .val (.ref a_NONE), .val (.ref b47), .val (.int (0 : Int32))] [(.int (0 : Int32)), (.ref a_NONE)])) _
          refine st63.trans ?_
          show Steps p.tables e below (T63.setTop (mkF m 123 #[.val (.int i0), .val (.int i1), .val (.int (0 : Int32)), .val (.int (1 : Int32)), .val (.int (0 : Int32)), .val (.ref a_NONE), .val (.ref b47), .val (.int (0 : Int32))] [(.ref a_NONE)])) _
          refine st64.trans ?_
          show Steps p.tables e below (T64.setTop (mkF m 126 #[.val (.int i0), .val (.int i1), .val (.int (0 : Int32)), .val (.int (1 : Int32)), .val (.int (0 : Int32)), .val (.ref a_NONE), .val (.ref b47), .val (.int (0 : Int32))] [(.int (0 : Int32))])) _
          refine XS.iload X64.here hx rfl (hb hby at_126) rfl ?_
          show Steps p.tables e below (T64.setTop (mkF m 128 #[.val (.int i0), .val (.int i1), .val (.int (0 : Int32)), .val (.int (1 : Int32)), .val (.int (0 : Int32)), .val (.ref a_NONE), .val (.ref b47), .val (.int (0 : Int32))] [(.int (0 : Int32)), (.int (0 : Int32))])) _
          refine XS.icmpNo X64.here hx rfl (hb hby at_128) rfl (by decide) ?_
          show Steps p.tables e below (T64.setTop (mkF m 131 #[.val (.int i0), .val (.int i1), .val (.int (0 : Int32)), .val (.int (1 : Int32)), .val (.int (0 : Int32)), .val (.ref a_NONE), .val (.ref b47), .val (.int (0 : Int32))] [])) _
          refine XS.iconst X64.here hx rfl (hb hby at_131) ?_
          show Steps p.tables e below (T64.setTop (mkF m 132 #[.val (.int i0), .val (.int i1), .val (.int (0 : Int32)), .val (.int (1 : Int32)), .val (.int (0 : Int32)), .val (.ref a_NONE), .val (.ref b47), .val (.int (0 : Int32))] [(.int (1 : Int32))])) _
          refine XS.goto X64.here hx rfl (pc0 := 132) (pc' := 136) rfl (hb hby at_132) (by decide) (by decide) ?_
          show Steps p.tables e below (T64.setTop (mkF m 136 #[.val (.int i0), .val (.int i1), .val (.int (0 : Int32)), .val (.int (1 : Int32)), .val (.int (0 : Int32)), .val (.ref a_NONE), .val (.ref b47), .val (.int (0 : Int32))] [(.int (1 : Int32))])) _
          exact retN X64 hx (t := .boolean) Bd.returns (by simp) (hb hby at_136) hr
        · show QL n0 _ T64.heap _
          rw [hh64]
          exact ⟨rfl, N64⟩
      · skip
        obtain ⟨T65, X65, e65, st65⟩ := getS2 X0 hx hZ hown (host := "") (Or.inl (hw _ (List.mem_of_getElem? (i := 0) rfl))) Via.refl e0 (Sta.ext O0.2 S_a_NONE) (g := (mkF m 33 #[.val (.int i0), .val (.int i1), .val (.int (0 : Int32)), .val (.int (1 : Int32)), .val (.int (1 : Int32)), .unset, .unset, .unset] [])) rfl (hb hby at_33)
        obtain ⟨T66, h66, k66, X66, e66, E66, A66, st66⟩ := newP X65 hx hZ (hw _ (List.mem_of_getElem? (i := 3) rfl)) e65 (g := (mkF m 67 #[.val (.int i0), .val (.int i1), .val (.int (0 : Int32)), .val (.int (1 : Int32)), .val (.int (1 : Int32)), .val (.ref a_NONE), .unset, .unset] [(.int (4 : Int32))])) rfl (hb hby at_67) rfl (by decide) (cap := 4) (by decide) (by decide) (by decide) (by decide)
        obtain ⟨b66, g66⟩ : ∃ z, z = h0.size := ⟨_, rfl⟩
        rw [← g66] at A66 st66
        have gb66 : n0 ≤ b66 := by rw [g66, ← O0.1]; exact O0.2.1
        have ne66_a_BOTH : a_BOTH ≠ b66 := by rw [g66]; exact Nat.ne_of_lt ((Exa.ext O0.2 X_a_BOTH)).lt
        have ne66_a_FROM : a_FROM ≠ b66 := by rw [g66]; exact Nat.ne_of_lt ((Exa.ext O0.2 X_a_FROM)).lt
        have ne66_a_NONE : a_NONE ≠ b66 := by rw [g66]; exact Nat.ne_of_lt ((Exa.ext O0.2 X_a_NONE)).lt
        have ne66_a_TO : a_TO ≠ b66 := by rw [g66]; exact Nat.ne_of_lt ((Exa.ext O0.2 X_a_TO)).lt
        have V66 : Arv Z h66 b66 k66 .boolean (4 : Int32) [(.int (0 : Int32)), (.int (0 : Int32)), (.int (0 : Int32)), (.int (0 : Int32))] (.int (0 : Int32)) := (Arv.new A66 (by decide)).pad (pad_rep [] (.int (0 : Int32)) 4)
        obtain ⟨cl67, Ar67, q67, S67, N67_, H67, G67⟩ := V66
        have hin67 : ¬ ((0 : Int32) < 0 ∨ cl67.slots.size ≤ ((0 : Int32)).toNatClampNeg) := inb_of S67 ⟨by decide, by decide⟩
        obtain ⟨T68, h68, X68, e68, W68, st68⟩ := stZ X66 hx hZ e66 Ar67 (j := (0 : Int32)) hin67 (g := (mkF m 72 #[.val (.int i0), .val (.int i1), .val (.int (0 : Int32)), .val (.int (1 : Int32)), .val (.int (1 : Int32)), .val (.ref a_NONE), .unset, .unset] [(.int (0 : Int32)), (.int (0 : Int32)), (.ref b66), (.ref b66)])) rfl rfl (hb hby at_72)
        have V68 : Arv Z h68 b66 k66 .boolean (4 : Int32) [(.int (0 : Int32)), (.int (0 : Int32)), (.int (0 : Int32)), (.int (0 : Int32))] (.int (0 : Int32)) := Arv.set Ar67 q67 S67 N67_ H67 G67 (fits_nar_bool _) W68 0 rfl (Nat.le_of_ble_eq_true rfl)
        have N68 := Fr.snoc X68 N0 gb66
        obtain ⟨cl69, Ar69, q69, S69, N69_, H69, G69⟩ := V68
        have hin69 : ¬ ((1 : Int32) < 0 ∨ cl69.slots.size ≤ ((1 : Int32)).toNatClampNeg) := inb_of S69 ⟨by decide, by decide⟩
        obtain ⟨T70, h70, X70, e70, W70, st70⟩ := stZ X68 hx hZ e68 Ar69 (j := (1 : Int32)) hin69 (g := (mkF m 76 #[.val (.int i0), .val (.int i1), .val (.int (0 : Int32)), .val (.int (1 : Int32)), .val (.int (1 : Int32)), .val (.ref a_NONE), .unset, .unset] [(.int (1 : Int32)), (.int (1 : Int32)), (.ref b66), (.ref b66)])) rfl rfl (hb hby at_76)
        have V70 : Arv Z h70 b66 k66 .boolean (4 : Int32) [(.int (0 : Int32)), (.int (1 : Int32)), (.int (0 : Int32)), (.int (0 : Int32))] (.int (0 : Int32)) := Arv.set Ar69 q69 S69 N69_ H69 G69 (fits_nar_bool _) W70 1 rfl (Nat.le_of_ble_eq_true rfl)
        have N70 := Fr.snoc X70 N68 gb66
        obtain ⟨cl71, Ar71, q71, S71, N71_, H71, G71⟩ := V70
        have hin71 : ¬ ((2 : Int32) < 0 ∨ cl71.slots.size ≤ ((2 : Int32)).toNatClampNeg) := inb_of S71 ⟨by decide, by decide⟩
        obtain ⟨T72, h72, X72, e72, W72, st72⟩ := stZ X70 hx hZ e70 Ar71 (j := (2 : Int32)) hin71 (g := (mkF m 80 #[.val (.int i0), .val (.int i1), .val (.int (0 : Int32)), .val (.int (1 : Int32)), .val (.int (1 : Int32)), .val (.ref a_NONE), .unset, .unset] [(.int (0 : Int32)), (.int (2 : Int32)), (.ref b66), (.ref b66)])) rfl rfl (hb hby at_80)
        have V72 : Arv Z h72 b66 k66 .boolean (4 : Int32) [(.int (0 : Int32)), (.int (1 : Int32)), (.int (0 : Int32)), (.int (0 : Int32))] (.int (0 : Int32)) := Arv.set Ar71 q71 S71 N71_ H71 G71 (fits_nar_bool _) W72 2 rfl (Nat.le_of_ble_eq_true rfl)
        have N72 := Fr.snoc X72 N70 gb66
        obtain ⟨cl73, Ar73, q73, S73, N73_, H73, G73⟩ := V72
        have hin73 : ¬ ((3 : Int32) < 0 ∨ cl73.slots.size ≤ ((3 : Int32)).toNatClampNeg) := inb_of S73 ⟨by decide, by decide⟩
        obtain ⟨T74, h74, X74, e74, W74, st74⟩ := stZ X72 hx hZ e72 Ar73 (j := (3 : Int32)) hin73 (g := (mkF m 84 #[.val (.int i0), .val (.int i1), .val (.int (0 : Int32)), .val (.int (1 : Int32)), .val (.int (1 : Int32)), .val (.ref a_NONE), .unset, .unset] [(.int (1 : Int32)), (.int (3 : Int32)), (.ref b66), (.ref b66)])) rfl rfl (hb hby at_84)
        have V74 : Arv Z h74 b66 k66 .boolean (4 : Int32) [(.int (0 : Int32)), (.int (1 : Int32)), (.int (0 : Int32)), (.int (1 : Int32))] (.int (0 : Int32)) := Arv.set Ar73 q73 S73 N73_ H73 G73 (fits_nar_bool _) W74 3 rfl (Nat.le_of_ble_eq_true rfl)
        have N74 := Fr.snoc X74 N72 gb66
        obtain ⟨cl75, Ar75, q75, S75, N75_, H75, G75⟩ := V74
        have hin75 : ¬ ((0 : Int32) < 0 ∨ cl75.slots.size ≤ ((0 : Int32)).toNatClampNeg) := inb_of S75 ⟨by decide, by decide⟩
        have hat75 : cl75.slots[((0 : Int32)).toNatClampNeg]? = some (.int (0 : Int32)) := H75.at hin75 rfl
        have O76 : Old Z n0 h74 := (((((O0.ext E66).wr W68 gb66).wr W70 gb66).wr W72 gb66).wr W74 gb66)
        have f78 := ((((((Exa.ext O0.2 X_a_NONE).ext E66).wr W68).wr W70).wr W72).wr W74)
        obtain ⟨cq77, kq77, q77a, q77b, q77c⟩ := isOf hZ e74 f78
        obtain ⟨_, _, ⟨T77, L77, k77, n77⟩, -, X77, ⟨Lc77, hQ77, l77, y77, z77⟩, st77⟩ := X74.virtualBack hx (y := (⟨"com/example/carbonfold/carbonfold/model/RosterItem$Subscription", "hasTo", "()Z"⟩ : MethodName)) (z := (⟨"com/example/carbonfold/carbonfold/model/RosterItem$Subscription", "hasTo", "()Z"⟩ : MethodName)) hown (mvT hZ (hw _ (List.mem_of_getElem? (i := 4) rfl))) (mvT hZ (hw _ (List.mem_of_getElem? (i := 5) rfl))) (notFace_of_selects (args := #[]) (mvT hZ (hw _ (List.mem_of_getElem? (i := 7) rfl)))) (mvT hZ (hw _ (List.mem_of_getElem? (i := 7) rfl))) (mvT hZ (hw _ (List.mem_of_getElem? (i := 6) rfl))) (by decide) (backOf (W := 0) (rm_hasTo_1 l Z a0 hw [] a_NONE a_TO a_BOTH a_FROM h74 n0 O76 En) hZ (hw _ (List.mem_of_getElem? (i := 8) rfl)) (hw _ (List.mem_of_getElem? (i := 1) rfl)) (by decide) (by decide)) q77a q77c (g := (mkF m 95 #[.val (.int i0), .val (.int i1), .val (.int (0 : Int32)), .val (.int (1 : Int32)), .val (.int (1 : Int32)), .val (.ref a_NONE), .val (.ref b66), .val (.int (0 : Int32))] [(.ref a_NONE)])) rfl (by rw [hml]; rfl) (Steps.refl _) (argsL := []) (rest := []) (lenOf pd_0 rfl) rfl (by show 2 * 0 + _ ≤ _; exact Nat.le_of_eq rfl) (hb hby at_95) (fun _ _ => ⟨rfl, e74, (by decide : 1 + 0 ≤ _), (by decide : 4 + 0 ≤ _)⟩)
        dsimp only [Pt.U, Pt.locs, Pt.cells, Pt.slots] at X77 l77 y77 z77 st77 hQ77
        subst l77 y77 z77
        obtain ⟨rfl, N77q, hh77⟩ := hQ77
        have N77 := Fr.app N74 N77q
        obtain ⟨cq79, kq79, q79a, q79b, q79c⟩ := isOf hZ hh77 f78
        obtain ⟨_, _, ⟨T79, L79, k79, n79⟩, -, X79, ⟨Lc79, hQ79, l79, y79, z79⟩, st79⟩ := X77.virtualBack hx (y := (⟨"com/example/carbonfold/carbonfold/model/RosterItem$Subscription", "withTo", "(Z)Lcom/example/carbonfold/carbonfold/model/RosterItem$Subscription;"⟩ : MethodName)) (z := (⟨"com/example/carbonfold/carbonfold/model/RosterItem$Subscription", "withTo", "(Z)Lcom/example/carbonfold/carbonfold/model/RosterItem$Subscription;"⟩ : MethodName)) hown (mvT hZ (hw _ (List.mem_of_getElem? (i := 13) rfl))) (mvT hZ (hw _ (List.mem_of_getElem? (i := 14) rfl))) (notFace_of_selects (args := #[]) (mvT hZ (hw _ (List.mem_of_getElem? (i := 16) rfl)))) (mvT hZ (hw _ (List.mem_of_getElem? (i := 16) rfl))) (mvT hZ (hw _ (List.mem_of_getElem? (i := 15) rfl))) (by decide) (backOf (W := 0) (rm_withTo_9 l Z a0 hw [] a_NONE a_TO a_BOTH a_FROM h74 n0 O76 En) hZ (hw _ (List.mem_of_getElem? (i := 17) rfl)) (hw _ (List.mem_of_getElem? (i := 1) rfl)) (by decide) (by decide)) q79a q79c (g := (mkF m 106 #[.val (.int i0), .val (.int i1), .val (.int (0 : Int32)), .val (.int (1 : Int32)), .val (.int (1 : Int32)), .val (.ref a_NONE), .val (.ref b66), .val (.int (0 : Int32))] [(.int (1 : Int32)), (.ref a_NONE)])) rfl (by rw [hml]; rfl) (Steps.refl _) (argsL := [(.int (1 : Int32))]) (rest := []) (lenOf pd_2 rfl) rfl (by show 2 * 0 + _ ≤ _; exact Nat.le_of_eq rfl) (hb hby at_106) (fun _ _ => ⟨rfl, hh77, (by decide : 1 + 0 ≤ _), (by decide : 4 + 0 ≤ _)⟩)
        dsimp only [Pt.U, Pt.locs, Pt.cells, Pt.slots] at X79 l79 y79 z79 st79 hQ79
        subst l79 y79 z79
        obtain ⟨rfl, N79q, hh79⟩ := hQ79
        have N79 := Fr.app N77 N79q
        have f81 := ((((((Exa.ext O0.2 X_a_TO).ext E66).wr W68).wr W70).wr W72).wr W74)
        obtain ⟨cq80, kq80, q80a, q80b, q80c⟩ := isOf hZ hh79 f81
        obtain ⟨_, _, ⟨T80, L80, k80, n80⟩, -, X80, ⟨Lc80, hQ80, l80, y80, z80⟩, st80⟩ := X79.virtualBack hx (y := (⟨"com/example/carbonfold/carbonfold/model/RosterItem$Subscription", "hasTo", "()Z"⟩ : MethodName)) (z := (⟨"com/example/carbonfold/carbonfold/model/RosterItem$Subscription", "hasTo", "()Z"⟩ : MethodName)) hown (mvT hZ (hw _ (List.mem_of_getElem? (i := 4) rfl))) (mvT hZ (hw _ (List.mem_of_getElem? (i := 5) rfl))) (notFace_of_selects (args := #[]) (mvT hZ (hw _ (List.mem_of_getElem? (i := 7) rfl)))) (mvT hZ (hw _ (List.mem_of_getElem? (i := 7) rfl))) (mvT hZ (hw _ (List.mem_of_getElem? (i := 6) rfl))) (by decide) (backOf (W := 0) (rm_hasTo_11 l Z a0 hw [] a_NONE a_TO a_BOTH a_FROM h74 n0 O76 En) hZ (hw _ (List.mem_of_getElem? (i := 8) rfl)) (hw _ (List.mem_of_getElem? (i := 1) rfl)) (by decide) (by decide)) q80a q80c (g := (mkF m 109 #[.val (.int i0), .val (.int i1), .val (.int (0 : Int32)), .val (.int (1 : Int32)), .val (.int (1 : Int32)), .val (.ref a_NONE), .val (.ref b66), .val (.int (0 : Int32))] [(.ref a_TO)])) rfl (by rw [hml]; rfl) (Steps.refl _) (argsL := []) (rest := []) (lenOf pd_0 rfl) rfl (by show 2 * 0 + _ ≤ _; exact Nat.le_of_eq rfl) (hb hby at_109) (fun _ _ => ⟨rfl, hh79, (by decide : 1 + 0 ≤ _), (by decide : 4 + 0 ≤ _)⟩)
        dsimp only [Pt.U, Pt.locs, Pt.cells, Pt.slots] at X80 l80 y80 z80 st80 hQ80
        subst l80 y80 z80
        obtain ⟨rfl, N80q, hh80⟩ := hQ80
        have N80 := Fr.app N79 N80q
        obtain ⟨cq82, kq82, q82a, q82b, q82c⟩ := isOf hZ hh80 f78
        obtain ⟨_, _, ⟨T82, L82, k82, n82⟩, -, X82, ⟨Lc82, hQ82, l82, y82, z82⟩, st82⟩ := X80.virtualBack hx (y := (⟨"com/example/carbonfold/carbonfold/model/RosterItem$Subscription", "withFrom", "(Z)Lcom/example/carbonfold/carbonfold/model/RosterItem$Subscription;"⟩ : MethodName)) (z := (⟨"com/example/carbonfold/carbonfold/model/RosterItem$Subscription", "withFrom", "(Z)Lcom/example/carbonfold/carbonfold/model/RosterItem$Subscription;"⟩ : MethodName)) hown (mvT hZ (hw _ (List.mem_of_getElem? (i := 28) rfl))) (mvT hZ (hw _ (List.mem_of_getElem? (i := 29) rfl))) (notFace_of_selects (args := #[]) (mvT hZ (hw _ (List.mem_of_getElem? (i := 31) rfl)))) (mvT hZ (hw _ (List.mem_of_getElem? (i := 31) rfl))) (mvT hZ (hw _ (List.mem_of_getElem? (i := 30) rfl))) (by decide) (backOf (W := 0) (rm_withFrom_6 l Z a0 hw [] a_NONE a_TO a_BOTH a_FROM h74 n0 O76 En) hZ (hw _ (List.mem_of_getElem? (i := 32) rfl)) (hw _ (List.mem_of_getElem? (i := 1) rfl)) (by decide) (by decide)) q82a q82c (g := (mkF m 120 #[.val (.int i0), .val (.int i1), .val (.int (0 : Int32)), .val (.int (1 : Int32)), .val (.int (1 : Int32)), .val (.ref a_NONE), .val (.ref b66), .val (.int (0 : Int32))] [(.int (1 : Int32)), (.ref a_NONE)])) rfl (by rw [hml]; rfl) (Steps.refl _) (argsL := [(.int (1 : Int32))]) (rest := []) (lenOf pd_2 rfl) rfl (by show 2 * 0 + _ ≤ _; exact Nat.le_of_eq rfl) (hb hby at_120) (fun _ _ => ⟨rfl, hh80, (by decide : 1 + 0 ≤ _), (by decide : 4 + 0 ≤ _)⟩)
        dsimp only [Pt.U, Pt.locs, Pt.cells, Pt.slots] at X82 l82 y82 z82 st82 hQ82
        subst l82 y82 z82
        obtain ⟨rfl, N82q, hh82⟩ := hQ82
        have N82 := Fr.app N80 N82q
        have f84 := ((((((Exa.ext O0.2 X_a_FROM).ext E66).wr W68).wr W70).wr W72).wr W74)
        obtain ⟨cq83, kq83, q83a, q83b, q83c⟩ := isOf hZ hh82 f84
        obtain ⟨_, _, ⟨T83, L83, k83, n83⟩, -, X83, ⟨Lc83, hQ83, l83, y83, z83⟩, st83⟩ := X82.virtualBack hx (y := (⟨"com/example/carbonfold/carbonfold/model/RosterItem$Subscription", "hasTo", "()Z"⟩ : MethodName)) (z := (⟨"com/example/carbonfold/carbonfold/model/RosterItem$Subscription", "hasTo", "()Z"⟩ : MethodName)) hown (mvT hZ (hw _ (List.mem_of_getElem? (i := 4) rfl))) (mvT hZ (hw _ (List.mem_of_getElem? (i := 5) rfl))) (notFace_of_selects (args := #[]) (mvT hZ (hw _ (List.mem_of_getElem? (i := 7) rfl)))) (mvT hZ (hw _ (List.mem_of_getElem? (i := 7) rfl))) (mvT hZ (hw _ (List.mem_of_getElem? (i := 6) rfl))) (by decide) (backOf (W := 0) (rm_hasTo_8 l Z a0 hw [] a_NONE a_TO a_BOTH a_FROM h74 n0 O76 En) hZ (hw _ (List.mem_of_getElem? (i := 8) rfl)) (hw _ (List.mem_of_getElem? (i := 1) rfl)) (by decide) (by decide)) q83a q83c (g := (mkF m 123 #[.val (.int i0), .val (.int i1), .val (.int (0 : Int32)), .val (.int (1 : Int32)), .val (.int (1 : Int32)), .val (.ref a_NONE), .val (.ref b66), .val (.int (0 : Int32))] [(.ref a_FROM)])) rfl (by rw [hml]; rfl) (Steps.refl _) (argsL := []) (rest := []) (lenOf pd_0 rfl) rfl (by show 2 * 0 + _ ≤ _; exact Nat.le_of_eq rfl) (hb hby at_123) (fun _ _ => ⟨rfl, hh82, (by decide : 1 + 0 ≤ _), (by decide : 4 + 0 ≤ _)⟩)
        dsimp only [Pt.U, Pt.locs, Pt.cells, Pt.slots] at X83 l83 y83 z83 st83 hQ83
        subst l83 y83 z83
        obtain ⟨rfl, N83q, hh83⟩ := hQ83
        have N83 := Fr.app N82 N83q
        obtain ⟨fs, hr, hrun, hended, hW, hsame⟩ := X83.leave (v := some (.int (1 : Int32))) (fun h => by rw [Bd.returns] at h; cases h)
        refine ⟨_, _, pre44 _ ?_, hrun, hended, _, _, rfl, ?_, ⟨_, rfl⟩, hW, hsame.mono (by decide) (by decide)⟩
        · skip
          show Steps p.tables e below (s₁.setTop (mkF m 19 #[.val (.int i0), .val (.int i1), .val (.int (0 : Int32)), .val (.int (1 : Int32)), .unset, .unset, .unset, .unset] [(.int (i1 &&& (2 : Int32)))])) _
          rw [hk45]
          show Steps p.tables e below (s₁.setTop (mkF m 19 #[.val (.int i0), .val (.int i1), .val (.int (0 : Int32)), .val (.int (1 : Int32)), .unset, .unset, .unset, .unset] [(.int (2 : Int32))])) _
          refine XS.ifNo X0.here hx rfl (hb hby at_19) rfl (by decide) ?_
          show Steps p.tables e below (s₁.setTop (mkF m 22 #[.val (.int i0), .val (.int i1), .val (.int (0 : Int32)), .val (.int (1 : Int32)), .unset, .unset, .unset, .unset] [])) _
          refine XS.iconst X0.here hx rfl (hb hby at_22) ?_
          show Steps p.tables e below (s₁.setTop (mkF m 23 #[.val (.int i0), .val (.int i1), .val (.int (0 : Int32)), .val (.int (1 : Int32)), .unset, .unset, .unset, .unset] [(.int (1 : Int32))])) _
          refine XS.goto X0.here hx rfl (pc0 := 23) (pc' := 27) rfl (hb hby at_23) (by decide) (by decide) ?_
          show Steps p.tables e below (s₁.setTop (mkF m 27 #[.val (.int i0), .val (.int i1), .val (.int (0 : Int32)), .val (.int (1 : Int32)), .unset, .unset, .unset, .unset] [(.int (1 : Int32))])) _
          refine XS.istore X0.here hx rfl (hb hby at_27) rfl (l' := #[.val (.int i0), .val (.int i1), .val (.int (0 : Int32)), .val (.int (1 : Int32)), .val (.int (1 : Int32)), .unset, .unset, .unset]) rfl ?_
          show Steps p.tables e below (s₁.setTop (mkF m 29 #[.val (.int i0), .val (.int i1), .val (.int (0 : Int32)), .val (.int (1 : Int32)), .val (.int (1 : Int32)), .unset, .unset, .unset] [])) _
          refine XS.iloadN X0.here hx rfl (hb hby at_29) rfl ?_
          show Steps p.tables e below (s₁.setTop (mkF m 30 #[.val (.int i0), .val (.int i1), .val (.int (0 : Int32)), .val (.int (1 : Int32)), .val (.int (1 : Int32)), .unset, .unset, .unset] [(.int (0 : Int32))])) _
          refine XS.ifNo X0.here hx rfl (hb hby at_30) rfl (by decide) ?_
          show Steps p.tables e below (s₁.setTop (mkF m 33 #[.val (.int i0), .val (.int i1), .val (.int (0 : Int32)), .val (.int (1 : Int32)), .val (.int (1 : Int32)), .unset, .unset, .unset] [])) _
          refine st65 _ ?_
          show Steps p.tables e below (T65.setTop (mkF m 36 #[.val (.int i0), .val (.int i1), .val (.int (0 : Int32)), .val (.int (1 : Int32)), .val (.int (1 : Int32)), .unset, .unset, .unset] [(.ref a_NONE)])) _
          refine XS.goto X65.here hx rfl (pc0 := 36) (pc' := 64) rfl (hb hby at_36) (by decide) (by decide) ?_
          show Steps p.tables e below (T65.setTop (mkF m 64 #[.val (.int i0), .val (.int i1), .val (.int (0 : Int32)), .val (.int (1 : Int32)), .val (.int (1 : Int32)), .unset, .unset, .unset] [(.ref a_NONE)])) _
          refine XS.astore X65.here hx rfl (hb hby at_64) rfl rfl (l' := #[.val (.int i0), .val (.int i1), .val (.int (0 : Int32)), .val (.int (1 : Int32)), .val (.int (1 : Int32)), .val (.ref a_NONE), .unset, .unset]) rfl ?_
          show Steps p.tables e below (T65.setTop (mkF m 66 #[.val (.int i0), .val (.int i1), .val (.int (0 : Int32)), .val (.int (1 : Int32)), .val (.int (1 : Int32)), .val (.ref a_NONE), .unset, .unset] [])) _
          refine XS.iconst X65.here hx rfl (hb hby at_66) ?_
          show Steps p.tables e below (T65.setTop (mkF m 67 #[.val (.int i0), .val (.int i1), .val (.int (0 : Int32)), .val (.int (1 : Int32)), .val (.int (1 : Int32)), .val (.ref a_NONE), .unset, .unset] [(.int (4 : Int32))])) _
          refine st66 _ ?_
          show Steps p.tables e below (T66.setTop (mkF m 69 #[.val (.int i0), .val (.int i1), .val (.int (0 : Int32)), .val (.int (1 : Int32)), .val (.int (1 : Int32)), .val (.ref a_NONE), .unset, .unset] [(.ref b66)])) _
          refine XS.dup X66.here hx rfl (hb hby at_69) rfl rfl ?_
          show Steps p.tables e below (T66.setTop (mkF m 70 #[.val (.int i0), .val (.int i1), .val (.int (0 : Int32)), .val (.int (1 : Int32)), .val (.int (1 : Int32)), .val (.ref a_NONE), .unset, .unset] [(.ref b66), (.ref b66)])) _
          refine XS.iconst X66.here hx rfl (hb hby at_70) ?_
          show Steps p.tables e below (T66.setTop (mkF m 71 #[.val (.int i0), .val (.int i1), .val (.int (0 : Int32)), .val (.int (1 : Int32)), .val (.int (1 : Int32)), .val (.ref a_NONE), .unset, .unset] [(.int (0 : Int32)), (.ref b66), (.ref b66)])) _
          refine XS.iconst X66.here hx rfl (hb hby at_71) ?_
          show Steps p.tables e below (T66.setTop (mkF m 72 #[.val (.int i0), .val (.int i1), .val (.int (0 : Int32)), .val (.int (1 : Int32)), .val (.int (1 : Int32)), .val (.ref a_NONE), .unset, .unset] [(.int (0 : Int32)), (.int (0 : Int32)), (.ref b66), (.ref b66)])) _
          refine st68 _ ?_
          show Steps p.tables e below (T68.setTop (mkF m 73 #[.val (.int i0), .val (.int i1), .val (.int (0 : Int32)), .val (.int (1 : Int32)), .val (.int (1 : Int32)), .val (.ref a_NONE), .unset, .unset] [(.ref b66)])) _
          refine XS.dup X68.here hx rfl (hb hby at_73) rfl rfl ?_
          show Steps p.tables e below (T68.setTop (mkF m 74 #[.val (.int i0), .val (.int i1), .val (.int (0 : Int32)), .val (.int (1 : Int32)), .val (.int (1 : Int32)), .val (.ref a_NONE), .unset, .unset] [(.ref b66), (.ref b66)])) _
          refine XS.iconst X68.here hx rfl (hb hby at_74) ?_
          show Steps p.tables e below (T68.setTop (mkF m 75 #[.val (.int i0), .val (.int i1), .val (.int (0 : Int32)), .val (.int (1 : Int32)), .val (.int (1 : Int32)), .val (.ref a_NONE), .unset, .unset] [(.int (1 : Int32)), (.ref b66), (.ref b66)])) _
          refine XS.iconst X68.here hx rfl (hb hby at_75) ?_
          show Steps p.tables e below (T68.setTop (mkF m 76 #[.val (.int i0), .val (.int i1), .val (.int (0 : Int32)), .val (.int (1 : Int32)), .val (.int (1 : Int32)), .val (.ref a_NONE), .unset, .unset] [(.int (1 : Int32)), (.int (1 : Int32)), (.ref b66), (.ref b66)])) _
          refine st70 _ ?_
          show Steps p.tables e below (T70.setTop (mkF m 77 #[.val (.int i0), .val (.int i1), .val (.int (0 : Int32)), .val (.int (1 : Int32)), .val (.int (1 : Int32)), .val (.ref a_NONE), .unset, .unset] [(.ref b66)])) _
          refine XS.dup X70.here hx rfl (hb hby at_77) rfl rfl ?_
          show Steps p.tables e below (T70.setTop (mkF m 78 #[.val (.int i0), .val (.int i1), .val (.int (0 : Int32)), .val (.int (1 : Int32)), .val (.int (1 : Int32)), .val (.ref a_NONE), .unset, .unset] [(.ref b66), (.ref b66)])) _
          refine XS.iconst X70.here hx rfl (hb hby at_78) ?_
          show Steps p.tables e below (T70.setTop (mkF m 79 #[.val (.int i0), .val (.int i1), .val (.int (0 : Int32)), .val (.int (1 : Int32)), .val (.int (1 : Int32)), .val (.ref a_NONE), .unset, .unset] [(.int (2 : Int32)), (.ref b66), (.ref b66)])) _
          refine XS.iconst X70.here hx rfl (hb hby at_79) ?_
          show Steps p.tables e below (T70.setTop (mkF m 80 #[.val (.int i0), .val (.int i1), .val (.int (0 : Int32)), .val (.int (1 : Int32)), .val (.int (1 : Int32)), .val (.ref a_NONE), .unset, .unset] [(.int (0 : Int32)), (.int (2 : Int32)), (.ref b66), (.ref b66)])) _
          refine st72 _ ?_
          show Steps p.tables e below (T72.setTop (mkF m 81 #[.val (.int i0), .val (.int i1), .val (.int (0 : Int32)), .val (.int (1 : Int32)), .val (.int (1 : Int32)), .val (.ref a_NONE), .unset, .unset] [(.ref b66)])) _
          refine XS.dup X72.here hx rfl (hb hby at_81) rfl rfl ?_
          show Steps p.tables e below (T72.setTop (mkF m 82 #[.val (.int i0), .val (.int i1), .val (.int (0 : Int32)), .val (.int (1 : Int32)), .val (.int (1 : Int32)), .val (.ref a_NONE), .unset, .unset] [(.ref b66), (.ref b66)])) _
          refine XS.iconst X72.here hx rfl (hb hby at_82) ?_
          show Steps p.tables e below (T72.setTop (mkF m 83 #[.val (.int i0), .val (.int i1), .val (.int (0 : Int32)), .val (.int (1 : Int32)), .val (.int (1 : Int32)), .val (.ref a_NONE), .unset, .unset] [(.int (3 : Int32)), (.ref b66), (.ref b66)])) _
          refine XS.iconst X72.here hx rfl (hb hby at_83) ?_
          show Steps p.tables e below (T72.setTop (mkF m 84 #[.val (.int i0), .val (.int i1), .val (.int (0 : Int32)), .val (.int (1 : Int32)), .val (.int (1 : Int32)), .val (.ref a_NONE), .unset, .unset] [(.int (1 : Int32)), (.int (3 : Int32)), (.ref b66), (.ref b66)])) _
          refine st74 _ ?_
          show Steps p.tables e below (T74.setTop (mkF m 85 #[.val (.int i0), .val (.int i1), .val (.int (0 : Int32)), .val (.int (1 : Int32)), .val (.int (1 : Int32)), .val (.ref a_NONE), .unset, .unset] [(.ref b66)])) _
          refine XS.astore X74.here hx rfl (hb hby at_85) rfl rfl (l' := #[.val (.int i0), .val (.int i1), .val (.int (0 : Int32)), .val (.int (1 : Int32)), .val (.int (1 : Int32)), .val (.ref a_NONE), .val (.ref b66), .unset]) rfl ?_
          show Steps p.tables e below (T74.setTop (mkF m 87 #[.val (.int i0), .val (.int i1), .val (.int (0 : Int32)), .val (.int (1 : Int32)), .val (.int (1 : Int32)), .val (.ref a_NONE), .val (.ref b66), .unset] [])) _
          refine XS.aload X74.here hx rfl (hb hby at_87) rfl rfl ?_
          show Steps p.tables e below (T74.setTop (mkF m 89 #[.val (.int i0), .val (.int i1), .val (.int (0 : Int32)), .val (.int (1 : Int32)), .val (.int (1 : Int32)), .val (.ref a_NONE), .val (.ref b66), .unset] [(.ref b66)])) _
          refine XS.iloadN X74.here hx rfl (hb hby at_89) rfl ?_
          show Steps p.tables e below (T74.setTop (mkF m 90 #[.val (.int i0), .val (.int i1), .val (.int (0 : Int32)), .val (.int (1 : Int32)), .val (.int (1 : Int32)), .val (.ref a_NONE), .val (.ref b66), .unset] [(.int (0 : Int32)), (.ref b66)])) _
          refine X74.baloadBooleans hx (j := (0 : Int32)) (v := (.int (0 : Int32))) (by rw [e74]; exact Ar75.1) (State.isArrayOf_alike hZ.alike Ar75.2.1) Ar75.2.2 hin75 hat75 (g := (mkF m 90 #[.val (.int i0), .val (.int i1), .val (.int (0 : Int32)), .val (.int (1 : Int32)), .val (.int (1 : Int32)), .val (.ref a_NONE), .val (.ref b66), .unset] [(.int (0 : Int32)), (.ref b66)])) rfl rfl (hb hby at_90) _ ?_
          show Steps p.tables e below (T74.setTop (mkF m 91 #[.val (.int i0), .val (.int i1), .val (.int (0 : Int32)), .val (.int (1 : Int32)), .val (.int (1 : Int32)), .val (.ref a_NONE), .val (.ref b66), .unset] [(.int (0 : Int32))])) _
          refine XS.istore X74.here hx rfl (hb hby at_91) rfl (l' := #[.val (.int i0), .val (.int i1), .val (.int (0 : Int32)), .val (.int (1 : Int32)), .val (.int (1 : Int32)), .val (.ref a_NONE), .val (.ref b66), .val (.int (0 : Int32))]) rfl ?_
          show Steps p.tables e below (T74.setTop (mkF m 93 #[.val (.int i0), .val (.int i1), .val (.int (0 : Int32)), .val (.int (1 : Int32)), .val (.int (1 : Int32)), .val (.ref a_NONE), .val (.ref b66), .val (.int (0 : Int32))] [])) _
          refine XS.aload X74.here hx rfl (hb hby at_93) rfl rfl ?_
          show Steps p.tables e below (T74.setTop (mkF m 95 #[.val (.int i0), .val (.int i1), .val (.int (0 : Int32)), .val (.int (1 : Int32)), .val (.int (1 : Int32)), .val (.ref a_NONE), .val (.ref b66), .val (.int (0 : Int32))] [(.ref a_NONE)])) _
          refine st77.trans ?_
          show Steps p.tables e below (T77.setTop (mkF m 98 #[.val (.int i0), .val (.int i1), .val (.int (0 : Int32)), .val (.int (1 : Int32)), .val (.int (1 : Int32)), .val (.ref a_NONE), .val (.ref b66), .val (.int (0 : Int32))] [(.int (0 : Int32))])) _
          refine XS.iload X77.here hx rfl (hb hby at_98) rfl ?_
          show Steps p.tables e below (T77.setTop (mkF m 100 #[.val (.int i0), .val (.int i1), .val (.int (0 : Int32)), .val (.int (1 : Int32)), .val (.int (1 : Int32)), .val (.ref a_NONE), .val (.ref b66), .val (.int (0 : Int32))] [(.int (0 : Int32)), (.int (0 : Int32))])) _
          refine XS.icmpNo X77.here hx rfl (hb hby at_100) rfl (by decide) ?_
          show Steps p.tables e below (T77.setTop (mkF m 103 #[.val (.int i0), .val (.int i1), .val (.int (0 : Int32)), .val (.int (1 : Int32)), .val (.int (1 : Int32)), .val (.ref a_NONE), .val (.ref b66), .val (.int (0 : Int32))] [])) _
          refine XS.aload X77.here hx rfl (hb hby at_103) rfl rfl ?_
          show Steps p.tables e below (T77.setTop (mkF m 105 #[.val (.int i0), .val (.int i1), .val (.int (0 : Int32)), .val (.int (1 : Int32)), .val (.int (1 : Int32)), .val (.ref a_NONE), .val (.ref b66), .val (.int (0 : Int32))] [(.ref a_NONE)])) _
          refine XS.iloadN X77.here hx rfl (hb hby at_105) rfl ?_
          show Steps p.tables e below (T77.setTop (mkF m 106 #[.val (.int i0), .val (.int i1), .val (.int (0 : Int32)), .val (.int (1 : Int32)), .val (.int (1 : Int32)), .val (.ref a_NONE), .val (.ref b66), .val (.int (0 : Int32))] [(.int (1 : Int32)), (.ref a_NONE)])) _
          refine st79.trans ?_
          show Steps p.tables e below (T79.setTop (mkF m 109 #[.val (.int i0), .val (.int i1), .val (.int (0 : Int32)), .val (.int (1 : Int32)), .val (.int (1 : Int32)), .val (.ref a_NONE), .val (.ref b66), .val (.int (0 : Int32))] [(.ref a_TO)])) _
          refine st80.trans ?_
          show Steps p.tables e below (T80.setTop (mkF m 112 #[.val (.int i0), .val (.int i1), .val (.int (0 : Int32)), .val (.int (1 : Int32)), .val (.int (1 : Int32)), .val (.ref a_NONE), .val (.ref b66), .val (.int (0 : Int32))] [(.int (1 : Int32))])) _
          refine XS.iloadN X80.here hx rfl (hb hby at_112) rfl ?_
          show Steps p.tables e below (T80.setTop (mkF m 113 #[.val (.int i0), .val (.int i1), .val (.int (0 : Int32)), .val (.int (1 : Int32)), .val (.int (1 : Int32)), .val (.ref a_NONE), .val (.ref b66), .val (.int (0 : Int32))] [(.int (1 : Int32)), (.int (1 : Int32))])) _
          refine XS.icmpNo X80.here hx rfl (hb hby at_113) rfl (by decide) ?_
          show Steps p.tables e below (T80.setTop (mkF m 116 #[.val (.int i0), .val (.int i1), .val (.int (0 : Int32)), .val (.int (1 : Int32)), .val (.int (1 : Int32)), .val (.ref a_NONE), .val (.ref b66), .val (.int (0 : Int32))] [])) _
          refine XS.aload X80.here hx rfl (hb hby at_116) rfl rfl ?_
          show Steps p.tables e below (T80.setTop (mkF m 118 #[.val (.int i0), .val (.int i1), .val (.int (0 : Int32)), .val (.int (1 : Int32)), .val (.int (1 : Int32)), .val (.ref a_NONE), .val (.ref b66), .val (.int (0 : Int32))] [(.ref a_NONE)])) _
          refine XS.iload X80.here hx rfl (hb hby at_118) rfl ?_
          show Steps p.tables e below (T80.setTop (mkF m 120 #[.val (.int i0), .val (.int i1), .val (.int (0 : Int32)), .val (.int (1 : Int32)), .val (.int (1 : Int32)), .val (.ref a_NONE), .val (.ref b66), .val (.int (0 : Int32))] [(.int (1 : Int32)), (.ref a_NONE)])) _
          refine st82.trans ?_
          show Steps p.tables e below (T82.setTop (mkF m 123 #[.val (.int i0), .val (.int i1), .val (.int (0 : Int32)), .val (.int (1 : Int32)), .val (.int (1 : Int32)), .val (.ref a_NONE), .val (.ref b66), .val (.int (0 : Int32))] [(.ref a_FROM)])) _
          refine st83.trans ?_
          show Steps p.tables e below (T83.setTop (mkF m 126 #[.val (.int i0), .val (.int i1), .val (.int (0 : Int32)), .val (.int (1 : Int32)), .val (.int (1 : Int32)), .val (.ref a_NONE), .val (.ref b66), .val (.int (0 : Int32))] [(.int (0 : Int32))])) _
          refine XS.iload X83.here hx rfl (hb hby at_126) rfl ?_
          show Steps p.tables e below (T83.setTop (mkF m 128 #[.val (.int i0), .val (.int i1), .val (.int (0 : Int32)), .val (.int (1 : Int32)), .val (.int (1 : Int32)), .val (.ref a_NONE), .val (.ref b66), .val (.int (0 : Int32))] [(.int (0 : Int32)), (.int (0 : Int32))])) _
          refine XS.icmpNo X83.here hx rfl (hb hby at_128) rfl (by decide) ?_
          show Steps p.tables e below (T83.setTop (mkF m 131 #[.val (.int i0), .val (.int i1), .val (.int (0 : Int32)), .val (.int (1 : Int32)), .val (.int (1 : Int32)), .val (.ref a_NONE), .val (.ref b66), .val (.int (0 : Int32))] [])) _
          refine XS.iconst X83.here hx rfl (hb hby at_131) ?_
          show Steps p.tables e below (T83.setTop (mkF m 132 #[.val (.int i0), .val (.int i1), .val (.int (0 : Int32)), .val (.int (1 : Int32)), .val (.int (1 : Int32)), .val (.ref a_NONE), .val (.ref b66), .val (.int (0 : Int32))] [(.int (1 : Int32))])) _
          refine XS.goto X83.here hx rfl (pc0 := 132) (pc' := 136) rfl (hb hby at_132) (by decide) (by decide) ?_
          show Steps p.tables e below (T83.setTop (mkF m 136 #[.val (.int i0), .val (.int i1), .val (.int (0 : Int32)), .val (.int (1 : Int32)), .val (.int (1 : Int32)), .val (.ref a_NONE), .val (.ref b66), .val (.int (0 : Int32))] [(.int (1 : Int32))])) _
          exact retN X83 hx (t := .boolean) Bd.returns (by simp) (hb hby at_136) hr
        · show QL n0 _ T83.heap _
          rw [hh83]
          exact ⟨rfl, N83⟩
  · skip
    have pre85 : ∀ t, Steps p.tables e below (s₁.setTop (mkF m 7 #[.val (.int i0), .val (.int i1), .val (.int (1 : Int32)), .unset, .unset, .unset, .unset, .unset] [(.int (i1 &&& (1 : Int32)))])) t → Steps p.tables e below (s₁.setTop (entryFrame m #[(.int i0), (.int i1)] maxLocals)) t := fun t kt => pre1 t (by
        show Steps p.tables e below (s₁.setTop (mkF m 3 #[.val (.int i0), .val (.int i1), .unset, .unset, .unset, .unset, .unset, .unset] [(.int (i0 &&& (3 : Int32)))])) _
        rw [hk2]
        show Steps p.tables e below (s₁.setTop (mkF m 3 #[.val (.int i0), .val (.int i1), .unset, .unset, .unset, .unset, .unset, .unset] [(.int (1 : Int32))])) _
        refine XS.istoreN X0.here hx rfl (hb hby at_3) rfl (l' := #[.val (.int i0), .val (.int i1), .val (.int (1 : Int32)), .unset, .unset, .unset, .unset, .unset]) rfl ?_
        show Steps p.tables e below (s₁.setTop (mkF m 4 #[.val (.int i0), .val (.int i1), .val (.int (1 : Int32)), .unset, .unset, .unset, .unset, .unset] [])) _
        refine XS.iloadN X0.here hx rfl (hb hby at_4) rfl ?_
        show Steps p.tables e below (s₁.setTop (mkF m 5 #[.val (.int i0), .val (.int i1), .val (.int (1 : Int32)), .unset, .unset, .unset, .unset, .unset] [(.int i1)])) _
        refine XS.iconst X0.here hx rfl (hb hby at_5) ?_
        show Steps p.tables e below (s₁.setTop (mkF m 6 #[.val (.int i0), .val (.int i1), .val (.int (1 : Int32)), .unset, .unset, .unset, .unset, .unset] [(.int (1 : Int32)), (.int i1)])) _
        refine XS.iand X0.here hx rfl (hb hby at_6) rfl ?_
        exact kt)
    rcases own_b i1 with hk86 | hk86
    · skip
      have pre87 : ∀ t, Steps p.tables e below (s₁.setTop (mkF m 19 #[.val (.int i0), .val (.int i1), .val (.int (1 : Int32)), .val (.int (0 : Int32)), .unset, .unset, .unset, .unset] [(.int (i1 &&& (2 : Int32)))])) t → Steps p.tables e below (s₁.setTop (entryFrame m #[(.int i0), (.int i1)] maxLocals)) t := fun t kt => pre85 t (by
          show Steps p.tables e below (s₁.setTop (mkF m 7 #[.val (.int i0), .val (.int i1), .val (.int (1 : Int32)), .unset, .unset, .unset, .unset, .unset] [(.int (i1 &&& (1 : Int32)))])) _
          rw [hk86]
          show Steps p.tables e below (s₁.setTop (mkF m 7 #[.val (.int i0), .val (.int i1), .val (.int (1 : Int32)), .unset, .unset, .unset, .unset, .unset] [(.int (0 : Int32))])) _
          refine XS.ifYes X0.here hx rfl (pc0 := 7) (pc' := 14) rfl (hb hby at_7) rfl (by decide) (by decide) (by decide) ?_
          show Steps p.tables e below (s₁.setTop (mkF m 14 #[.val (.int i0), .val (.int i1), .val (.int (1 : Int32)), .unset, .unset, .unset, .unset, .unset] [])) _
          refine XS.iconst X0.here hx rfl (hb hby at_14) ?_
          show Steps p.tables e below (s₁.setTop (mkF m 15 #[.val (.int i0), .val (.int i1), .val (.int (1 : Int32)), .unset, .unset, .unset, .unset, .unset] [(.int (0 : Int32))])) _
          refine XS.istoreN X0.here hx rfl (hb hby at_15) rfl (l' := #[.val (.int i0), .val (.int i1), .val (.int (1 : Int32)), .val (.int (0 : Int32)), .unset, .unset, .unset, .unset]) rfl ?_
          show Steps p.tables e below (s₁.setTop (mkF m 16 #[.val (.int i0), .val (.int i1), .val (.int (1 : Int32)), .val (.int (0 : Int32)), .unset, .unset, .unset, .unset] [])) _
          refine XS.iloadN X0.here hx rfl (hb hby at_16) rfl ?_
          show Steps p.tables e below (s₁.setTop (mkF m 17 #[.val (.int i0), .val (.int i1), .val (.int (1 : Int32)), .val (.int (0 : Int32)), .unset, .unset, .unset, .unset] [(.int i1)])) _
          refine XS.iconst X0.here hx rfl (hb hby at_17) ?_
          show Steps p.tables e below (s₁.setTop (mkF m 18 #[.val (.int i0), .val (.int i1), .val (.int (1 : Int32)), .val (.int (0 : Int32)), .unset, .unset, .unset, .unset] [(.int (2 : Int32)), (.int i1)])) _
          refine XS.iand X0.here hx rfl (hb hby at_18) rfl ?_
          exact kt)
      rcases own_c i1 with hk88 | hk88
      · skip
        obtain ⟨T89, X89, e89, st89⟩ := getS2 X0 hx hZ hown (host := "") (Or.inl (hw _ (List.mem_of_getElem? (i := 36) rfl))) Via.refl e0 (Sta.ext O0.2 S_a_TO) (g := (mkF m 44 #[.val (.int i0), .val (.int i1), .val (.int (1 : Int32)), .val (.int (0 : Int32)), .val (.int (0 : Int32)), .unset, .unset, .unset] [])) rfl (hb hby at_44)
        obtain ⟨T90, h90, k90, X90, e90, E90, A90, st90⟩ := newP X89 hx hZ (hw _ (List.mem_of_getElem? (i := 3) rfl)) e89 (g := (mkF m 67 #[.val (.int i0), .val (.int i1), .val (.int (1 : Int32)), .val (.int (0 : Int32)), .val (.int (0 : Int32)), .val (.ref a_TO), .unset, .unset] [(.int (4 : Int32))])) rfl (hb hby at_67) rfl (by decide) (cap := 4) (by decide) (by decide) (by decide) (by decide)
        obtain ⟨b90, g90⟩ : ∃ z, z = h0.size := ⟨_, rfl⟩
        rw [← g90] at A90 st90
        have gb90 : n0 ≤ b90 := by rw [g90, ← O0.1]; exact O0.2.1
        have ne90_a_BOTH : a_BOTH ≠ b90 := by rw [g90]; exact Nat.ne_of_lt ((Exa.ext O0.2 X_a_BOTH)).lt
        have ne90_a_FROM : a_FROM ≠ b90 := by rw [g90]; exact Nat.ne_of_lt ((Exa.ext O0.2 X_a_FROM)).lt
        have ne90_a_NONE : a_NONE ≠ b90 := by rw [g90]; exact Nat.ne_of_lt ((Exa.ext O0.2 X_a_NONE)).lt
        have ne90_a_TO : a_TO ≠ b90 := by rw [g90]; exact Nat.ne_of_lt ((Exa.ext O0.2 X_a_TO)).lt
        have V90 : Arv Z h90 b90 k90 .boolean (4 : Int32) [(.int (0 : Int32)), (.int (0 : Int32)), (.int (0 : Int32)), (.int (0 : Int32))] (.int (0 : Int32)) := (Arv.new A90 (by decide)).pad (pad_rep [] (.int (0 : Int32)) 4)
        obtain ⟨cl91, Ar91, q91, S91, N91_, H91, G91⟩ := V90
        have hin91 : ¬ ((0 : Int32) < 0 ∨ cl91.slots.size ≤ ((0 : Int32)).toNatClampNeg) := inb_of S91 ⟨by decide, by decide⟩
        obtain ⟨T92, h92, X92, e92, W92, st92⟩ := stZ X90 hx hZ e90 Ar91 (j := (0 : Int32)) hin91 (g := (mkF m 72 #[.val (.int i0), .val (.int i1), .val (.int (1 : Int32)), .val (.int (0 : Int32)), .val (.int (0 : Int32)), .val (.ref a_TO), .unset, .unset] [(.int (0 : Int32)), (.int (0 : Int32)), (.ref b90), (.ref b90)])) rfl rfl (hb hby at_72)
        have V92 : Arv Z h92 b90 k90 .boolean (4 : Int32) [(.int (0 : Int32)), (.int (0 : Int32)), (.int (0 : Int32)), (.int (0 : Int32))] (.int (0 : Int32)) := Arv.set Ar91 q91 S91 N91_ H91 G91 (fits_nar_bool _) W92 0 rfl (Nat.le_of_ble_eq_true rfl)
        have N92 := Fr.snoc X92 N0 gb90
        obtain ⟨cl93, Ar93, q93, S93, N93_, H93, G93⟩ := V92
        have hin93 : ¬ ((1 : Int32) < 0 ∨ cl93.slots.size ≤ ((1 : Int32)).toNatClampNeg) := inb_of S93 ⟨by decide, by decide⟩
        obtain ⟨T94, h94, X94, e94, W94, st94⟩ := stZ X92 hx hZ e92 Ar93 (j := (1 : Int32)) hin93 (g := (mkF m 76 #[.val (.int i0), .val (.int i1), .val (.int (1 : Int32)), .val (.int (0 : Int32)), .val (.int (0 : Int32)), .val (.ref a_TO), .unset, .unset] [(.int (1 : Int32)), (.int (1 : Int32)), (.ref b90), (.ref b90)])) rfl rfl (hb hby at_76)
        have V94 : Arv Z h94 b90 k90 .boolean (4 : Int32) [(.int (0 : Int32)), (.int (1 : Int32)), (.int (0 : Int32)), (.int (0 : Int32))] (.int (0 : Int32)) := Arv.set Ar93 q93 S93 N93_ H93 G93 (fits_nar_bool _) W94 1 rfl (Nat.le_of_ble_eq_true rfl)
        have N94 := Fr.snoc X94 N92 gb90
        obtain ⟨cl95, Ar95, q95, S95, N95_, H95, G95⟩ := V94
        have hin95 : ¬ ((2 : Int32) < 0 ∨ cl95.slots.size ≤ ((2 : Int32)).toNatClampNeg) := inb_of S95 ⟨by decide, by decide⟩
        obtain ⟨T96, h96, X96, e96, W96, st96⟩ := stZ X94 hx hZ e94 Ar95 (j := (2 : Int32)) hin95 (g := (mkF m 80 #[.val (.int i0), .val (.int i1), .val (.int (1 : Int32)), .val (.int (0 : Int32)), .val (.int (0 : Int32)), .val (.ref a_TO), .unset, .unset] [(.int (0 : Int32)), (.int (2 : Int32)), (.ref b90), (.ref b90)])) rfl rfl (hb hby at_80)
        have V96 : Arv Z h96 b90 k90 .boolean (4 : Int32) [(.int (0 : Int32)), (.int (1 : Int32)), (.int (0 : Int32)), (.int (0 : Int32))] (.int (0 : Int32)) := Arv.set Ar95 q95 S95 N95_ H95 G95 (fits_nar_bool _) W96 2 rfl (Nat.le_of_ble_eq_true rfl)
        have N96 := Fr.snoc X96 N94 gb90
        obtain ⟨cl97, Ar97, q97, S97, N97_, H97, G97⟩ := V96
        have hin97 : ¬ ((3 : Int32) < 0 ∨ cl97.slots.size ≤ ((3 : Int32)).toNatClampNeg) := inb_of S97 ⟨by decide, by decide⟩
        obtain ⟨T98, h98, X98, e98, W98, st98⟩ := stZ X96 hx hZ e96 Ar97 (j := (3 : Int32)) hin97 (g := (mkF m 84 #[.val (.int i0), .val (.int i1), .val (.int (1 : Int32)), .val (.int (0 : Int32)), .val (.int (0 : Int32)), .val (.ref a_TO), .unset, .unset] [(.int (1 : Int32)), (.int (3 : Int32)), (.ref b90), (.ref b90)])) rfl rfl (hb hby at_84)
        have V98 : Arv Z h98 b90 k90 .boolean (4 : Int32) [(.int (0 : Int32)), (.int (1 : Int32)), (.int (0 : Int32)), (.int (1 : Int32))] (.int (0 : Int32)) := Arv.set Ar97 q97 S97 N97_ H97 G97 (fits_nar_bool _) W98 3 rfl (Nat.le_of_ble_eq_true rfl)
        have N98 := Fr.snoc X98 N96 gb90
        obtain ⟨cl99, Ar99, q99, S99, N99_, H99, G99⟩ := V98
        have hin99 : ¬ ((1 : Int32) < 0 ∨ cl99.slots.size ≤ ((1 : Int32)).toNatClampNeg) := inb_of S99 ⟨by decide, by decide⟩
        have hat99 : cl99.slots[((1 : Int32)).toNatClampNeg]? = some (.int (1 : Int32)) := H99.at hin99 rfl
        have O100 : Old Z n0 h98 := (((((O0.ext E90).wr W92 gb90).wr W94 gb90).wr W96 gb90).wr W98 gb90)
        have f102 := ((((((Exa.ext O0.2 X_a_TO).ext E90).wr W92).wr W94).wr W96).wr W98)
        obtain ⟨cq101, kq101, q101a, q101b, q101c⟩ := isOf hZ e98 f102
        obtain ⟨_, _, ⟨T101, L101, k101, n101⟩, -, X101, ⟨Lc101, hQ101, l101, y101, z101⟩, st101⟩ := X98.virtualBack hx (y := (⟨"com/example/carbonfold/carbonfold/model/RosterItem$Subscription", "hasTo", "()Z"⟩ : MethodName)) (z := (⟨"com/example/carbonfold/carbonfold/model/RosterItem$Subscription", "hasTo", "()Z"⟩ : MethodName)) hown (mvT hZ (hw _ (List.mem_of_getElem? (i := 4) rfl))) (mvT hZ (hw _ (List.mem_of_getElem? (i := 5) rfl))) (notFace_of_selects (args := #[]) (mvT hZ (hw _ (List.mem_of_getElem? (i := 7) rfl)))) (mvT hZ (hw _ (List.mem_of_getElem? (i := 7) rfl))) (mvT hZ (hw _ (List.mem_of_getElem? (i := 6) rfl))) (by decide) (backOf (W := 0) (rm_hasTo_11 l Z a0 hw [] a_NONE a_TO a_BOTH a_FROM h98 n0 O100 En) hZ (hw _ (List.mem_of_getElem? (i := 8) rfl)) (hw _ (List.mem_of_getElem? (i := 1) rfl)) (by decide) (by decide)) q101a q101c (g := (mkF m 95 #[.val (.int i0), .val (.int i1), .val (.int (1 : Int32)), .val (.int (0 : Int32)), .val (.int (0 : Int32)), .val (.ref a_TO), .val (.ref b90), .val (.int (1 : Int32))] [(.ref a_TO)])) rfl (by rw [hml]; rfl) (Steps.refl _) (argsL := []) (rest := []) (lenOf pd_0 rfl) rfl (by show 2 * 0 + _ ≤ _; exact Nat.le_of_eq rfl) (hb hby at_95) (fun _ _ => ⟨rfl, e98, (by decide : 1 + 0 ≤ _), (by decide : 4 + 0 ≤ _)⟩)
        dsimp only [Pt.U, Pt.locs, Pt.cells, Pt.slots] at X101 l101 y101 z101 st101 hQ101
        subst l101 y101 z101
        obtain ⟨rfl, N101q, hh101⟩ := hQ101
        have N101 := Fr.app N98 N101q
        obtain ⟨cq103, kq103, q103a, q103b, q103c⟩ := isOf hZ hh101 f102
        obtain ⟨_, _, ⟨T103, L103, k103, n103⟩, -, X103, ⟨Lc103, hQ103, l103, y103, z103⟩, st103⟩ := X101.virtualBack hx (y := (⟨"com/example/carbonfold/carbonfold/model/RosterItem$Subscription", "withTo", "(Z)Lcom/example/carbonfold/carbonfold/model/RosterItem$Subscription;"⟩ : MethodName)) (z := (⟨"com/example/carbonfold/carbonfold/model/RosterItem$Subscription", "withTo", "(Z)Lcom/example/carbonfold/carbonfold/model/RosterItem$Subscription;"⟩ : MethodName)) hown (mvT hZ (hw _ (List.mem_of_getElem? (i := 13) rfl))) (mvT hZ (hw _ (List.mem_of_getElem? (i := 14) rfl))) (notFace_of_selects (args := #[]) (mvT hZ (hw _ (List.mem_of_getElem? (i := 16) rfl)))) (mvT hZ (hw _ (List.mem_of_getElem? (i := 16) rfl))) (mvT hZ (hw _ (List.mem_of_getElem? (i := 15) rfl))) (by decide) (backOf (W := 0) (rm_withTo_12 l Z a0 hw [] a_NONE a_TO a_BOTH a_FROM h98 n0 O100 En) hZ (hw _ (List.mem_of_getElem? (i := 17) rfl)) (hw _ (List.mem_of_getElem? (i := 1) rfl)) (by decide) (by decide)) q103a q103c (g := (mkF m 106 #[.val (.int i0), .val (.int i1), .val (.int (1 : Int32)), .val (.int (0 : Int32)), .val (.int (0 : Int32)), .val (.ref a_TO), .val (.ref b90), .val (.int (1 : Int32))] [(.int (0 : Int32)), (.ref a_TO)])) rfl (by rw [hml]; rfl) (Steps.refl _) (argsL := [(.int (0 : Int32))]) (rest := []) (lenOf pd_2 rfl) rfl (by show 2 * 0 + _ ≤ _; exact Nat.le_of_eq rfl) (hb hby at_106) (fun _ _ => ⟨rfl, hh101, (by decide : 1 + 0 ≤ _), (by decide : 4 + 0 ≤ _)⟩)
        dsimp only [Pt.U, Pt.locs, Pt.cells, Pt.slots] at X103 l103 y103 z103 st103 hQ103
        subst l103 y103 z103
        obtain ⟨rfl, N103q, hh103⟩ := hQ103
        have N103 := Fr.app N101 N103q
        have f105 := ((((((Exa.ext O0.2 X_a_NONE).ext E90).wr W92).wr W94).wr W96).wr W98)
        obtain ⟨cq104, kq104, q104a, q104b, q104c⟩ := isOf hZ hh103 f105
        obtain ⟨_, _, ⟨T104, L104, k104, n104⟩, -, X104, ⟨Lc104, hQ104, l104, y104, z104⟩, st104⟩ := X103.virtualBack hx (y := (⟨"com/example/carbonfold/carbonfold/model/RosterItem$Subscription", "hasTo", "()Z"⟩ : MethodName)) (z := (⟨"com/example/carbonfold/carbonfold/model/RosterItem$Subscription", "hasTo", "()Z"⟩ : MethodName)) hown (mvT hZ (hw _ (List.mem_of_getElem? (i := 4) rfl))) (mvT hZ (hw _ (List.mem_of_getElem? (i := 5) rfl))) (notFace_of_selects (args := #[]) (mvT hZ (hw _ (List.mem_of_getElem? (i := 7) rfl)))) (mvT hZ (hw _ (List.mem_of_getElem? (i := 7) rfl))) (mvT hZ (hw _ (List.mem_of_getElem? (i := 6) rfl))) (by decide) (backOf (W := 0) (rm_hasTo_1 l Z a0 hw [] a_NONE a_TO a_BOTH a_FROM h98 n0 O100 En) hZ (hw _ (List.mem_of_getElem? (i := 8) rfl)) (hw _ (List.mem_of_getElem? (i := 1) rfl)) (by decide) (by decide)) q104a q104c (g := (mkF m 109 #[.val (.int i0), .val (.int i1), .val (.int (1 : Int32)), .val (.int (0 : Int32)), .val (.int (0 : Int32)), .val (.ref a_TO), .val (.ref b90), .val (.int (1 : Int32))] [(.ref a_NONE)])) rfl (by rw [hml]; rfl) (Steps.refl _) (argsL := []) (rest := []) (lenOf pd_0 rfl) rfl (by show 2 * 0 + _ ≤ _; exact Nat.le_of_eq rfl) (hb hby at_109) (fun _ _ => ⟨rfl, hh103, (by decide : 1 + 0 ≤ _), (by decide : 4 + 0 ≤ _)⟩)
        dsimp only [Pt.U, Pt.locs, Pt.cells, Pt.slots] at X104 l104 y104 z104 st104 hQ104
        subst l104 y104 z104
        obtain ⟨rfl, N104q, hh104⟩ := hQ104
        have N104 := Fr.app N103 N104q
        obtain ⟨cq106, kq106, q106a, q106b, q106c⟩ := isOf hZ hh104 f102
        obtain ⟨_, _, ⟨T106, L106, k106, n106⟩, -, X106, ⟨Lc106, hQ106, l106, y106, z106⟩, st106⟩ := X104.virtualBack hx (y := (⟨"com/example/carbonfold/carbonfold/model/RosterItem$Subscription", "withFrom", "(Z)Lcom/example/carbonfold/carbonfold/model/RosterItem$Subscription;"⟩ : MethodName)) (z := (⟨"com/example/carbonfold/carbonfold/model/RosterItem$Subscription", "withFrom", "(Z)Lcom/example/carbonfold/carbonfold/model/RosterItem$Subscription;"⟩ : MethodName)) hown (mvT hZ (hw _ (List.mem_of_getElem? (i := 28) rfl))) (mvT hZ (hw _ (List.mem_of_getElem? (i := 29) rfl))) (notFace_of_selects (args := #[]) (mvT hZ (hw _ (List.mem_of_getElem? (i := 31) rfl)))) (mvT hZ (hw _ (List.mem_of_getElem? (i := 31) rfl))) (mvT hZ (hw _ (List.mem_of_getElem? (i := 30) rfl))) (by decide) (backOf (W := 0) (rm_withFrom_14 l Z a0 hw [] a_NONE a_TO a_BOTH a_FROM h98 n0 O100 En) hZ (hw _ (List.mem_of_getElem? (i := 32) rfl)) (hw _ (List.mem_of_getElem? (i := 1) rfl)) (by decide) (by decide)) q106a q106c (g := (mkF m 120 #[.val (.int i0), .val (.int i1), .val (.int (1 : Int32)), .val (.int (0 : Int32)), .val (.int (0 : Int32)), .val (.ref a_TO), .val (.ref b90), .val (.int (1 : Int32))] [(.int (0 : Int32)), (.ref a_TO)])) rfl (by rw [hml]; rfl) (Steps.refl _) (argsL := [(.int (0 : Int32))]) (rest := []) (lenOf pd_2 rfl) rfl (by show 2 * 0 + _ ≤ _; exact Nat.le_of_eq rfl) (hb hby at_120) (fun _ _ => ⟨rfl, hh104, (by decide : 1 + 0 ≤ _), (by decide : 4 + 0 ≤ _)⟩)
        dsimp only [Pt.U, Pt.locs, Pt.cells, Pt.slots] at X106 l106 y106 z106 st106 hQ106
        subst l106 y106 z106
        obtain ⟨rfl, N106q, hh106⟩ := hQ106
        have N106 := Fr.app N104 N106q
        obtain ⟨cq107, kq107, q107a, q107b, q107c⟩ := isOf hZ hh106 f102
        obtain ⟨_, _, ⟨T107, L107, k107, n107⟩, -, X107, ⟨Lc107, hQ107, l107, y107, z107⟩, st107⟩ := X106.virtualBack hx (y := (⟨"com/example/carbonfold/carbonfold/model/RosterItem$Subscription", "hasTo", "()Z"⟩ : MethodName)) (z := (⟨"com/example/carbonfold/carbonfold/model/RosterItem$Subscription", "hasTo", "()Z"⟩ : MethodName)) hown (mvT hZ (hw _ (List.mem_of_getElem? (i := 4) rfl))) (mvT hZ (hw _ (List.mem_of_getElem? (i := 5) rfl))) (notFace_of_selects (args := #[]) (mvT hZ (hw _ (List.mem_of_getElem? (i := 7) rfl)))) (mvT hZ (hw _ (List.mem_of_getElem? (i := 7) rfl))) (mvT hZ (hw _ (List.mem_of_getElem? (i := 6) rfl))) (by decide) (backOf (W := 0) (rm_hasTo_11 l Z a0 hw [] a_NONE a_TO a_BOTH a_FROM h98 n0 O100 En) hZ (hw _ (List.mem_of_getElem? (i := 8) rfl)) (hw _ (List.mem_of_getElem? (i := 1) rfl)) (by decide) (by decide)) q107a q107c (g := (mkF m 123 #[.val (.int i0), .val (.int i1), .val (.int (1 : Int32)), .val (.int (0 : Int32)), .val (.int (0 : Int32)), .val (.ref a_TO), .val (.ref b90), .val (.int (1 : Int32))] [(.ref a_TO)])) rfl (by rw [hml]; rfl) (Steps.refl _) (argsL := []) (rest := []) (lenOf pd_0 rfl) rfl (by show 2 * 0 + _ ≤ _; exact Nat.le_of_eq rfl) (hb hby at_123) (fun _ _ => ⟨rfl, hh106, (by decide : 1 + 0 ≤ _), (by decide : 4 + 0 ≤ _)⟩)
        dsimp only [Pt.U, Pt.locs, Pt.cells, Pt.slots] at X107 l107 y107 z107 st107 hQ107
        subst l107 y107 z107
        obtain ⟨rfl, N107q, hh107⟩ := hQ107
        have N107 := Fr.app N106 N107q
        obtain ⟨fs, hr, hrun, hended, hW, hsame⟩ := X107.leave (v := some (.int (1 : Int32))) (fun h => by rw [Bd.returns] at h; cases h)
        refine ⟨_, _, pre87 _ ?_, hrun, hended, _, _, rfl, ?_, ⟨_, rfl⟩, hW, hsame.mono (by decide) (by decide)⟩
        · skip
          show Steps p.tables e below (s₁.setTop (mkF m 19 #[.val (.int i0), .val (.int i1), .val (.int (1 : Int32)), .val (.int (0 : Int32)), .unset, .unset, .unset, .unset] [(.int (i1 &&& (2 : Int32)))])) _
          rw [hk88]
          show Steps p.tables e below (s₁.setTop (mkF m 19 #[.val (.int i0), .val (.int i1), .val (.int (1 : Int32)), .val (.int (0 : Int32)), .unset, .unset, .unset, .unset] [(.int (0 : Int32))])) _
          refine XS.ifYes X0.here hx rfl (pc0 := 19) (pc' := 26) rfl (hb hby at_19) rfl (by decide) (by decide) (by decide) ?_
          show Steps p.tables e below (s₁.setTop (mkF m 26 #[.val (.int i0), .val (.int i1), .val (.int (1 : Int32)), .val (.int (0 : Int32)), .unset, .unset, .unset, .unset] [])) _
          refine XS.iconst X0.here hx rfl (hb hby at_26) ?_
          show Steps p.tables e below (s₁.setTop (mkF m 27 #[.val (.int i0), .val (.int i1), .val (.int (1 : Int32)), .val (.int (0 : Int32)), .unset, .unset, .unset, .unset] [(.int (0 : Int32))])) _
          refine XS.istore X0.here hx rfl (hb hby at_27) rfl (l' := #[.val (.int i0), .val (.int i1), .val (.int (1 : Int32)), .val (.int (0 : Int32)), .val (.int (0 : Int32)), .unset, .unset, .unset]) rfl ?_
          show Steps p.tables e below (s₁.setTop (mkF m 29 #[.val (.int i0), .val (.int i1), .val (.int (1 : Int32)), .val (.int (0 : Int32)), .val (.int (0 : Int32)), .unset, .unset, .unset] [])) _
          refine XS.iloadN X0.here hx rfl (hb hby at_29) rfl ?_
          show Steps p.tables e below (s₁.setTop (mkF m 30 #[.val (.int i0), .val (.int i1), .val (.int (1 : Int32)), .val (.int (0 : Int32)), .val (.int (0 : Int32)), .unset, .unset, .unset] [(.int (1 : Int32))])) _
          refine XS.ifYes X0.here hx rfl (pc0 := 30) (pc' := 39) rfl (hb hby at_30) rfl (by decide) (by decide) (by decide) ?_
          show Steps p.tables e below (s₁.setTop (mkF m 39 #[.val (.int i0), .val (.int i1), .val (.int (1 : Int32)), .val (.int (0 : Int32)), .val (.int (0 : Int32)), .unset, .unset, .unset] [])) _
          refine XS.iloadN X0.here hx rfl (hb hby at_39) rfl ?_
          show Steps p.tables e below (s₁.setTop (mkF m 40 #[.val (.int i0), .val (.int i1), .val (.int (1 : Int32)), .val (.int (0 : Int32)), .val (.int (0 : Int32)), .unset, .unset, .unset] [(.int (1 : Int32))])) _
          refine XS.iconst X0.here hx rfl (hb hby at_40) ?_
          show Steps p.tables e below (s₁.setTop (mkF m 41 #[.val (.int i0), .val (.int i1), .val (.int (1 : Int32)), .val (.int (0 : Int32)), .val (.int (0 : Int32)), .unset, .unset, .unset] [(.int (1 : Int32)), (.int (1 : Int32))])) _
          refine XS.icmpNo X0.here hx rfl (hb hby at_41) rfl (by decide) ?_
          show Steps p.tables e below (s₁.setTop (mkF m 44 #[.val (.int i0), .val (.int i1), .val (.int (1 : Int32)), .val (.int (0 : Int32)), .val (.int (0 : Int32)), .unset, .unset, .unset] [])) _
          refine st89 _ ?_
          show Steps p.tables e below (T89.setTop (mkF m 47 #[.val (.int i0), .val (.int i1), .val (.int (1 : Int32)), .val (.int (0 : Int32)), .val (.int (0 : Int32)), .unset, .unset, .unset] [(.ref a_TO)])) _
          refine XS.goto X89.here hx rfl (pc0 := 47) (pc' := 64) rfl (hb hby at_47) (by decide) (by decide) ?_
          show Steps p.tables e below (T89.setTop (mkF m 64 #[.val (.int i0), .val (.int i1), .val (.int (1 : Int32)), .val (.int (0 : Int32)), .val (.int (0 : Int32)), .unset, .unset, .unset] [(.ref a_TO)])) _
          refine XS.astore X89.here hx rfl (hb hby at_64) rfl rfl (l' := #[.val (.int i0), .val (.int i1), .val (.int (1 : Int32)), .val (.int (0 : Int32)), .val (.int (0 : Int32)), .val (.ref a_TO), .unset, .unset]) rfl ?_
          show Steps p.tables e below (T89.setTop (mkF m 66 #[.val (.int i0), .val (.int i1), .val (.int (1 : Int32)), .val (.int (0 : Int32)), .val (.int (0 : Int32)), .val (.ref a_TO), .unset, .unset] [])) _
          refine XS.iconst X89.here hx rfl (hb hby at_66) ?_
          show Steps p.tables e below (T89.setTop (mkF m 67 #[.val (.int i0), .val (.int i1), .val (.int (1 : Int32)), .val (.int (0 : Int32)), .val (.int (0 : Int32)), .val (.ref a_TO), .unset, .unset] [(.int (4 : Int32))])) _
          refine st90 _ ?_
          show Steps p.tables e below (T90.setTop (mkF m 69 #[.val (.int i0), .val (.int i1), .val (.int (1 : Int32)), .val (.int (0 : Int32)), .val (.int (0 : Int32)), .val (.ref a_TO), .unset, .unset] [(.ref b90)])) _
          refine XS.dup X90.here hx rfl (hb hby at_69) rfl rfl ?_
          show Steps p.tables e below (T90.setTop (mkF m 70 #[.val (.int i0), .val (.int i1), .val (.int (1 : Int32)), .val (.int (0 : Int32)), .val (.int (0 : Int32)), .val (.ref a_TO), .unset, .unset] [(.ref b90), (.ref b90)])) _
          refine XS.iconst X90.here hx rfl (hb hby at_70) ?_
          show Steps p.tables e below (T90.setTop (mkF m 71 #[.val (.int i0), .val (.int i1), .val (.int (1 : Int32)), .val (.int (0 : Int32)), .val (.int (0 : Int32)), .val (.ref a_TO), .unset, .unset] [(.int (0 : Int32)), (.ref b90), (.ref b90)])) _
          refine XS.iconst X90.here hx rfl (hb hby at_71) ?_
          show Steps p.tables e below (T90.setTop (mkF m 72 #[.val (.int i0), .val (.int i1), .val (.int (1 : Int32)), .val (.int (0 : Int32)), .val (.int (0 : Int32)), .val (.ref a_TO), .unset, .unset] [(.int (0 : Int32)), (.int (0 : Int32)), (.ref b90), (.ref b90)])) _
          refine st92 _ ?_
          show Steps p.tables e below (T92.setTop (mkF m 73 #[.val (.int i0), .val (.int i1), .val (.int (1 : Int32)), .val (.int (0 : Int32)), .val (.int (0 : Int32)), .val (.ref a_TO), .unset, .unset] [(.ref b90)])) _
          refine XS.dup X92.here hx rfl (hb hby at_73) rfl rfl ?_
          show Steps p.tables e below (T92.setTop (mkF m 74 #[.val (.int i0), .val (.int i1), .val (.int (1 : Int32)), .val (.int (0 : Int32)), .val (.int (0 : Int32)), .val (.ref a_TO), .unset, .unset] [(.ref b90), (.ref b90)])) _
          refine XS.iconst X92.here hx rfl (hb hby at_74) ?_
          show Steps p.tables e below (T92.setTop (mkF m 75 #[.val (.int i0), .val (.int i1), .val (.int (1 : Int32)), .val (.int (0 : Int32)), .val (.int (0 : Int32)), .val (.ref a_TO), .unset, .unset] [(.int (1 : Int32)), (.ref b90), (.ref b90)])) _
          refine XS.iconst X92.here hx rfl (hb hby at_75) ?_
          show Steps p.tables e below (T92.setTop (mkF m 76 #[.val (.int i0), .val (.int i1), .val (.int (1 : Int32)), .val (.int (0 : Int32)), .val (.int (0 : Int32)), .val (.ref a_TO), .unset, .unset] [(.int (1 : Int32)), (.int (1 : Int32)), (.ref b90), (.ref b90)])) _
          refine st94 _ ?_
          show Steps p.tables e below (T94.setTop (mkF m 77 #[.val (.int i0), .val (.int i1), .val (.int (1 : Int32)), .val (.int (0 : Int32)), .val (.int (0 : Int32)), .val (.ref a_TO), .unset, .unset] [(.ref b90)])) _
          refine XS.dup X94.here hx rfl (hb hby at_77) rfl rfl ?_
          show Steps p.tables e below (T94.setTop (mkF m 78 #[.val (.int i0), .val (.int i1), .val (.int (1 : Int32)), .val (.int (0 : Int32)), .val (.int (0 : Int32)), .val (.ref a_TO), .unset, .unset] [(.ref b90), (.ref b90)])) _
          refine XS.iconst X94.here hx rfl (hb hby at_78) ?_
          show Steps p.tables e below (T94.setTop (mkF m 79 #[.val (.int i0), .val (.int i1), .val (.int (1 : Int32)), .val (.int (0 : Int32)), .val (.int (0 : Int32)), .val (.ref a_TO), .unset, .unset] [(.int (2 : Int32)), (.ref b90), (.ref b90)])) _
          refine XS.iconst X94.here hx rfl (hb hby at_79) ?_
          show Steps p.tables e below (T94.setTop (mkF m 80 #[.val (.int i0), .val (.int i1), .val (.int (1 : Int32)), .val (.int (0 : Int32)), .val (.int (0 : Int32)), .val (.ref a_TO), .unset, .unset] [(.int (0 : Int32)), (.int (2 : Int32)), (.ref b90), (.ref b90)])) _
          refine st96 _ ?_
          show Steps p.tables e below (T96.setTop (mkF m 81 #[.val (.int i0), .val (.int i1), .val (.int (1 : Int32)), .val (.int (0 : Int32)), .val (.int (0 : Int32)), .val (.ref a_TO), .unset, .unset] [(.ref b90)])) _
          refine XS.dup X96.here hx rfl (hb hby at_81) rfl rfl ?_
          show Steps p.tables e below (T96.setTop (mkF m 82 #[.val (.int i0), .val (.int i1), .val (.int (1 : Int32)), .val (.int (0 : Int32)), .val (.int (0 : Int32)), .val (.ref a_TO), .unset, .unset] [(.ref b90), (.ref b90)])) _
          refine XS.iconst X96.here hx rfl (hb hby at_82) ?_
          show Steps p.tables e below (T96.setTop (mkF m 83 #[.val (.int i0), .val (.int i1), .val (.int (1 : Int32)), .val (.int (0 : Int32)), .val (.int (0 : Int32)), .val (.ref a_TO), .unset, .unset] [(.int (3 : Int32)), (.ref b90), (.ref b90)])) _
          refine XS.iconst X96.here hx rfl (hb hby at_83) ?_
          show Steps p.tables e below (T96.setTop (mkF m 84 #[.val (.int i0), .val (.int i1), .val (.int (1 : Int32)), .val (.int (0 : Int32)), .val (.int (0 : Int32)), .val (.ref a_TO), .unset, .unset] [(.int (1 : Int32)), (.int (3 : Int32)), (.ref b90), (.ref b90)])) _
          refine st98 _ ?_
          show Steps p.tables e below (T98.setTop (mkF m 85 #[.val (.int i0), .val (.int i1), .val (.int (1 : Int32)), .val (.int (0 : Int32)), .val (.int (0 : Int32)), .val (.ref a_TO), .unset, .unset] [(.ref b90)])) _
          refine XS.astore X98.here hx rfl (hb hby at_85) rfl rfl (l' := #[.val (.int i0), .val (.int i1), .val (.int (1 : Int32)), .val (.int (0 : Int32)), .val (.int (0 : Int32)), .val (.ref a_TO), .val (.ref b90), .unset]) rfl ?_
          show Steps p.tables e below (T98.setTop (mkF m 87 #[.val (.int i0), .val (.int i1), .val (.int (1 : Int32)), .val (.int (0 : Int32)), .val (.int (0 : Int32)), .val (.ref a_TO), .val (.ref b90), .unset] [])) _
          refine XS.aload X98.here hx rfl (hb hby at_87) rfl rfl ?_
          show Steps p.tables e below (T98.setTop (mkF m 89 #[.val (.int i0), .val (.int i1), .val (.int (1 : Int32)), .val (.int (0 : Int32)), .val (.int (0 : Int32)), .val (.ref a_TO), .val (.ref b90), .unset] [(.ref b90)])) _
          refine XS.iloadN X98.here hx rfl (hb hby at_89) rfl ?_
          show Steps p.tables e below (T98.setTop (mkF m 90 #[.val (.int i0), .val (.int i1), .val (.int (1 : Int32)), .val (.int (0 : Int32)), .val (.int (0 : Int32)), .val (.ref a_TO), .val (.ref b90), .unset] [(.int (1 : Int32)), (.ref b90)])) _
          refine X98.baloadBooleans hx (j := (1 : Int32)) (v := (.int (1 : Int32))) (by rw [e98]; exact Ar99.1) (State.isArrayOf_alike hZ.alike Ar99.2.1) Ar99.2.2 hin99 hat99 (g := (mkF m 90 #[.val (.int i0), .val (.int i1), .val (.int (1 : Int32)), .val (.int (0 : Int32)), .val (.int (0 : Int32)), .val (.ref a_TO), .val (.ref b90), .unset] [(.int (1 : Int32)), (.ref b90)])) rfl rfl (hb hby at_90) _ ?_
          show Steps p.tables e below (T98.setTop (mkF m 91 #[.val (.int i0), .val (.int i1), .val (.int (1 : Int32)), .val (.int (0 : Int32)), .val (.int (0 : Int32)), .val (.ref a_TO), .val (.ref b90), .unset] [(.int (1 : Int32))])) _
          refine XS.istore X98.here hx rfl (hb hby at_91) rfl (l' := #[.val (.int i0), .val (.int i1), .val (.int (1 : Int32)), .val (.int (0 : Int32)), .val (.int (0 : Int32)), .val (.ref a_TO), .val (.ref b90), .val (.int (1 : Int32))]) rfl ?_
          show Steps p.tables e below (T98.setTop (mkF m 93 #[.val (.int i0), .val (.int i1), .val (.int (1 : Int32)), .val (.int (0 : Int32)), .val (.int (0 : Int32)), .val (.ref a_TO), .val (.ref b90), .val (.int (1 : Int32))] [])) _
          refine XS.aload X98.here hx rfl (hb hby at_93) rfl rfl ?_
          show Steps p.tables e below (T98.setTop (mkF m 95 #[.val (.int i0), .val (.int i1), .val (.int (1 : Int32)), .val (.int (0 : Int32)), .val (.int (0 : Int32)), .val (.ref a_TO), .val (.ref b90), .val (.int (1 : Int32))] [(.ref a_TO)])) _
          refine st101.trans ?_
          show Steps p.tables e below (T101.setTop (mkF m 98 #[.val (.int i0), .val (.int i1), .val (.int (1 : Int32)), .val (.int (0 : Int32)), .val (.int (0 : Int32)), .val (.ref a_TO), .val (.ref b90), .val (.int (1 : Int32))] [(.int (1 : Int32))])) _
          refine XS.iload X101.here hx rfl (hb hby at_98) rfl ?_
          show Steps p.tables e below (T101.setTop (mkF m 100 #[.val (.int i0), .val (.int i1), .val (.int (1 : Int32)), .val (.int (0 : Int32)), .val (.int (0 : Int32)), .val (.ref a_TO), .val (.ref b90), .val (.int (1 : Int32))] [(.int (1 : Int32)), (.int (1 : Int32))])) _
          refine XS.icmpNo X101.here hx rfl (hb hby at_100) rfl (by decide) ?_
          show Steps p.tables e below (T101.setTop (mkF m 103 #[.val (.int i0), .val (.int i1), .val (.int (1 : Int32)), .val (.int (0 : Int32)), .val (.int (0 : Int32)), .val (.ref a_TO), .val (.ref b90), .val (.int (1 : Int32))] [])) _
          refine XS.aload X101.here hx rfl (hb hby at_103) rfl rfl ?_
          show Steps p.tables e below (T101.setTop (mkF m 105 #[.val (.int i0), .val (.int i1), .val (.int (1 : Int32)), .val (.int (0 : Int32)), .val (.int (0 : Int32)), .val (.ref a_TO), .val (.ref b90), .val (.int (1 : Int32))] [(.ref a_TO)])) _
          refine XS.iloadN X101.here hx rfl (hb hby at_105) rfl ?_
          show Steps p.tables e below (T101.setTop (mkF m 106 #[.val (.int i0), .val (.int i1), .val (.int (1 : Int32)), .val (.int (0 : Int32)), .val (.int (0 : Int32)), .val (.ref a_TO), .val (.ref b90), .val (.int (1 : Int32))] [(.int (0 : Int32)), (.ref a_TO)])) _
          refine st103.trans ?_
          show Steps p.tables e below (T103.setTop (mkF m 109 #[.val (.int i0), .val (.int i1), .val (.int (1 : Int32)), .val (.int (0 : Int32)), .val (.int (0 : Int32)), .val (.ref a_TO), .val (.ref b90), .val (.int (1 : Int32))] [(.ref a_NONE)])) _
          refine st104.trans ?_
          show Steps p.tables e below (T104.setTop (mkF m 112 #[.val (.int i0), .val (.int i1), .val (.int (1 : Int32)), .val (.int (0 : Int32)), .val (.int (0 : Int32)), .val (.ref a_TO), .val (.ref b90), .val (.int (1 : Int32))] [(.int (0 : Int32))])) _
          refine XS.iloadN X104.here hx rfl (hb hby at_112) rfl ?_
          show Steps p.tables e below (T104.setTop (mkF m 113 #[.val (.int i0), .val (.int i1), .val (.int (1 : Int32)), .val (.int (0 : Int32)), .val (.int (0 : Int32)), .val (.ref a_TO), .val (.ref b90), .val (.int (1 : Int32))] [(.int (0 : Int32)), (.int (0 : Int32))])) _
          refine XS.icmpNo X104.here hx rfl (hb hby at_113) rfl (by decide) ?_
          show Steps p.tables e below (T104.setTop (mkF m 116 #[.val (.int i0), .val (.int i1), .val (.int (1 : Int32)), .val (.int (0 : Int32)), .val (.int (0 : Int32)), .val (.ref a_TO), .val (.ref b90), .val (.int (1 : Int32))] [])) _
          refine XS.aload X104.here hx rfl (hb hby at_116) rfl rfl ?_
          show Steps p.tables e below (T104.setTop (mkF m 118 #[.val (.int i0), .val (.int i1), .val (.int (1 : Int32)), .val (.int (0 : Int32)), .val (.int (0 : Int32)), .val (.ref a_TO), .val (.ref b90), .val (.int (1 : Int32))] [(.ref a_TO)])) _
          refine XS.iload X104.here hx rfl (hb hby at_118) rfl ?_
          show Steps p.tables e below (T104.setTop (mkF m 120 #[.val (.int i0), .val (.int i1), .val (.int (1 : Int32)), .val (.int (0 : Int32)), .val (.int (0 : Int32)), .val (.ref a_TO), .val (.ref b90), .val (.int (1 : Int32))] [(.int (0 : Int32)), (.ref a_TO)])) _
          refine st106.trans ?_
          show Steps p.tables e below (T106.setTop (mkF m 123 #[.val (.int i0), .val (.int i1), .val (.int (1 : Int32)), .val (.int (0 : Int32)), .val (.int (0 : Int32)), .val (.ref a_TO), .val (.ref b90), .val (.int (1 : Int32))] [(.ref a_TO)])) _
          refine st107.trans ?_
          show Steps p.tables e below (T107.setTop (mkF m 126 #[.val (.int i0), .val (.int i1), .val (.int (1 : Int32)), .val (.int (0 : Int32)), .val (.int (0 : Int32)), .val (.ref a_TO), .val (.ref b90), .val (.int (1 : Int32))] [(.int (1 : Int32))])) _
          refine XS.iload X107.here hx rfl (hb hby at_126) rfl ?_
          show Steps p.tables e below (T107.setTop (mkF m 128 #[.val (.int i0), .val (.int i1), .val (.int (1 : Int32)), .val (.int (0 : Int32)), .val (.int (0 : Int32)), .val (.ref a_TO), .val (.ref b90), .val (.int (1 : Int32))] [(.int (1 : Int32)), (.int (1 : Int32))])) _
          refine XS.icmpNo X107.here hx rfl (hb hby at_128) rfl (by decide) ?_
          show Steps p.tables e below (T107.setTop (mkF m 131 #[.val (.int i0), .val (.int i1), .val (.int (1 : Int32)), .val (.int (0 : Int32)), .val (.int (0 : Int32)), .val (.ref a_TO), .val (.ref b90), .val (.int (1 : Int32))] [])) _
          refine XS.iconst X107.here hx rfl (hb hby at_131) ?_
          show Steps p.tables e below (T107.setTop (mkF m 132 #[.val (.int i0), .val (.int i1), .val (.int (1 : Int32)), .val (.int (0 : Int32)), .val (.int (0 : Int32)), .val (.ref a_TO), .val (.ref b90), .val (.int (1 : Int32))] [(.int (1 : Int32))])) _
          refine XS.goto X107.here hx rfl (pc0 := 132) (pc' := 136) rfl (hb hby at_132) (by decide) (by decide) ?_
          show Steps p.tables e below (T107.setTop (mkF m 136 #[.val (.int i0), .val (.int i1), .val (.int (1 : Int32)), .val (.int (0 : Int32)), .val (.int (0 : Int32)), .val (.ref a_TO), .val (.ref b90), .val (.int (1 : Int32))] [(.int (1 : Int32))])) _
          exact retN X107 hx (t := .boolean) Bd.returns (by simp) (hb hby at_136) hr
        · show QL n0 _ T107.heap _
          rw [hh107]
          exact ⟨rfl, N107⟩
      · skip
        obtain ⟨T108, X108, e108, st108⟩ := getS2 X0 hx hZ hown (host := "") (Or.inl (hw _ (List.mem_of_getElem? (i := 36) rfl))) Via.refl e0 (Sta.ext O0.2 S_a_TO) (g := (mkF m 44 #[.val (.int i0), .val (.int i1), .val (.int (1 : Int32)), .val (.int (0 : Int32)), .val (.int (1 : Int32)), .unset, .unset, .unset] [])) rfl (hb hby at_44)
        obtain ⟨T109, h109, k109, X109, e109, E109, A109, st109⟩ := newP X108 hx hZ (hw _ (List.mem_of_getElem? (i := 3) rfl)) e108 (g := (mkF m 67 #[.val (.int i0), .val (.int i1), .val (.int (1 : Int32)), .val (.int (0 : Int32)), .val (.int (1 : Int32)), .val (.ref a_TO), .unset, .unset] [(.int (4 : Int32))])) rfl (hb hby at_67) rfl (by decide) (cap := 4) (by decide) (by decide) (by decide) (by decide)
        obtain ⟨b109, g109⟩ : ∃ z, z = h0.size := ⟨_, rfl⟩
        rw [← g109] at A109 st109
        have gb109 : n0 ≤ b109 := by rw [g109, ← O0.1]; exact O0.2.1
        have ne109_a_BOTH : a_BOTH ≠ b109 := by rw [g109]; exact Nat.ne_of_lt ((Exa.ext O0.2 X_a_BOTH)).lt
        have ne109_a_FROM : a_FROM ≠ b109 := by rw [g109]; exact Nat.ne_of_lt ((Exa.ext O0.2 X_a_FROM)).lt
        have ne109_a_NONE : a_NONE ≠ b109 := by rw [g109]; exact Nat.ne_of_lt ((Exa.ext O0.2 X_a_NONE)).lt
        have ne109_a_TO : a_TO ≠ b109 := by rw [g109]; exact Nat.ne_of_lt ((Exa.ext O0.2 X_a_TO)).lt
        have V109 : Arv Z h109 b109 k109 .boolean (4 : Int32) [(.int (0 : Int32)), (.int (0 : Int32)), (.int (0 : Int32)), (.int (0 : Int32))] (.int (0 : Int32)) := (Arv.new A109 (by decide)).pad (pad_rep [] (.int (0 : Int32)) 4)
        obtain ⟨cl110, Ar110, q110, S110, N110_, H110, G110⟩ := V109
        have hin110 : ¬ ((0 : Int32) < 0 ∨ cl110.slots.size ≤ ((0 : Int32)).toNatClampNeg) := inb_of S110 ⟨by decide, by decide⟩
        obtain ⟨T111, h111, X111, e111, W111, st111⟩ := stZ X109 hx hZ e109 Ar110 (j := (0 : Int32)) hin110 (g := (mkF m 72 #[.val (.int i0), .val (.int i1), .val (.int (1 : Int32)), .val (.int (0 : Int32)), .val (.int (1 : Int32)), .val (.ref a_TO), .unset, .unset] [(.int (0 : Int32)), (.int (0 : Int32)), (.ref b109), (.ref b109)])) rfl rfl (hb hby at_72)
        have V111 : Arv Z h111 b109 k109 .boolean (4 : Int32) [(.int (0 : Int32)), (.int (0 : Int32)), (.int (0 : Int32)), (.int (0 : Int32))] (.int (0 : Int32)) := Arv.set Ar110 q110 S110 N110_ H110 G110 (fits_nar_bool _) W111 0 rfl (Nat.le_of_ble_eq_true rfl)
        have N111 := Fr.snoc X111 N0 gb109
        obtain ⟨cl112, Ar112, q112, S112, N112_, H112, G112⟩ := V111
        have hin112 : ¬ ((1 : Int32) < 0 ∨ cl112.slots.size ≤ ((1 : Int32)).toNatClampNeg) := inb_of S112 ⟨by decide, by decide⟩
        obtain ⟨T113, h113, X113, e113, W113, st113⟩ := stZ X111 hx hZ e111 Ar112 (j := (1 : Int32)) hin112 (g := (mkF m 76 #[.val (.int i0), .val (.int i1), .val (.int (1 : Int32)), .val (.int (0 : Int32)), .val (.int (1 : Int32)), .val (.ref a_TO), .unset, .unset] [(.int (1 : Int32)), (.int (1 : Int32)), (.ref b109), (.ref b109)])) rfl rfl (hb hby at_76)
        have V113 : Arv Z h113 b109 k109 .boolean (4 : Int32) [(.int (0 : Int32)), (.int (1 : Int32)), (.int (0 : Int32)), (.int (0 : Int32))] (.int (0 : Int32)) := Arv.set Ar112 q112 S112 N112_ H112 G112 (fits_nar_bool _) W113 1 rfl (Nat.le_of_ble_eq_true rfl)
        have N113 := Fr.snoc X113 N111 gb109
        obtain ⟨cl114, Ar114, q114, S114, N114_, H114, G114⟩ := V113
        have hin114 : ¬ ((2 : Int32) < 0 ∨ cl114.slots.size ≤ ((2 : Int32)).toNatClampNeg) := inb_of S114 ⟨by decide, by decide⟩
        obtain ⟨T115, h115, X115, e115, W115, st115⟩ := stZ X113 hx hZ e113 Ar114 (j := (2 : Int32)) hin114 (g := (mkF m 80 #[.val (.int i0), .val (.int i1), .val (.int (1 : Int32)), .val (.int (0 : Int32)), .val (.int (1 : Int32)), .val (.ref a_TO), .unset, .unset] [(.int (0 : Int32)), (.int (2 : Int32)), (.ref b109), (.ref b109)])) rfl rfl (hb hby at_80)
        have V115 : Arv Z h115 b109 k109 .boolean (4 : Int32) [(.int (0 : Int32)), (.int (1 : Int32)), (.int (0 : Int32)), (.int (0 : Int32))] (.int (0 : Int32)) := Arv.set Ar114 q114 S114 N114_ H114 G114 (fits_nar_bool _) W115 2 rfl (Nat.le_of_ble_eq_true rfl)
        have N115 := Fr.snoc X115 N113 gb109
        obtain ⟨cl116, Ar116, q116, S116, N116_, H116, G116⟩ := V115
        have hin116 : ¬ ((3 : Int32) < 0 ∨ cl116.slots.size ≤ ((3 : Int32)).toNatClampNeg) := inb_of S116 ⟨by decide, by decide⟩
        obtain ⟨T117, h117, X117, e117, W117, st117⟩ := stZ X115 hx hZ e115 Ar116 (j := (3 : Int32)) hin116 (g := (mkF m 84 #[.val (.int i0), .val (.int i1), .val (.int (1 : Int32)), .val (.int (0 : Int32)), .val (.int (1 : Int32)), .val (.ref a_TO), .unset, .unset] [(.int (1 : Int32)), (.int (3 : Int32)), (.ref b109), (.ref b109)])) rfl rfl (hb hby at_84)
        have V117 : Arv Z h117 b109 k109 .boolean (4 : Int32) [(.int (0 : Int32)), (.int (1 : Int32)), (.int (0 : Int32)), (.int (1 : Int32))] (.int (0 : Int32)) := Arv.set Ar116 q116 S116 N116_ H116 G116 (fits_nar_bool _) W117 3 rfl (Nat.le_of_ble_eq_true rfl)
        have N117 := Fr.snoc X117 N115 gb109
        obtain ⟨cl118, Ar118, q118, S118, N118_, H118, G118⟩ := V117
        have hin118 : ¬ ((1 : Int32) < 0 ∨ cl118.slots.size ≤ ((1 : Int32)).toNatClampNeg) := inb_of S118 ⟨by decide, by decide⟩
        have hat118 : cl118.slots[((1 : Int32)).toNatClampNeg]? = some (.int (1 : Int32)) := H118.at hin118 rfl
        have O119 : Old Z n0 h117 := (((((O0.ext E109).wr W111 gb109).wr W113 gb109).wr W115 gb109).wr W117 gb109)
        have f121 := ((((((Exa.ext O0.2 X_a_TO).ext E109).wr W111).wr W113).wr W115).wr W117)
        obtain ⟨cq120, kq120, q120a, q120b, q120c⟩ := isOf hZ e117 f121
        obtain ⟨_, _, ⟨T120, L120, k120, n120⟩, -, X120, ⟨Lc120, hQ120, l120, y120, z120⟩, st120⟩ := X117.virtualBack hx (y := (⟨"com/example/carbonfold/carbonfold/model/RosterItem$Subscription", "hasTo", "()Z"⟩ : MethodName)) (z := (⟨"com/example/carbonfold/carbonfold/model/RosterItem$Subscription", "hasTo", "()Z"⟩ : MethodName)) hown (mvT hZ (hw _ (List.mem_of_getElem? (i := 4) rfl))) (mvT hZ (hw _ (List.mem_of_getElem? (i := 5) rfl))) (notFace_of_selects (args := #[]) (mvT hZ (hw _ (List.mem_of_getElem? (i := 7) rfl)))) (mvT hZ (hw _ (List.mem_of_getElem? (i := 7) rfl))) (mvT hZ (hw _ (List.mem_of_getElem? (i := 6) rfl))) (by decide) (backOf (W := 0) (rm_hasTo_11 l Z a0 hw [] a_NONE a_TO a_BOTH a_FROM h117 n0 O119 En) hZ (hw _ (List.mem_of_getElem? (i := 8) rfl)) (hw _ (List.mem_of_getElem? (i := 1) rfl)) (by decide) (by decide)) q120a q120c (g := (mkF m 95 #[.val (.int i0), .val (.int i1), .val (.int (1 : Int32)), .val (.int (0 : Int32)), .val (.int (1 : Int32)), .val (.ref a_TO), .val (.ref b109), .val (.int (1 : Int32))] [(.ref a_TO)])) rfl (by rw [hml]; rfl) (Steps.refl _) (argsL := []) (rest := []) (lenOf pd_0 rfl) rfl (by show 2 * 0 + _ ≤ _; exact Nat.le_of_eq rfl) (hb hby at_95) (fun _ _ => ⟨rfl, e117, (by decide : 1 + 0 ≤ _), (by decide : 4 + 0 ≤ _)⟩)
        dsimp only [Pt.U, Pt.locs, Pt.cells, Pt.slots] at X120 l120 y120 z120 st120 hQ120
        subst l120 y120 z120
        obtain ⟨rfl, N120q, hh120⟩ := hQ120
        have N120 := Fr.app N117 N120q
        obtain ⟨cq122, kq122, q122a, q122b, q122c⟩ := isOf hZ hh120 f121
        obtain ⟨_, _, ⟨T122, L122, k122, n122⟩, -, X122, ⟨Lc122, hQ122, l122, y122, z122⟩, st122⟩ := X120.virtualBack hx (y := (⟨"com/example/carbonfold/carbonfold/model/RosterItem$Subscription", "withTo", "(Z)Lcom/example/carbonfold/carbonfold/model/RosterItem$Subscription;"⟩ : MethodName)) (z := (⟨"com/example/carbonfold/carbonfold/model/RosterItem$Subscription", "withTo", "(Z)Lcom/example/carbonfold/carbonfold/model/RosterItem$Subscription;"⟩ : MethodName)) hown (mvT hZ (hw _ (List.mem_of_getElem? (i := 13) rfl))) (mvT hZ (hw _ (List.mem_of_getElem? (i := 14) rfl))) (notFace_of_selects (args := #[]) (mvT hZ (hw _ (List.mem_of_getElem? (i := 16) rfl)))) (mvT hZ (hw _ (List.mem_of_getElem? (i := 16) rfl))) (mvT hZ (hw _ (List.mem_of_getElem? (i := 15) rfl))) (by decide) (backOf (W := 0) (rm_withTo_12 l Z a0 hw [] a_NONE a_TO a_BOTH a_FROM h117 n0 O119 En) hZ (hw _ (List.mem_of_getElem? (i := 17) rfl)) (hw _ (List.mem_of_getElem? (i := 1) rfl)) (by decide) (by decide)) q122a q122c (g := (mkF m 106 #[.val (.int i0), .val (.int i1), .val (.int (1 : Int32)), .val (.int (0 : Int32)), .val (.int (1 : Int32)), .val (.ref a_TO), .val (.ref b109), .val (.int (1 : Int32))] [(.int (0 : Int32)), (.ref a_TO)])) rfl (by rw [hml]; rfl) (Steps.refl _) (argsL := [(.int (0 : Int32))]) (rest := []) (lenOf pd_2 rfl) rfl (by show 2 * 0 + _ ≤ _; exact Nat.le_of_eq rfl) (hb hby at_106) (fun _ _ => ⟨rfl, hh120, (by decide : 1 + 0 ≤ _), (by decide : 4 + 0 ≤ _)⟩)
        dsimp only [Pt.U, Pt.locs, Pt.cells, Pt.slots] at X122 l122 y122 z122 st122 hQ122
        subst l122 y122 z122
        obtain ⟨rfl, N122q, hh122⟩ := hQ122
        have N122 := Fr.app N120 N122q
        have f124 := ((((((Exa.ext O0.2 X_a_NONE).ext E109).wr W111).wr W113).wr W115).wr W117)
        obtain ⟨cq123, kq123, q123a, q123b, q123c⟩ := isOf hZ hh122 f124
        obtain ⟨_, _, ⟨T123, L123, k123, n123⟩, -, X123, ⟨Lc123, hQ123, l123, y123, z123⟩, st123⟩ := X122.virtualBack hx (y := (⟨"com/example/carbonfold/carbonfold/model/RosterItem$Subscription", "hasTo", "()Z"⟩ : MethodName)) (z := (⟨"com/example/carbonfold/carbonfold/model/RosterItem$Subscription", "hasTo", "()Z"⟩ : MethodName)) hown (mvT hZ (hw _ (List.mem_of_getElem? (i := 4) rfl))) (mvT hZ (hw _ (List.mem_of_getElem? (i := 5) rfl))) (notFace_of_selects (args := #[]) (mvT hZ (hw _ (List.mem_of_getElem? (i := 7) rfl)))) (mvT hZ (hw _ (List.mem_of_getElem? (i := 7) rfl))) (mvT hZ (hw _ (List.mem_of_getElem? (i := 6) rfl))) (by decide) (backOf (W := 0) (rm_hasTo_1 l Z a0 hw [] a_NONE a_TO a_BOTH a_FROM h117 n0 O119 En) hZ (hw _ (List.mem_of_getElem? (i := 8) rfl)) (hw _ (List.mem_of_getElem? (i := 1) rfl)) (by decide) (by decide)) q123a q123c (g := (mkF m 109 #[.val (.int i0), .val (.int i1), .val (.int (1 : Int32)), .val (.int (0 : Int32)), .val (.int (1 : Int32)), .val (.ref a_TO), .val (.ref b109), .val (.int (1 : Int32))] [(.ref a_NONE)])) rfl (by rw [hml]; rfl) (Steps.refl _) (argsL := []) (rest := []) (lenOf pd_0 rfl) rfl (by show 2 * 0 + _ ≤ _; exact Nat.le_of_eq rfl) (hb hby at_109) (fun _ _ => ⟨rfl, hh122, (by decide : 1 + 0 ≤ _), (by decide : 4 + 0 ≤ _)⟩)
        dsimp only [Pt.U, Pt.locs, Pt.cells, Pt.slots] at X123 l123 y123 z123 st123 hQ123
        subst l123 y123 z123
        obtain ⟨rfl, N123q, hh123⟩ := hQ123
        have N123 := Fr.app N122 N123q
        obtain ⟨cq125, kq125, q125a, q125b, q125c⟩ := isOf hZ hh123 f121
        obtain ⟨_, _, ⟨T125, L125, k125, n125⟩, -, X125, ⟨Lc125, hQ125, l125, y125, z125⟩, st125⟩ := X123.virtualBack hx (y := (⟨"com/example/carbonfold/carbonfold/model/RosterItem$Subscription", "withFrom", "(Z)Lcom/example/carbonfold/carbonfold/model/RosterItem$Subscription;"⟩ : MethodName)) (z := (⟨"com/example/carbonfold/carbonfold/model/RosterItem$Subscription", "withFrom", "(Z)Lcom/example/carbonfold/carbonfold/model/RosterItem$Subscription;"⟩ : MethodName)) hown (mvT hZ (hw _ (List.mem_of_getElem? (i := 28) rfl))) (mvT hZ (hw _ (List.mem_of_getElem? (i := 29) rfl))) (notFace_of_selects (args := #[]) (mvT hZ (hw _ (List.mem_of_getElem? (i := 31) rfl)))) (mvT hZ (hw _ (List.mem_of_getElem? (i := 31) rfl))) (mvT hZ (hw _ (List.mem_of_getElem? (i := 30) rfl))) (by decide) (backOf (W := 0) (rm_withFrom_15 l Z a0 hw [] a_NONE a_TO a_BOTH a_FROM h117 n0 O119 En) hZ (hw _ (List.mem_of_getElem? (i := 32) rfl)) (hw _ (List.mem_of_getElem? (i := 1) rfl)) (by decide) (by decide)) q125a q125c (g := (mkF m 120 #[.val (.int i0), .val (.int i1), .val (.int (1 : Int32)), .val (.int (0 : Int32)), .val (.int (1 : Int32)), .val (.ref a_TO), .val (.ref b109), .val (.int (1 : Int32))] [(.int (1 : Int32)), (.ref a_TO)])) rfl (by rw [hml]; rfl) (Steps.refl _) (argsL := [(.int (1 : Int32))]) (rest := []) (lenOf pd_2 rfl) rfl (by show 2 * 0 + _ ≤ _; exact Nat.le_of_eq rfl) (hb hby at_120) (fun _ _ => ⟨rfl, hh123, (by decide : 1 + 0 ≤ _), (by decide : 4 + 0 ≤ _)⟩)
        dsimp only [Pt.U, Pt.locs, Pt.cells, Pt.slots] at X125 l125 y125 z125 st125 hQ125
        subst l125 y125 z125
        obtain ⟨rfl, N125q, hh125⟩ := hQ125
        have N125 := Fr.app N123 N125q
        have f127 := ((((((Exa.ext O0.2 X_a_BOTH).ext E109).wr W111).wr W113).wr W115).wr W117)
        obtain ⟨cq126, kq126, q126a, q126b, q126c⟩ := isOf hZ hh125 f127
        obtain ⟨_, _, ⟨T126, L126, k126, n126⟩, -, X126, ⟨Lc126, hQ126, l126, y126, z126⟩, st126⟩ := X125.virtualBack hx (y := (⟨"com/example/carbonfold/carbonfold/model/RosterItem$Subscription", "hasTo", "()Z"⟩ : MethodName)) (z := (⟨"com/example/carbonfold/carbonfold/model/RosterItem$Subscription", "hasTo", "()Z"⟩ : MethodName)) hown (mvT hZ (hw _ (List.mem_of_getElem? (i := 4) rfl))) (mvT hZ (hw _ (List.mem_of_getElem? (i := 5) rfl))) (notFace_of_selects (args := #[]) (mvT hZ (hw _ (List.mem_of_getElem? (i := 7) rfl)))) (mvT hZ (hw _ (List.mem_of_getElem? (i := 7) rfl))) (mvT hZ (hw _ (List.mem_of_getElem? (i := 6) rfl))) (by decide) (backOf (W := 0) (rm_hasTo_17 l Z a0 hw [] a_NONE a_TO a_BOTH a_FROM h117 n0 O119 En) hZ (hw _ (List.mem_of_getElem? (i := 8) rfl)) (hw _ (List.mem_of_getElem? (i := 1) rfl)) (by decide) (by decide)) q126a q126c (g := (mkF m 123 #[.val (.int i0), .val (.int i1), .val (.int (1 : Int32)), .val (.int (0 : Int32)), .val (.int (1 : Int32)), .val (.ref a_TO), .val (.ref b109), .val (.int (1 : Int32))] [(.ref a_BOTH)])) rfl (by rw [hml]; rfl) (Steps.refl _) (argsL := []) (rest := []) (lenOf pd_0 rfl) rfl (by show 2 * 0 + _ ≤ _; exact Nat.le_of_eq rfl) (hb hby at_123) (fun _ _ => ⟨rfl, hh125, (by decide : 1 + 0 ≤ _), (by decide : 4 + 0 ≤ _)⟩)
        dsimp only [Pt.U, Pt.locs, Pt.cells, Pt.slots] at X126 l126 y126 z126 st126 hQ126
        subst l126 y126 z126
        obtain ⟨rfl, N126q, hh126⟩ := hQ126
        have N126 := Fr.app N125 N126q
        obtain ⟨fs, hr, hrun, hended, hW, hsame⟩ := X126.leave (v := some (.int (1 : Int32))) (fun h => by rw [Bd.returns] at h; cases h)
        refine ⟨_, _, pre87 _ ?_, hrun, hended, _, _, rfl, ?_, ⟨_, rfl⟩, hW, hsame.mono (by decide) (by decide)⟩
        · skip
          show Steps p.tables e below (s₁.setTop (mkF m 19 #[.val (.int i0), .val (.int i1), .val (.int (1 : Int32)), .val (.int (0 : Int32)), .unset, .unset, .unset, .unset] [(.int (i1 &&& (2 : Int32)))])) _
          rw [hk88]
          show Steps p.tables e below (s₁.setTop (mkF m 19 #[.val (.int i0), .val (.int i1), .val (.int (1 : Int32)), .val (.int (0 : Int32)), .unset, .unset, .unset, .unset] [(.int (2 : Int32))])) _
          refine XS.ifNo X0.here hx rfl (hb hby at_19) rfl (by decide) ?_
          show Steps p.tables e below (s₁.setTop (mkF m 22 #[.val (.int i0), .val (.int i1), .val (.int (1 : Int32)), .val (.int (0 : Int32)), .unset, .unset, .unset, .unset] [])) _
          refine XS.iconst X0.here hx rfl (hb hby at_22) ?_
          show Steps p.tables e below (s₁.setTop (mkF m 23 #[.val (.int i0), .val (.int i1), .val (.int (1 : Int32)), .val (.int (0 : Int32)), .unset, .unset, .unset, .unset] [(.int (1 : Int32))])) _
          refine XS.goto X0.here hx rfl (pc0 := 23) (pc' := 27) rfl (hb hby at_23) (by decide) (by decide) ?_
          show Steps p.tables e below (s₁.setTop (mkF m 27 #[.val (.int i0), .val (.int i1), .val (.int (1 : Int32)), .val (.int (0 : Int32)), .unset, .unset, .unset, .unset] [(.int (1 : Int32))])) _
          refine XS.istore X0.here hx rfl (hb hby at_27) rfl (l' := #[.val (.int i0), .val (.int i1), .val (.int (1 : Int32)), .val (.int (0 : Int32)), .val (.int (1 : Int32)), .unset, .unset, .unset]) rfl ?_
          show Steps p.tables e below (s₁.setTop (mkF m 29 #[.val (.int i0), .val (.int i1), .val (.int (1 : Int32)), .val (.int (0 : Int32)), .val (.int (1 : Int32)), .unset, .unset, .unset] [])) _
          refine XS.iloadN X0.here hx rfl (hb hby at_29) rfl ?_
          show Steps p.tables e below (s₁.setTop (mkF m 30 #[.val (.int i0), .val (.int i1), .val (.int (1 : Int32)), .val (.int (0 : Int32)), .val (.int (1 : Int32)), .unset, .unset, .unset] [(.int (1 : Int32))])) _
          refine XS.ifYes X0.here hx rfl (pc0 := 30) (pc' := 39) rfl (hb hby at_30) rfl (by decide) (by decide) (by decide) ?_
          show Steps p.tables e below (s₁.setTop (mkF m 39 #[.val (.int i0), .val (.int i1), .val (.int (1 : Int32)), .val (.int (0 : Int32)), .val (.int (1 : Int32)), .unset, .unset, .unset] [])) _
          refine XS.iloadN X0.here hx rfl (hb hby at_39) rfl ?_
          show Steps p.tables e below (s₁.setTop (mkF m 40 #[.val (.int i0), .val (.int i1), .val (.int (1 : Int32)), .val (.int (0 : Int32)), .val (.int (1 : Int32)), .unset, .unset, .unset] [(.int (1 : Int32))])) _
          refine XS.iconst X0.here hx rfl (hb hby at_40) ?_
          show Steps p.tables e below (s₁.setTop (mkF m 41 #[.val (.int i0), .val (.int i1), .val (.int (1 : Int32)), .val (.int (0 : Int32)), .val (.int (1 : Int32)), .unset, .unset, .unset] [(.int (1 : Int32)), (.int (1 : Int32))])) _
          refine XS.icmpNo X0.here hx rfl (hb hby at_41) rfl (by decide) ?_
          show Steps p.tables e below (s₁.setTop (mkF m 44 #[.val (.int i0), .val (.int i1), .val (.int (1 : Int32)), .val (.int (0 : Int32)), .val (.int (1 : Int32)), .unset, .unset, .unset] [])) _
          refine st108 _ ?_
          show Steps p.tables e below (T108.setTop (mkF m 47 #[.val (.int i0), .val (.int i1), .val (.int (1 : Int32)), .val (.int (0 : Int32)), .val (.int (1 : Int32)), .unset, .unset, .unset] [(.ref a_TO)])) _
          refine XS.goto X108.here hx rfl (pc0 := 47) (pc' := 64) rfl (hb hby at_47) (by decide) (by decide) ?_
          show Steps p.tables e below (T108.setTop (mkF m 64 #[.val (.int i0), .val (.int i1), .val (.int (1 : Int32)), .val (.int (0 : Int32)), .val (.int (1 : Int32)), .unset, .unset, .unset] [(.ref a_TO)])) _
          refine XS.astore X108.here hx rfl (hb hby at_64) rfl rfl (l' := #[.val (.int i0), .val (.int i1), .val (.int (1 : Int32)), .val (.int (0 : Int32)), .val (.int (1 : Int32)), .val (.ref a_TO), .unset, .unset]) rfl ?_
          show Steps p.tables e below (T108.setTop (mkF m 66 #[.val (.int i0), .val (.int i1), .val (.int (1 : Int32)), .val (.int (0 : Int32)), .val (.int (1 : Int32)), .val (.ref a_TO), .unset, .unset] [])) _
          refine XS.iconst X108.here hx rfl (hb hby at_66) ?_
          show Steps p.tables e below (T108.setTop (mkF m 67 #[.val (.int i0), .val (.int i1), .val (.int (1 : Int32)), .val (.int (0 : Int32)), .val (.int (1 : Int32)), .val (.ref a_TO), .unset, .unset] [(.int (4 : Int32))])) _
          refine st109 _ ?_
          show Steps p.tables e below (T109.setTop (mkF m 69 #[.val (.int i0), .val (.int i1), .val (.int (1 : Int32)), .val (.int (0 : Int32)), .val (.int (1 : Int32)), .val (.ref a_TO), .unset, .unset] [(.ref b109)])) _
          refine XS.dup X109.here hx rfl (hb hby at_69) rfl rfl ?_
          show Steps p.tables e below (T109.setTop (mkF m 70 #[.val (.int i0), .val (.int i1), .val (.int (1 : Int32)), .val (.int (0 : Int32)), .val (.int (1 : Int32)), .val (.ref a_TO), .unset, .unset] [(.ref b109), (.ref b109)])) _
          refine XS.iconst X109.here hx rfl (hb hby at_70) ?_
          show Steps p.tables e below (T109.setTop (mkF m 71 #[.val (.int i0), .val (.int i1), .val (.int (1 : Int32)), .val (.int (0 : Int32)), .val (.int (1 : Int32)), .val (.ref a_TO), .unset, .unset] [(.int (0 : Int32)), (.ref b109), (.ref b109)])) _
          refine XS.iconst X109.here hx rfl (hb hby at_71) ?_
          show Steps p.tables e below (T109.setTop (mkF m 72 #[.val (.int i0), .val (.int i1), .val (.int (1 : Int32)), .val (.int (0 : Int32)), .val (.int (1 : Int32)), .val (.ref a_TO), .unset, .unset] [(.int (0 : Int32)), (.int (0 : Int32)), (.ref b109), (.ref b109)])) _
          refine st111 _ ?_
          show Steps p.tables e below (T111.setTop (mkF m 73 #[.val (.int i0), .val (.int i1), .val (.int (1 : Int32)), .val (.int (0 : Int32)), .val (.int (1 : Int32)), .val (.ref a_TO), .unset, .unset] [(.ref b109)])) _
          refine XS.dup X111.here hx rfl (hb hby at_73) rfl rfl ?_
          show Steps p.tables e below (T111.setTop (mkF m 74 #[.val (.int i0), .val (.int i1), .val (.int (1 : Int32)), .val (.int (0 : Int32)), .val (.int (1 : Int32)), .val (.ref a_TO), .unset, .unset] [(.ref b109), (.ref b109)])) _
          refine XS.iconst X111.here hx rfl (hb hby at_74) ?_
          show Steps p.tables e below (T111.setTop (mkF m 75 #[.val (.int i0), .val (.int i1), .val (.int (1 : Int32)), .val (.int (0 : Int32)), .val (.int (1 : Int32)), .val (.ref a_TO), .unset, .unset] [(.int (1 : Int32)), (.ref b109), (.ref b109)])) _
          refine XS.iconst X111.here hx rfl (hb hby at_75) ?_
          show Steps p.tables e below (T111.setTop (mkF m 76 #[.val (.int i0), .val (.int i1), .val (.int (1 : Int32)), .val (.int (0 : Int32)), .val (.int (1 : Int32)), .val (.ref a_TO), .unset, .unset] [(.int (1 : Int32)), (.int (1 : Int32)), (.ref b109), (.ref b109)])) _
          refine st113 _ ?_
          show Steps p.tables e below (T113.setTop (mkF m 77 #[.val (.int i0), .val (.int i1), .val (.int (1 : Int32)), .val (.int (0 : Int32)), .val (.int (1 : Int32)), .val (.ref a_TO), .unset, .unset] [(.ref b109)])) _
          refine XS.dup X113.here hx rfl (hb hby at_77) rfl rfl ?_
          show Steps p.tables e below (T113.setTop (mkF m 78 #[.val (.int i0), .val (.int i1), .val (.int (1 : Int32)), .val (.int (0 : Int32)), .val (.int (1 : Int32)), .val (.ref a_TO), .unset, .unset] [(.ref b109), (.ref b109)])) _
          refine XS.iconst X113.here hx rfl (hb hby at_78) ?_
          show Steps p.tables e below (T113.setTop (mkF m 79 #[.val (.int i0), .val (.int i1), .val (.int (1 : Int32)), .val (.int (0 : Int32)), .val (.int (1 : Int32)), .val (.ref a_TO), .unset, .unset] [(.int (2 : Int32)), (.ref b109), (.ref b109)])) _
          refine XS.iconst X113.here hx rfl (hb hby at_79) ?_
          show Steps p.tables e below (T113.setTop (mkF m 80 #[.val (.int i0), .val (.int i1), .val (.int (1 : Int32)), .val (.int (0 : Int32)), .val (.int (1 : Int32)), .val (.ref a_TO), .unset, .unset] [(.int (0 : Int32)), (.int (2 : Int32)), (.ref b109), (.ref b109)])) _
          refine st115 _ ?_
          show Steps p.tables e below (T115.setTop (mkF m 81 #[.val (.int i0), .val (.int i1), .val (.int (1 : Int32)), .val (.int (0 : Int32)), .val (.int (1 : Int32)), .val (.ref a_TO), .unset, .unset] [(.ref b109)])) _
          refine XS.dup X115.here hx rfl (hb hby at_81) rfl rfl ?_
          show Steps p.tables e below (T115.setTop (mkF m 82 #[.val (.int i0), .val (.int i1), .val (.int (1 : Int32)), .val (.int (0 : Int32)), .val (.int (1 : Int32)), .val (.ref a_TO), .unset, .unset] [(.ref b109), (.ref b109)])) _
          refine XS.iconst X115.here hx rfl (hb hby at_82) ?_
          show Steps p.tables e below (T115.setTop (mkF m 83 #[.val (.int i0), .val (.int i1), .val (.int (1 : Int32)), .val (.int (0 : Int32)), .val (.int (1 : Int32)), .val (.ref a_TO), .unset, .unset] [(.int (3 : Int32)), (.ref b109), (.ref b109)])) _
          refine XS.iconst X115.here hx rfl (hb hby at_83) ?_
          show Steps p.tables e below (T115.setTop (mkF m 84 #[.val (.int i0), .val (.int i1), .val (.int (1 : Int32)), .val (.int (0 : Int32)), .val (.int (1 : Int32)), .val (.ref a_TO), .unset, .unset] [(.int (1 : Int32)), (.int (3 : Int32)), (.ref b109), (.ref b109)])) _
          refine st117 _ ?_
          show Steps p.tables e below (T117.setTop (mkF m 85 #[.val (.int i0), .val (.int i1), .val (.int (1 : Int32)), .val (.int (0 : Int32)), .val (.int (1 : Int32)), .val (.ref a_TO), .unset, .unset] [(.ref b109)])) _
          refine XS.astore X117.here hx rfl (hb hby at_85) rfl rfl (l' := #[.val (.int i0), .val (.int i1), .val (.int (1 : Int32)), .val (.int (0 : Int32)), .val (.int (1 : Int32)), .val (.ref a_TO), .val (.ref b109), .unset]) rfl ?_
          show Steps p.tables e below (T117.setTop (mkF m 87 #[.val (.int i0), .val (.int i1), .val (.int (1 : Int32)), .val (.int (0 : Int32)), .val (.int (1 : Int32)), .val (.ref a_TO), .val (.ref b109), .unset] [])) _
          refine XS.aload X117.here hx rfl (hb hby at_87) rfl rfl ?_
          show Steps p.tables e below (T117.setTop (mkF m 89 #[.val (.int i0), .val (.int i1), .val (.int (1 : Int32)), .val (.int (0 : Int32)), .val (.int (1 : Int32)), .val (.ref a_TO), .val (.ref b109), .unset] [(.ref b109)])) _
          refine XS.iloadN X117.here hx rfl (hb hby at_89) rfl ?_
          show Steps p.tables e below (T117.setTop (mkF m 90 #[.val (.int i0), .val (.int i1), .val (.int (1 : Int32)), .val (.int (0 : Int32)), .val (.int (1 : Int32)), .val (.ref a_TO), .val (.ref b109), .unset] [(.int (1 : Int32)), (.ref b109)])) _
          refine X117.baloadBooleans hx (j := (1 : Int32)) (v := (.int (1 : Int32))) (by rw [e117]; exact Ar118.1) (State.isArrayOf_alike hZ.alike Ar118.2.1) Ar118.2.2 hin118 hat118 (g := (mkF m 90 #[.val (.int i0), .val (.int i1), .val (.int (1 : Int32)), .val (.int (0 : Int32)), .val (.int (1 : Int32)), .val (.ref a_TO), .val (.ref b109), .unset] [(.int (1 : Int32)), (.ref b109)])) rfl rfl (hb hby at_90) _ ?_
          show Steps p.tables e below (T117.setTop (mkF m 91 #[.val (.int i0), .val (.int i1), .val (.int (1 : Int32)), .val (.int (0 : Int32)), .val (.int (1 : Int32)), .val (.ref a_TO), .val (.ref b109), .unset] [(.int (1 : Int32))])) _
          refine XS.istore X117.here hx rfl (hb hby at_91) rfl (l' := #[.val (.int i0), .val (.int i1), .val (.int (1 : Int32)), .val (.int (0 : Int32)), .val (.int (1 : Int32)), .val (.ref a_TO), .val (.ref b109), .val (.int (1 : Int32))]) rfl ?_
          show Steps p.tables e below (T117.setTop (mkF m 93 #[.val (.int i0), .val (.int i1), .val (.int (1 : Int32)), .val (.int (0 : Int32)), .val (.int (1 : Int32)), .val (.ref a_TO), .val (.ref b109), .val (.int (1 : Int32))] [])) _
          refine XS.aload X117.here hx rfl (hb hby at_93) rfl rfl ?_
          show Steps p.tables e below (T117.setTop (mkF m 95 #[.val (.int i0), .val (.int i1), .val (.int (1 : Int32)), .val (.int (0 : Int32)), .val (.int (1 : Int32)), .val (.ref a_TO), .val (.ref b109), .val (.int (1 : Int32))] [(.ref a_TO)])) _
          refine st120.trans ?_
          show Steps p.tables e below (T120.setTop (mkF m 98 #[.val (.int i0), .val (.int i1), .val (.int (1 : Int32)), .val (.int (0 : Int32)), .val (.int (1 : Int32)), .val (.ref a_TO), .val (.ref b109), .val (.int (1 : Int32))] [(.int (1 : Int32))])) _
          refine XS.iload X120.here hx rfl (hb hby at_98) rfl ?_
          show Steps p.tables e below (T120.setTop (mkF m 100 #[.val (.int i0), .val (.int i1), .val (.int (1 : Int32)), .val (.int (0 : Int32)), .val (.int (1 : Int32)), .val (.ref a_TO), .val (.ref b109), .val (.int (1 : Int32))] [(.int (1 : Int32)), (.int (1 : Int32))])) _
          refine XS.icmpNo X120.here hx rfl (hb hby at_100) rfl (by decide) ?_
          show Steps p.tables e below (T120.setTop (mkF m 103 #[.val (.int i0), .val (.int i1), .val (.int (1 : Int32)), .val (.int (0 : Int32)), .val (.int (1 : Int32)), .val (.ref a_TO), .val (.ref b109), .val (.int (1 : Int32))] [])) _
          refine XS.aload X120.here hx rfl (hb hby at_103) rfl rfl ?_
          show Steps p.tables e below (T120.setTop (mkF m 105 #[.val (.int i0), .val (.int i1), .val (.int (1 : Int32)), .val (.int (0 : Int32)), .val (.int (1 : Int32)), .val (.ref a_TO), .val (.ref b109), .val (.int (1 : Int32))] [(.ref a_TO)])) _
          refine XS.iloadN X120.here hx rfl (hb hby at_105) rfl ?_
          show Steps p.tables e below (T120.setTop (mkF m 106 #[.val (.int i0), .val (.int i1), .val (.int (1 : Int32)), .val (.int (0 : Int32)), .val (.int (1 : Int32)), .val (.ref a_TO), .val (.ref b109), .val (.int (1 : Int32))] [(.int (0 : Int32)), (.ref a_TO)])) _
          refine st122.trans ?_
          show Steps p.tables e below (T122.setTop (mkF m 109 #[.val (.int i0), .val (.int i1), .val (.int (1 : Int32)), .val (.int (0 : Int32)), .val (.int (1 : Int32)), .val (.ref a_TO), .val (.ref b109), .val (.int (1 : Int32))] [(.ref a_NONE)])) _
          refine st123.trans ?_
          show Steps p.tables e below (T123.setTop (mkF m 112 #[.val (.int i0), .val (.int i1), .val (.int (1 : Int32)), .val (.int (0 : Int32)), .val (.int (1 : Int32)), .val (.ref a_TO), .val (.ref b109), .val (.int (1 : Int32))] [(.int (0 : Int32))])) _
          refine XS.iloadN X123.here hx rfl (hb hby at_112) rfl ?_
          show Steps p.tables e below (T123.setTop (mkF m 113 #[.val (.int i0), .val (.int i1), .val (.int (1 : Int32)), .val (.int (0 : Int32)), .val (.int (1 : Int32)), .val (.ref a_TO), .val (.ref b109), .val (.int (1 : Int32))] [(.int (0 : Int32)), (.int (0 : Int32))])) _
          refine XS.icmpNo X123.here hx rfl (hb hby at_113) rfl (by decide) ?_
          show Steps p.tables e below (T123.setTop (mkF m 116 #[.val (.int i0), .val (.int i1), .val (.int (1 : Int32)), .val (.int (0 : Int32)), .val (.int (1 : Int32)), .val (.ref a_TO), .val (.ref b109), .val (.int (1 : Int32))] [])) _
          refine XS.aload X123.here hx rfl (hb hby at_116) rfl rfl ?_
          show Steps p.tables e below (T123.setTop (mkF m 118 #[.val (.int i0), .val (.int i1), .val (.int (1 : Int32)), .val (.int (0 : Int32)), .val (.int (1 : Int32)), .val (.ref a_TO), .val (.ref b109), .val (.int (1 : Int32))] [(.ref a_TO)])) _
          refine XS.iload X123.here hx rfl (hb hby at_118) rfl ?_
          show Steps p.tables e below (T123.setTop (mkF m 120 #[.val (.int i0), .val (.int i1), .val (.int (1 : Int32)), .val (.int (0 : Int32)), .val (.int (1 : Int32)), .val (.ref a_TO), .val (.ref b109), .val (.int (1 : Int32))] [(.int (1 : Int32)), (.ref a_TO)])) _
          refine st125.trans ?_
          show Steps p.tables e below (T125.setTop (mkF m 123 #[.val (.int i0), .val (.int i1), .val (.int (1 : Int32)), .val (.int (0 : Int32)), .val (.int (1 : Int32)), .val (.ref a_TO), .val (.ref b109), .val (.int (1 : Int32))] [(.ref a_BOTH)])) _
          refine st126.trans ?_
          show Steps p.tables e below (T126.setTop (mkF m 126 #[.val (.int i0), .val (.int i1), .val (.int (1 : Int32)), .val (.int (0 : Int32)), .val (.int (1 : Int32)), .val (.ref a_TO), .val (.ref b109), .val (.int (1 : Int32))] [(.int (1 : Int32))])) _
          refine XS.iload X126.here hx rfl (hb hby at_126) rfl ?_
          show Steps p.tables e below (T126.setTop (mkF m 128 #[.val (.int i0), .val (.int i1), .val (.int (1 : Int32)), .val (.int (0 : Int32)), .val (.int (1 : Int32)), .val (.ref a_TO), .val (.ref b109), .val (.int (1 : Int32))] [(.int (1 : Int32)), (.int (1 : Int32))])) _
          refine XS.icmpNo X126.here hx rfl (hb hby at_128) rfl (by decide) ?_
          show Steps p.tables e below (T126.setTop (mkF m 131 #[.val (.int i0), .val (.int i1), .val (.int (1 : Int32)), .val (.int (0 : Int32)), .val (.int (1 : Int32)), .val (.ref a_TO), .val (.ref b109), .val (.int (1 : Int32))] [])) _
          refine XS.iconst X126.here hx rfl (hb hby at_131) ?_
          show Steps p.tables e below (T126.setTop (mkF m 132 #[.val (.int i0), .val (.int i1), .val (.int (1 : Int32)), .val (.int (0 : Int32)), .val (.int (1 : Int32)), .val (.ref a_TO), .val (.ref b109), .val (.int (1 : Int32))] [(.int (1 : Int32))])) _
          refine XS.goto X126.here hx rfl (pc0 := 132) (pc' := 136) rfl (hb hby at_132) (by decide) (by decide) ?_
          show Steps p.tables e below (T126.setTop (mkF m 136 #[.val (.int i0), .val (.int i1), .val (.int (1 : Int32)), .val (.int (0 : Int32)), .val (.int (1 : Int32)), .val (.ref a_TO), .val (.ref b109), .val (.int (1 : Int32))] [(.int (1 : Int32))])) _
          exact retN X126 hx (t := .boolean) Bd.returns (by simp) (hb hby at_136) hr
        · show QL n0 _ T126.heap _
          rw [hh126]
          exact ⟨rfl, N126⟩
    · skip
      have pre128 : ∀ t, Steps p.tables e below (s₁.setTop (mkF m 19 #[.val (.int i0), .val (.int i1), .val (.int (1 : Int32)), .val (.int (1 : Int32)), .unset, .unset, .unset, .unset] [(.int (i1 &&& (2 : Int32)))])) t → Steps p.tables e below (s₁.setTop (entryFrame m #[(.int i0), (.int i1)] maxLocals)) t := fun t kt => pre85 t (by
          show Steps p.tables e below (s₁.setTop (mkF m 7 #[.val (.int i0), .val (.int i1), .val (.int (1 : Int32)), .unset, .unset, .unset, .unset, .unset] [(.int (i1 &&& (1 : Int32)))])) _
          rw [hk86]
          show Steps p.tables e below (s₁.setTop (mkF m 7 #[.val (.int i0), .val (.int i1), .val (.int (1 : Int32)), .unset, .unset, .unset, .unset, .unset] [(.int (1 : Int32))])) _
          refine XS.ifNo X0.here hx rfl (hb hby at_7) rfl (by decide) ?_
          show Steps p.tables e below (s₁.setTop (mkF m 10 #[.val (.int i0), .val (.int i1), .val (.int (1 : Int32)), .unset, .unset, .unset, .unset, .unset] [])) _
          refine XS.iconst X0.here hx rfl (hb hby at_10) ?_
          show Steps p.tables e below (s₁.setTop (mkF m 11 #[.val (.int i0), .val (.int i1), .val (.int (1 : Int32)), .unset, .unset, .unset, .unset, .unset] [(.int (1 : Int32))])) _
          refine XS.goto X0.here hx rfl (pc0 := 11) (pc' := 15) rfl (hb hby at_11) (by decide) (by decide) ?_
          show Steps p.tables e below (s₁.setTop (mkF m 15 #[.val (.int i0), .val (.int i1), .val (.int (1 : Int32)), .unset, .unset, .unset, .unset, .unset] [(.int (1 : Int32))])) _
          refine XS.istoreN X0.here hx rfl (hb hby at_15) rfl (l' := #[.val (.int i0), .val (.int i1), .val (.int (1 : Int32)), .val (.int (1 : Int32)), .unset, .unset, .unset, .unset]) rfl ?_
          show Steps p.tables e below (s₁.setTop (mkF m 16 #[.val (.int i0), .val (.int i1), .val (.int (1 : Int32)), .val (.int (1 : Int32)), .unset, .unset, .unset, .unset] [])) _
          refine XS.iloadN X0.here hx rfl (hb hby at_16) rfl ?_
          show Steps p.tables e below (s₁.setTop (mkF m 17 #[.val (.int i0), .val (.int i1), .val (.int (1 : Int32)), .val (.int (1 : Int32)), .unset, .unset, .unset, .unset] [(.int i1)])) _
          refine XS.iconst X0.here hx rfl (hb hby at_17) ?_
          show Steps p.tables e below (s₁.setTop (mkF m 18 #[.val (.int i0), .val (.int i1), .val (.int (1 : Int32)), .val (.int (1 : Int32)), .unset, .unset, .unset, .unset] [(.int (2 : Int32)), (.int i1)])) _
          refine XS.iand X0.here hx rfl (hb hby at_18) rfl ?_
          exact kt)
      rcases own_c i1 with hk129 | hk129
      · skip
        obtain ⟨T130, X130, e130, st130⟩ := getS2 X0 hx hZ hown (host := "") (Or.inl (hw _ (List.mem_of_getElem? (i := 36) rfl))) Via.refl e0 (Sta.ext O0.2 S_a_TO) (g := (mkF m 44 #[.val (.int i0), .val (.int i1), .val (.int (1 : Int32)), .val (.int (1 : Int32)), .val (.int (0 : Int32)), .unset, .unset, .unset] [])) rfl (hb hby at_44)
        obtain ⟨T131, h131, k131, X131, e131, E131, A131, st131⟩ := newP X130 hx hZ (hw _ (List.mem_of_getElem? (i := 3) rfl)) e130 (g := (mkF m 67 #[.val (.int i0), .val (.int i1), .val (.int (1 : Int32)), .val (.int (1 : Int32)), .val (.int (0 : Int32)), .val (.ref a_TO), .unset, .unset] [(.int (4 : Int32))])) rfl (hb hby at_67) rfl (by decide) (cap := 4) (by decide) (by decide) (by decide) (by decide)
        obtain ⟨b131, g131⟩ : ∃ z, z = h0.size := ⟨_, rfl⟩
        rw [← g131] at A131 st131
        have gb131 : n0 ≤ b131 := by rw [g131, ← O0.1]; exact O0.2.1
        have ne131_a_BOTH : a_BOTH ≠ b131 := by rw [g131]; exact Nat.ne_of_lt ((Exa.ext O0.2 X_a_BOTH)).lt
        have ne131_a_FROM : a_FROM ≠ b131 := by rw [g131]; exact Nat.ne_of_lt ((Exa.ext O0.2 X_a_FROM)).lt
        have ne131_a_NONE : a_NONE ≠ b131 := by rw [g131]; exact Nat.ne_of_lt ((Exa.ext O0.2 X_a_NONE)).lt
        have ne131_a_TO : a_TO ≠ b131 := by rw [g131]; exact Nat.ne_of_lt ((Exa.ext O0.2 X_a_TO)).lt
        have V131 : Arv Z h131 b131 k131 .boolean (4 : Int32) [(.int (0 : Int32)), (.int (0 : Int32)), (.int (0 : Int32)), (.int (0 : Int32))] (.int (0 : Int32)) := (Arv.new A131 (by decide)).pad (pad_rep [] (.int (0 : Int32)) 4)
        obtain ⟨cl132, Ar132, q132, S132, N132_, H132, G132⟩ := V131
        have hin132 : ¬ ((0 : Int32) < 0 ∨ cl132.slots.size ≤ ((0 : Int32)).toNatClampNeg) := inb_of S132 ⟨by decide, by decide⟩
        obtain ⟨T133, h133, X133, e133, W133, st133⟩ := stZ X131 hx hZ e131 Ar132 (j := (0 : Int32)) hin132 (g := (mkF m 72 #[.val (.int i0), .val (.int i1), .val (.int (1 : Int32)), .val (.int (1 : Int32)), .val (.int (0 : Int32)), .val (.ref a_TO), .unset, .unset] [(.int (0 : Int32)), (.int (0 : Int32)), (.ref b131), (.ref b131)])) rfl rfl (hb hby at_72)
        have V133 : Arv Z h133 b131 k131 .boolean (4 : Int32) [(.int (0 : Int32)), (.int (0 : Int32)), (.int (0 : Int32)), (.int (0 : Int32))] (.int (0 : Int32)) := Arv.set Ar132 q132 S132 N132_ H132 G132 (fits_nar_bool _) W133 0 rfl (Nat.le_of_ble_eq_true rfl)
        have N133 := Fr.snoc X133 N0 gb131
        obtain ⟨cl134, Ar134, q134, S134, N134_, H134, G134⟩ := V133
        have hin134 : ¬ ((1 : Int32) < 0 ∨ cl134.slots.size ≤ ((1 : Int32)).toNatClampNeg) := inb_of S134 ⟨by decide, by decide⟩
        obtain ⟨T135, h135, X135, e135, W135, st135⟩ := stZ X133 hx hZ e133 Ar134 (j := (1 : Int32)) hin134 (g := (mkF m 76 #[.val (.int i0), .val (.int i1), .val (.int (1 : Int32)), .val (.int (1 : Int32)), .val (.int (0 : Int32)), .val (.ref a_TO), .unset, .unset] [(.int (1 : Int32)), (.int (1 : Int32)), (.ref b131), (.ref b131)])) rfl rfl (hb hby at_76)
        have V135 : Arv Z h135 b131 k131 .boolean (4 : Int32) [(.int (0 : Int32)), (.int (1 : Int32)), (.int (0 : Int32)), (.int (0 : Int32))] (.int (0 : Int32)) := Arv.set Ar134 q134 S134 N134_ H134 G134 (fits_nar_bool _) W135 1 rfl (Nat.le_of_ble_eq_true rfl)
        have N135 := Fr.snoc X135 N133 gb131
        obtain ⟨cl136, Ar136, q136, S136, N136_, H136, G136⟩ := V135
        have hin136 : ¬ ((2 : Int32) < 0 ∨ cl136.slots.size ≤ ((2 : Int32)).toNatClampNeg) := inb_of S136 ⟨by decide, by decide⟩
        obtain ⟨T137, h137, X137, e137, W137, st137⟩ := stZ X135 hx hZ e135 Ar136 (j := (2 : Int32)) hin136 (g := (mkF m 80 #[.val (.int i0), .val (.int i1), .val (.int (1 : Int32)), .val (.int (1 : Int32)), .val (.int (0 : Int32)), .val (.ref a_TO), .unset, .unset] [(.int (0 : Int32)), (.int (2 : Int32)), (.ref b131), (.ref b131)])) rfl rfl (hb hby at_80)
        have V137 : Arv Z h137 b131 k131 .boolean (4 : Int32) [(.int (0 : Int32)), (.int (1 : Int32)), (.int (0 : Int32)), (.int (0 : Int32))] (.int (0 : Int32)) := Arv.set Ar136 q136 S136 N136_ H136 G136 (fits_nar_bool _) W137 2 rfl (Nat.le_of_ble_eq_true rfl)
        have N137 := Fr.snoc X137 N135 gb131
        obtain ⟨cl138, Ar138, q138, S138, N138_, H138, G138⟩ := V137
        have hin138 : ¬ ((3 : Int32) < 0 ∨ cl138.slots.size ≤ ((3 : Int32)).toNatClampNeg) := inb_of S138 ⟨by decide, by decide⟩
        obtain ⟨T139, h139, X139, e139, W139, st139⟩ := stZ X137 hx hZ e137 Ar138 (j := (3 : Int32)) hin138 (g := (mkF m 84 #[.val (.int i0), .val (.int i1), .val (.int (1 : Int32)), .val (.int (1 : Int32)), .val (.int (0 : Int32)), .val (.ref a_TO), .unset, .unset] [(.int (1 : Int32)), (.int (3 : Int32)), (.ref b131), (.ref b131)])) rfl rfl (hb hby at_84)
        have V139 : Arv Z h139 b131 k131 .boolean (4 : Int32) [(.int (0 : Int32)), (.int (1 : Int32)), (.int (0 : Int32)), (.int (1 : Int32))] (.int (0 : Int32)) := Arv.set Ar138 q138 S138 N138_ H138 G138 (fits_nar_bool _) W139 3 rfl (Nat.le_of_ble_eq_true rfl)
        have N139 := Fr.snoc X139 N137 gb131
        obtain ⟨cl140, Ar140, q140, S140, N140_, H140, G140⟩ := V139
        have hin140 : ¬ ((1 : Int32) < 0 ∨ cl140.slots.size ≤ ((1 : Int32)).toNatClampNeg) := inb_of S140 ⟨by decide, by decide⟩
        have hat140 : cl140.slots[((1 : Int32)).toNatClampNeg]? = some (.int (1 : Int32)) := H140.at hin140 rfl
        have O141 : Old Z n0 h139 := (((((O0.ext E131).wr W133 gb131).wr W135 gb131).wr W137 gb131).wr W139 gb131)
        have f143 := ((((((Exa.ext O0.2 X_a_TO).ext E131).wr W133).wr W135).wr W137).wr W139)
        obtain ⟨cq142, kq142, q142a, q142b, q142c⟩ := isOf hZ e139 f143
        obtain ⟨_, _, ⟨T142, L142, k142, n142⟩, -, X142, ⟨Lc142, hQ142, l142, y142, z142⟩, st142⟩ := X139.virtualBack hx (y := (⟨"com/example/carbonfold/carbonfold/model/RosterItem$Subscription", "hasTo", "()Z"⟩ : MethodName)) (z := (⟨"com/example/carbonfold/carbonfold/model/RosterItem$Subscription", "hasTo", "()Z"⟩ : MethodName)) hown (mvT hZ (hw _ (List.mem_of_getElem? (i := 4) rfl))) (mvT hZ (hw _ (List.mem_of_getElem? (i := 5) rfl))) (notFace_of_selects (args := #[]) (mvT hZ (hw _ (List.mem_of_getElem? (i := 7) rfl)))) (mvT hZ (hw _ (List.mem_of_getElem? (i := 7) rfl))) (mvT hZ (hw _ (List.mem_of_getElem? (i := 6) rfl))) (by decide) (backOf (W := 0) (rm_hasTo_11 l Z a0 hw [] a_NONE a_TO a_BOTH a_FROM h139 n0 O141 En) hZ (hw _ (List.mem_of_getElem? (i := 8) rfl)) (hw _ (List.mem_of_getElem? (i := 1) rfl)) (by decide) (by decide)) q142a q142c (g := (mkF m 95 #[.val (.int i0), .val (.int i1), .val (.int (1 : Int32)), .val (.int (1 : Int32)), .val (.int (0 : Int32)), .val (.ref a_TO), .val (.ref b131), .val (.int (1 : Int32))] [(.ref a_TO)])) rfl (by rw [hml]; rfl) (Steps.refl _) (argsL := []) (rest := []) (lenOf pd_0 rfl) rfl (by show 2 * 0 + _ ≤ _; exact Nat.le_of_eq rfl) (hb hby at_95) (fun _ _ => ⟨rfl, e139, (by decide : 1 + 0 ≤ _), (by decide : 4 + 0 ≤ _)⟩)
        dsimp only [Pt.U, Pt.locs, Pt.cells, Pt.slots] at X142 l142 y142 z142 st142 hQ142
        subst l142 y142 z142
        obtain ⟨rfl, N142q, hh142⟩ := hQ142
        have N142 := Fr.app N139 N142q
        obtain ⟨cq144, kq144, q144a, q144b, q144c⟩ := isOf hZ hh142 f143
        obtain ⟨_, _, ⟨T144, L144, k144, n144⟩, -, X144, ⟨Lc144, hQ144, l144, y144, z144⟩, st144⟩ := X142.virtualBack hx (y := (⟨"com/example/carbonfold/carbonfold/model/RosterItem$Subscription", "withTo", "(Z)Lcom/example/carbonfold/carbonfold/model/RosterItem$Subscription;"⟩ : MethodName)) (z := (⟨"com/example/carbonfold/carbonfold/model/RosterItem$Subscription", "withTo", "(Z)Lcom/example/carbonfold/carbonfold/model/RosterItem$Subscription;"⟩ : MethodName)) hown (mvT hZ (hw _ (List.mem_of_getElem? (i := 13) rfl))) (mvT hZ (hw _ (List.mem_of_getElem? (i := 14) rfl))) (notFace_of_selects (args := #[]) (mvT hZ (hw _ (List.mem_of_getElem? (i := 16) rfl)))) (mvT hZ (hw _ (List.mem_of_getElem? (i := 16) rfl))) (mvT hZ (hw _ (List.mem_of_getElem? (i := 15) rfl))) (by decide) (backOf (W := 0) (rm_withTo_18 l Z a0 hw [] a_NONE a_TO a_BOTH a_FROM h139 n0 O141 En) hZ (hw _ (List.mem_of_getElem? (i := 17) rfl)) (hw _ (List.mem_of_getElem? (i := 1) rfl)) (by decide) (by decide)) q144a q144c (g := (mkF m 106 #[.val (.int i0), .val (.int i1), .val (.int (1 : Int32)), .val (.int (1 : Int32)), .val (.int (0 : Int32)), .val (.ref a_TO), .val (.ref b131), .val (.int (1 : Int32))] [(.int (1 : Int32)), (.ref a_TO)])) rfl (by rw [hml]; rfl) (Steps.refl _) (argsL := [(.int (1 : Int32))]) (rest := []) (lenOf pd_2 rfl) rfl (by show 2 * 0 + _ ≤ _; exact Nat.le_of_eq rfl) (hb hby at_106) (fun _ _ => ⟨rfl, hh142, (by decide : 1 + 0 ≤ _), (by decide : 4 + 0 ≤ _)⟩)
        dsimp only [Pt.U, Pt.locs, Pt.cells, Pt.slots] at X144 l144 y144 z144 st144 hQ144
        subst l144 y144 z144
        obtain ⟨rfl, N144q, hh144⟩ := hQ144
        have N144 := Fr.app N142 N144q
        obtain ⟨cq145, kq145, q145a, q145b, q145c⟩ := isOf hZ hh144 f143
        obtain ⟨_, _, ⟨T145, L145, k145, n145⟩, -, X145, ⟨Lc145, hQ145, l145, y145, z145⟩, st145⟩ := X144.virtualBack hx (y := (⟨"com/example/carbonfold/carbonfold/model/RosterItem$Subscription", "hasTo", "()Z"⟩ : MethodName)) (z := (⟨"com/example/carbonfold/carbonfold/model/RosterItem$Subscription", "hasTo", "()Z"⟩ : MethodName)) hown (mvT hZ (hw _ (List.mem_of_getElem? (i := 4) rfl))) (mvT hZ (hw _ (List.mem_of_getElem? (i := 5) rfl))) (notFace_of_selects (args := #[]) (mvT hZ (hw _ (List.mem_of_getElem? (i := 7) rfl)))) (mvT hZ (hw _ (List.mem_of_getElem? (i := 7) rfl))) (mvT hZ (hw _ (List.mem_of_getElem? (i := 6) rfl))) (by decide) (backOf (W := 0) (rm_hasTo_11 l Z a0 hw [] a_NONE a_TO a_BOTH a_FROM h139 n0 O141 En) hZ (hw _ (List.mem_of_getElem? (i := 8) rfl)) (hw _ (List.mem_of_getElem? (i := 1) rfl)) (by decide) (by decide)) q145a q145c (g := (mkF m 109 #[.val (.int i0), .val (.int i1), .val (.int (1 : Int32)), .val (.int (1 : Int32)), .val (.int (0 : Int32)), .val (.ref a_TO), .val (.ref b131), .val (.int (1 : Int32))] [(.ref a_TO)])) rfl (by rw [hml]; rfl) (Steps.refl _) (argsL := []) (rest := []) (lenOf pd_0 rfl) rfl (by show 2 * 0 + _ ≤ _; exact Nat.le_of_eq rfl) (hb hby at_109) (fun _ _ => ⟨rfl, hh144, (by decide : 1 + 0 ≤ _), (by decide : 4 + 0 ≤ _)⟩)
        dsimp only [Pt.U, Pt.locs, Pt.cells, Pt.slots] at X145 l145 y145 z145 st145 hQ145
        subst l145 y145 z145
        obtain ⟨rfl, N145q, hh145⟩ := hQ145
        have N145 := Fr.app N144 N145q
        obtain ⟨cq146, kq146, q146a, q146b, q146c⟩ := isOf hZ hh145 f143
        obtain ⟨_, _, ⟨T146, L146, k146, n146⟩, -, X146, ⟨Lc146, hQ146, l146, y146, z146⟩, st146⟩ := X145.virtualBack hx (y := (⟨"com/example/carbonfold/carbonfold/model/RosterItem$Subscription", "withFrom", "(Z)Lcom/example/carbonfold/carbonfold/model/RosterItem$Subscription;"⟩ : MethodName)) (z := (⟨"com/example/carbonfold/carbonfold/model/RosterItem$Subscription", "withFrom", "(Z)Lcom/example/carbonfold/carbonfold/model/RosterItem$Subscription;"⟩ : MethodName)) hown (mvT hZ (hw _ (List.mem_of_getElem? (i := 28) rfl))) (mvT hZ (hw _ (List.mem_of_getElem? (i := 29) rfl))) (notFace_of_selects (args := #[]) (mvT hZ (hw _ (List.mem_of_getElem? (i := 31) rfl)))) (mvT hZ (hw _ (List.mem_of_getElem? (i := 31) rfl))) (mvT hZ (hw _ (List.mem_of_getElem? (i := 30) rfl))) (by decide) (backOf (W := 0) (rm_withFrom_14 l Z a0 hw [] a_NONE a_TO a_BOTH a_FROM h139 n0 O141 En) hZ (hw _ (List.mem_of_getElem? (i := 32) rfl)) (hw _ (List.mem_of_getElem? (i := 1) rfl)) (by decide) (by decide)) q146a q146c (g := (mkF m 120 #[.val (.int i0), .val (.int i1), .val (.int (1 : Int32)), .val (.int (1 : Int32)), .val (.int (0 : Int32)), .val (.ref a_TO), .val (.ref b131), .val (.int (1 : Int32))] [(.int (0 : Int32)), (.ref a_TO)])) rfl (by rw [hml]; rfl) (Steps.refl _) (argsL := [(.int (0 : Int32))]) (rest := []) (lenOf pd_2 rfl) rfl (by show 2 * 0 + _ ≤ _; exact Nat.le_of_eq rfl) (hb hby at_120) (fun _ _ => ⟨rfl, hh145, (by decide : 1 + 0 ≤ _), (by decide : 4 + 0 ≤ _)⟩)
        dsimp only [Pt.U, Pt.locs, Pt.cells, Pt.slots] at X146 l146 y146 z146 st146 hQ146
        subst l146 y146 z146
        obtain ⟨rfl, N146q, hh146⟩ := hQ146
        have N146 := Fr.app N145 N146q
        obtain ⟨cq147, kq147, q147a, q147b, q147c⟩ := isOf hZ hh146 f143
        obtain ⟨_, _, ⟨T147, L147, k147, n147⟩, -, X147, ⟨Lc147, hQ147, l147, y147, z147⟩, st147⟩ := X146.virtualBack hx (y := (⟨"com/example/carbonfold/carbonfold/model/RosterItem$Subscription", "hasTo", "()Z"⟩ : MethodName)) (z := (⟨"com/example/carbonfold/carbonfold/model/RosterItem$Subscription", "hasTo", "()Z"⟩ : MethodName)) hown (mvT hZ (hw _ (List.mem_of_getElem? (i := 4) rfl))) (mvT hZ (hw _ (List.mem_of_getElem? (i := 5) rfl))) (notFace_of_selects (args := #[]) (mvT hZ (hw _ (List.mem_of_getElem? (i := 7) rfl)))) (mvT hZ (hw _ (List.mem_of_getElem? (i := 7) rfl))) (mvT hZ (hw _ (List.mem_of_getElem? (i := 6) rfl))) (by decide) (backOf (W := 0) (rm_hasTo_11 l Z a0 hw [] a_NONE a_TO a_BOTH a_FROM h139 n0 O141 En) hZ (hw _ (List.mem_of_getElem? (i := 8) rfl)) (hw _ (List.mem_of_getElem? (i := 1) rfl)) (by decide) (by decide)) q147a q147c (g := (mkF m 123 #[.val (.int i0), .val (.int i1), .val (.int (1 : Int32)), .val (.int (1 : Int32)), .val (.int (0 : Int32)), .val (.ref a_TO), .val (.ref b131), .val (.int (1 : Int32))] [(.ref a_TO)])) rfl (by rw [hml]; rfl) (Steps.refl _) (argsL := []) (rest := []) (lenOf pd_0 rfl) rfl (by show 2 * 0 + _ ≤ _; exact Nat.le_of_eq rfl) (hb hby at_123) (fun _ _ => ⟨rfl, hh146, (by decide : 1 + 0 ≤ _), (by decide : 4 + 0 ≤ _)⟩)
        dsimp only [Pt.U, Pt.locs, Pt.cells, Pt.slots] at X147 l147 y147 z147 st147 hQ147
        subst l147 y147 z147
        obtain ⟨rfl, N147q, hh147⟩ := hQ147
        have N147 := Fr.app N146 N147q
        obtain ⟨fs, hr, hrun, hended, hW, hsame⟩ := X147.leave (v := some (.int (1 : Int32))) (fun h => by rw [Bd.returns] at h; cases h)
        refine ⟨_, _, pre128 _ ?_, hrun, hended, _, _, rfl, ?_, ⟨_, rfl⟩, hW, hsame.mono (by decide) (by decide)⟩
        · skip
          show Steps p.tables e below (s₁.setTop (mkF m 19 #[.val (.int i0), .val (.int i1), .val (.int (1 : Int32)), .val (.int (1 : Int32)), .unset, .unset, .unset, .unset] [(.int (i1 &&& (2 : Int32)))])) _
          rw [hk129]
          show Steps p.tables e below (s₁.setTop (mkF m 19 #[.val (.int i0), .val (.int i1), .val (.int (1 : Int32)), .val (.int (1 : Int32)), .unset, .unset, .unset, .unset] [(.int (0 : Int32))])) _
          refine XS.ifYes X0.here hx rfl (pc0 := 19) (pc' := 26) rfl (hb hby at_19) rfl (by decide) (by decide) (by decide) ?_
          show Steps p.tables e below (s₁.setTop (mkF m 26 #[.val (.int i0), .val (.int i1), .val (.int (1 : Int32)), .val (.int (1 : Int32)), .unset, .unset, .unset, .unset] [])) _
          refine XS.iconst X0.here hx rfl (hb hby at_26) ?_
          show Steps p.tables e below (s₁.setTop (mkF m 27 #[.val (.int i0), .val (.int i1), .val (.int (1 : Int32)), .val (.int (1 : Int32)), .unset, .unset, .unset, .unset] [(.int (0 : Int32))])) _
          refine XS.istore X0.here hx rfl (hb hby at_27) rfl (l' := #[.val (.int i0), .val (.int i1), .val (.int (1 : Int32)), .val (.int (1 : Int32)), .val (.int (0 : Int32)), .unset, .unset, .unset]) rfl ?_
          show Steps p.tables e below (s₁.setTop (mkF m 29 #[.val (.int i0), .val (.int i1), .val (.int (1 : Int32)), .val (.int (1 : Int32)), .val (.int (0 : Int32)), .unset, .unset, .unset] [])) _
          refine XS.iloadN X0.here hx rfl (hb hby at_29) rfl ?_
          show Steps p.tables e below (s₁.setTop (mkF m 30 #[.val (.int i0), .val (.int i1), .val (.int (1 : Int32)), .val (.int (1 : Int32)), .val (.int (0 : Int32)), .unset, .unset, .unset] [(.int (1 : Int32))])) _
          refine XS.ifYes X0.here hx rfl (pc0 := 30) (pc' := 39) rfl (hb hby at_30) rfl (by decide) (by decide) (by decide) ?_
          show Steps p.tables e below (s₁.setTop (mkF m 39 #[.val (.int i0), .val (.int i1), .val (.int (1 : Int32)), .val (.int (1 : Int32)), .val (.int (0 : Int32)), .unset, .unset, .unset] [])) _
          refine XS.iloadN X0.here hx rfl (hb hby at_39) rfl ?_
          show Steps p.tables e below (s₁.setTop (mkF m 40 #[.val (.int i0), .val (.int i1), .val (.int (1 : Int32)), .val (.int (1 : Int32)), .val (.int (0 : Int32)), .unset, .unset, .unset] [(.int (1 : Int32))])) _
          refine XS.iconst X0.here hx rfl (hb hby at_40) ?_
          show Steps p.tables e below (s₁.setTop (mkF m 41 #[.val (.int i0), .val (.int i1), .val (.int (1 : Int32)), .val (.int (1 : Int32)), .val (.int (0 : Int32)), .unset, .unset, .unset] [(.int (1 : Int32)), (.int (1 : Int32))])) _
          refine XS.icmpNo X0.here hx rfl (hb hby at_41) rfl (by decide) ?_
          show Steps p.tables e below (s₁.setTop (mkF m 44 #[.val (.int i0), .val (.int i1), .val (.int (1 : Int32)), .val (.int (1 : Int32)), .val (.int (0 : Int32)), .unset, .unset, .unset] [])) _
          refine st130 _ ?_
          show Steps p.tables e below (T130.setTop (mkF m 47 #[.val (.int i0), .val (.int i1), .val (.int (1 : Int32)), .val (.int (1 : Int32)), .val (.int (0 : Int32)), .unset, .unset, .unset] [(.ref a_TO)])) _
          refine XS.goto X130.here hx rfl (pc0 := 47) (pc' := 64) rfl (hb hby at_47) (by decide) (by decide) ?_
          show Steps p.tables e below (T130.setTop (mkF m 64 #[.val (.int i0), .val (.int i1), .val (.int (1 : Int32)), .val (.int (1 : Int32)), .val (.int (0 : Int32)), .unset, .unset, .unset] [(.ref a_TO)])) _
          refine XS.astore X130.here hx rfl (hb hby at_64) rfl rfl (l' := #[.val (.int i0), .val (.int i1), .val (.int (1 : Int32)), .val (.int (1 : Int32)), .val (.int (0 : Int32)), .val (.ref a_TO), .unset, .unset]) rfl ?_
          show Steps p.tables e below (T130.setTop (mkF m 66 #[.val (.int i0), .val (.int i1), .val (.int (1 : Int32)), .val (.int (1 : Int32)), .val (.int (0 : Int32)), .val (.ref a_TO), .unset, .unset] [])) _
          refine XS.iconst X130.here hx rfl (hb hby at_66) ?_
          show Steps p.tables e below (T130.setTop (mkF m 67 #[.val (.int i0), .val (.int i1), .val (.int (1 : Int32)), .val (.int (1 : Int32)), .val (.int (0 : Int32)), .val (.ref a_TO), .unset, .unset] [(.int (4 : Int32))])) _
          refine st131 _ ?_
          show Steps p.tables e below (T131.setTop (mkF m 69 #[.val (.int i0), .val (.int i1), .val (.int (1 : Int32)), .val (.int (1 : Int32)), .val (.int (0 : Int32)), .val (.ref a_TO), .unset, .unset] [(.ref b131)])) _
          refine XS.dup X131.here hx rfl (hb hby at_69) rfl rfl ?_
          show Steps p.tables e below (T131.setTop (mkF m 70 #[.val (.int i0), .val (.int i1), .val (.int (1 : Int32)), .val (.int (1 : Int32)), .val (.int (0 : Int32)), .val (.ref a_TO), .unset, .unset] [(.ref b131), (.ref b131)])) _
          refine XS.iconst X131.here hx rfl (hb hby at_70) ?_
          show Steps p.tables e below (T131.setTop (mkF m 71 #[.val (.int i0), .val (.int i1), .val (.int (1 : Int32)), .val (.int (1 : Int32)), .val (.int (0 : Int32)), .val (.ref a_TO), .unset, .unset] [(.int (0 : Int32)), (.ref b131), (.ref b131)])) _
          refine XS.iconst X131.here hx rfl (hb hby at_71) ?_
          show Steps p.tables e below (T131.setTop (mkF m 72 #[.val (.int i0), .val (.int i1), .val (.int (1 : Int32)), .val (.int (1 : Int32)), .val (.int (0 : Int32)), .val (.ref a_TO), .unset, .unset] [(.int (0 : Int32)), (.int (0 : Int32)), (.ref b131), (.ref b131)])) _
          refine st133 _ ?_
          show Steps p.tables e below (T133.setTop (mkF m 73 #[.val (.int i0), .val (.int i1), .val (.int (1 : Int32)), .val (.int (1 : Int32)), .val (.int (0 : Int32)), .val (.ref a_TO), .unset, .unset] [(.ref b131)])) _
          refine XS.dup X133.here hx rfl (hb hby at_73) rfl rfl ?_
          show Steps p.tables e below (T133.setTop (mkF m 74 #[.val (.int i0), .val (.int i1), .val (.int (1 : Int32)), .val (.int (1 : Int32)), .val (.int (0 : Int32)), .val (.ref a_TO), .unset, .unset] [(.ref b131), (.ref b131)])) _
          refine XS.iconst X133.here hx rfl (hb hby at_74) ?_
          show Steps p.tables e below (T133.setTop (mkF m 75 #[.val (.int i0), .val (.int i1), .val (.int (1 : Int32)), .val (.int (1 : Int32)), .val (.int (0 : Int32)), .val (.ref a_TO), .unset, .unset] [(.int (1 : Int32)), (.ref b131), (.ref b131)])) _
          refine XS.iconst X133.here hx rfl (hb hby at_75) ?_
          show Steps p.tables e below (T133.setTop (mkF m 76 #[.val (.int i0), .val (.int i1), .val (.int (1 : Int32)), .val (.int (1 : Int32)), .val (.int (0 : Int32)), .val (.ref a_TO), .unset, .unset] [(.int (1 : Int32)), (.int (1 : Int32)), (.ref b131), (.ref b131)])) _
          refine st135 _ ?_
          show Steps p.tables e below (T135.setTop (mkF m 77 #[.val (.int i0), .val (.int i1), .val (.int (1 : Int32)), .val (.int (1 : Int32)), .val (.int (0 : Int32)), .val (.ref a_TO), .unset, .unset] [(.ref b131)])) _
          refine XS.dup X135.here hx rfl (hb hby at_77) rfl rfl ?_
          show Steps p.tables e below (T135.setTop (mkF m 78 #[.val (.int i0), .val (.int i1), .val (.int (1 : Int32)), .val (.int (1 : Int32)), .val (.int (0 : Int32)), .val (.ref a_TO), .unset, .unset] [(.ref b131), (.ref b131)])) _
          refine XS.iconst X135.here hx rfl (hb hby at_78) ?_
          show Steps p.tables e below (T135.setTop (mkF m 79 #[.val (.int i0), .val (.int i1), .val (.int (1 : Int32)), .val (.int (1 : Int32)), .val (.int (0 : Int32)), .val (.ref a_TO), .unset, .unset] [(.int (2 : Int32)), (.ref b131), (.ref b131)])) _
          refine XS.iconst X135.here hx rfl (hb hby at_79) ?_
          show Steps p.tables e below (T135.setTop (mkF m 80 #[.val (.int i0), .val (.int i1), .val (.int (1 : Int32)), .val (.int (1 : Int32)), .val (.int (0 : Int32)), .val (.ref a_TO), .unset, .unset] [(.int (0 : Int32)), (.int (2 : Int32)), (.ref b131), (.ref b131)])) _
          refine st137 _ ?_
          show Steps p.tables e below (T137.setTop (mkF m 81 #[.val (.int i0), .val (.int i1), .val (.int (1 : Int32)), .val (.int (1 : Int32)), .val (.int (0 : Int32)), .val (.ref a_TO), .unset, .unset] [(.ref b131)])) _
          refine XS.dup X137.here hx rfl (hb hby at_81) rfl rfl ?_
          show Steps p.tables e below (T137.setTop (mkF m 82 #[.val (.int i0), .val (.int i1), .val (.int (1 : Int32)), .val (.int (1 : Int32)), .val (.int (0 : Int32)), .val (.ref a_TO), .unset, .unset] [(.ref b131), (.ref b131)])) _
          refine XS.iconst X137.here hx rfl (hb hby at_82) ?_
          show Steps p.tables e below (T137.setTop (mkF m 83 #[.val (.int i0), .val (.int i1), .val (.int (1 : Int32)), .val (.int (1 : Int32)), .val (.int (0 : Int32)), .val (.ref a_TO), .unset, .unset] [(.int (3 : Int32)), (.ref b131), (.ref b131)])) _
          refine XS.iconst X137.here hx rfl (hb hby at_83) ?_
          show Steps p.tables e below (T137.setTop (mkF m 84 #[.val (.int i0), .val (.int i1), .val (.int (1 : Int32)), .val (.int (1 : Int32)), .val (.int (0 : Int32)), .val (.ref a_TO), .unset, .unset] [(.int (1 : Int32)), (.int (3 : Int32)), (.ref b131), (.ref b131)])) _
          refine st139 _ ?_
          show Steps p.tables e below (T139.setTop (mkF m 85 #[.val (.int i0), .val (.int i1), .val (.int (1 : Int32)), .val (.int (1 : Int32)), .val (.int (0 : Int32)), .val (.ref a_TO), .unset, .unset] [(.ref b131)])) _
          refine XS.astore X139.here hx rfl (hb hby at_85) rfl rfl (l' := #[.val (.int i0), .val (.int i1), .val (.int (1 : Int32)), .val (.int (1 : Int32)), .val (.int (0 : Int32)), .val (.ref a_TO), .val (.ref b131), .unset]) rfl ?_
          show Steps p.tables e below (T139.setTop (mkF m 87 #[.val (.int i0), .val (.int i1), .val (.int (1 : Int32)), .val (.int (1 : Int32)), .val (.int (0 : Int32)), .val (.ref a_TO), .val (.ref b131), .unset] [])) _
          refine XS.aload X139.here hx rfl (hb hby at_87) rfl rfl ?_
          show Steps p.tables e below (T139.setTop (mkF m 89 #[.val (.int i0), .val (.int i1), .val (.int (1 : Int32)), .val (.int (1 : Int32)), .val (.int (0 : Int32)), .val (.ref a_TO), .val (.ref b131), .unset] [(.ref b131)])) _
          refine XS.iloadN X139.here hx rfl (hb hby at_89) rfl ?_
          show Steps p.tables e below (T139.setTop (mkF m 90 #[.val (.int i0), .val (.int i1), .val (.int (1 : Int32)), .val (.int (1 : Int32)), .val (.int (0 : Int32)), .val (.ref a_TO), .val (.ref b131), .unset] [(.int (1 : Int32)), (.ref b131)])) _
          refine X139.baloadBooleans hx (j := (1 : Int32)) (v := (.int (1 : Int32))) (by rw [e139]; exact Ar140.1) (State.isArrayOf_alike hZ.alike Ar140.2.1) Ar140.2.2 hin140 hat140 (g := (mkF m 90 #[.val (.int i0), .val (.int i1), .val (.int (1 : Int32)), .val (.int (1 : Int32)), .val (.int (0 : Int32)), .val (.ref a_TO), .val (.ref b131), .unset] [(.int (1 : Int32)), (.ref b131)])) rfl rfl (hb hby at_90) _ ?_
          show Steps p.tables e below (T139.setTop (mkF m 91 #[.val (.int i0), .val (.int i1), .val (.int (1 : Int32)), .val (.int (1 : Int32)), .val (.int (0 : Int32)), .val (.ref a_TO), .val (.ref b131), .unset] [(.int (1 : Int32))])) _
          refine XS.istore X139.here hx rfl (hb hby at_91) rfl (l' := #[.val (.int i0), .val (.int i1), .val (.int (1 : Int32)), .val (.int (1 : Int32)), .val (.int (0 : Int32)), .val (.ref a_TO), .val (.ref b131), .val (.int (1 : Int32))]) rfl ?_
          show Steps p.tables e below (T139.setTop (mkF m 93 #[.val (.int i0), .val (.int i1), .val (.int (1 : Int32)), .val (.int (1 : Int32)), .val (.int (0 : Int32)), .val (.ref a_TO), .val (.ref b131), .val (.int (1 : Int32))] [])) _
          refine XS.aload X139.here hx rfl (hb hby at_93) rfl rfl ?_
          show Steps p.tables e below (T139.setTop (mkF m 95 #[.val (.int i0), .val (.int i1), .val (.int (1 : Int32)), .val (.int (1 : Int32)), .val (.int (0 : Int32)), .val (.ref a_TO), .val (.ref b131), .val (.int (1 : Int32))] [(.ref a_TO)])) _
          refine st142.trans ?_
          show Steps p.tables e below (T142.setTop (mkF m 98 #[.val (.int i0), .val (.int i1), .val (.int (1 : Int32)), .val (.int (1 : Int32)), .val (.int (0 : Int32)), .val (.ref a_TO), .val (.ref b131), .val (.int (1 : Int32))] [(.int (1 : Int32))])) _
          refine XS.iload X142.here hx rfl (hb hby at_98) rfl ?_
          show Steps p.tables e below (T142.setTop (mkF m 100 #[.val (.int i0), .val (.int i1), .val (.int (1 : Int32)), .val (.int (1 : Int32)), .val (.int (0 : Int32)), .val (.ref a_TO), .val (.ref b131), .val (.int (1 : Int32))] [(.int (1 : Int32)), (.int (1 : Int32))])) _
          refine XS.icmpNo X142.here hx rfl (hb hby at_100) rfl (by decide) ?_
          show Steps p.tables e below (T142.setTop (mkF m 103 #[.val (.int i0), .val (.int i1), .val (.int (1 : Int32)), .val (.int (1 : Int32)), .val (.int (0 : Int32)), .val (.ref a_TO), .val (.ref b131), .val (.int (1 : Int32))] [])) _
          refine XS.aload X142.here hx rfl (hb hby at_103) rfl rfl ?_
          show Steps p.tables e below (T142.setTop (mkF m 105 #[.val (.int i0), .val (.int i1), .val (.int (1 : Int32)), .val (.int (1 : Int32)), .val (.int (0 : Int32)), .val (.ref a_TO), .val (.ref b131), .val (.int (1 : Int32))] [(.ref a_TO)])) _
          refine XS.iloadN X142.here hx rfl (hb hby at_105) rfl ?_
          show Steps p.tables e below (T142.setTop (mkF m 106 #[.val (.int i0), .val (.int i1), .val (.int (1 : Int32)), .val (.int (1 : Int32)), .val (.int (0 : Int32)), .val (.ref a_TO), .val (.ref b131), .val (.int (1 : Int32))] [(.int (1 : Int32)), (.ref a_TO)])) _
          refine st144.trans ?_
          show Steps p.tables e below (T144.setTop (mkF m 109 #[.val (.int i0), .val (.int i1), .val (.int (1 : Int32)), .val (.int (1 : Int32)), .val (.int (0 : Int32)), .val (.ref a_TO), .val (.ref b131), .val (.int (1 : Int32))] [(.ref a_TO)])) _
          refine st145.trans ?_
          show Steps p.tables e below (T145.setTop (mkF m 112 #[.val (.int i0), .val (.int i1), .val (.int (1 : Int32)), .val (.int (1 : Int32)), .val (.int (0 : Int32)), .val (.ref a_TO), .val (.ref b131), .val (.int (1 : Int32))] [(.int (1 : Int32))])) _
          refine XS.iloadN X145.here hx rfl (hb hby at_112) rfl ?_
          show Steps p.tables e below (T145.setTop (mkF m 113 #[.val (.int i0), .val (.int i1), .val (.int (1 : Int32)), .val (.int (1 : Int32)), .val (.int (0 : Int32)), .val (.ref a_TO), .val (.ref b131), .val (.int (1 : Int32))] [(.int (1 : Int32)), (.int (1 : Int32))])) _
          refine XS.icmpNo X145.here hx rfl (hb hby at_113) rfl (by decide) ?_
          show Steps p.tables e below (T145.setTop (mkF m 116 #[.val (.int i0), .val (.int i1), .val (.int (1 : Int32)), .val (.int (1 : Int32)), .val (.int (0 : Int32)), .val (.ref a_TO), .val (.ref b131), .val (.int (1 : Int32))] [])) _
          refine XS.aload X145.here hx rfl (hb hby at_116) rfl rfl ?_
          show Steps p.tables e below (T145.setTop (mkF m 118 #[.val (.int i0), .val (.int i1), .val (.int (1 : Int32)), .val (.int (1 : Int32)), .val (.int (0 : Int32)), .val (.ref a_TO), .val (.ref b131), .val (.int (1 : Int32))] [(.ref a_TO)])) _
          refine XS.iload X145.here hx rfl (hb hby at_118) rfl ?_
          show Steps p.tables e below (T145.setTop (mkF m 120 #[.val (.int i0), .val (.int i1), .val (.int (1 : Int32)), .val (.int (1 : Int32)), .val (.int (0 : Int32)), .val (.ref a_TO), .val (.ref b131), .val (.int (1 : Int32))] [(.int (0 : Int32)), (.ref a_TO)])) _
          refine st146.trans ?_
          show Steps p.tables e below (T146.setTop (mkF m 123 #[.val (.int i0), .val (.int i1), .val (.int (1 : Int32)), .val (.int (1 : Int32)), .val (.int (0 : Int32)), .val (.ref a_TO), .val (.ref b131), .val (.int (1 : Int32))] [(.ref a_TO)])) _
          refine st147.trans ?_
          show Steps p.tables e below (T147.setTop (mkF m 126 #[.val (.int i0), .val (.int i1), .val (.int (1 : Int32)), .val (.int (1 : Int32)), .val (.int (0 : Int32)), .val (.ref a_TO), .val (.ref b131), .val (.int (1 : Int32))] [(.int (1 : Int32))])) _
          refine XS.iload X147.here hx rfl (hb hby at_126) rfl ?_
          show Steps p.tables e below (T147.setTop (mkF m 128 #[.val (.int i0), .val (.int i1), .val (.int (1 : Int32)), .val (.int (1 : Int32)), .val (.int (0 : Int32)), .val (.ref a_TO), .val (.ref b131), .val (.int (1 : Int32))] [(.int (1 : Int32)), (.int (1 : Int32))])) _
          refine XS.icmpNo X147.here hx rfl (hb hby at_128) rfl (by decide) ?_
          show Steps p.tables e below (T147.setTop (mkF m 131 #[.val (.int i0), .val (.int i1), .val (.int (1 : Int32)), .val (.int (1 : Int32)), .val (.int (0 : Int32)), .val (.ref a_TO), .val (.ref b131), .val (.int (1 : Int32))] [])) _
          refine XS.iconst X147.here hx rfl (hb hby at_131) ?_
          show Steps p.tables e below (T147.setTop (mkF m 132 #[.val (.int i0), .val (.int i1), .val (.int (1 : Int32)), .val (.int (1 : Int32)), .val (.int (0 : Int32)), .val (.ref a_TO), .val (.ref b131), .val (.int (1 : Int32))] [(.int (1 : Int32))])) _
          refine XS.goto X147.here hx rfl (pc0 := 132) (pc' := 136) rfl (hb hby at_132) (by decide) (by decide) ?_
          show Steps p.tables e below (T147.setTop (mkF m 136 #[.val (.int i0), .val (.int i1), .val (.int (1 : Int32)), .val (.int (1 : Int32)), .val (.int (0 : Int32)), .val (.ref a_TO), .val (.ref b131), .val (.int (1 : Int32))] [(.int (1 : Int32))])) _
          exact retN X147 hx (t := .boolean) Bd.returns (by simp) (hb hby at_136) hr
        · show QL n0 _ T147.heap _
          rw [hh147]
          exact ⟨rfl, N147⟩
      · skip
        obtain ⟨T148, X148, e148, st148⟩ := getS2 X0 hx hZ hown (host := "") (Or.inl (hw _ (List.mem_of_getElem? (i := 36) rfl))) Via.refl e0 (Sta.ext O0.2 S_a_TO) (g := (mkF m 44 #[.val (.int i0), .val (.int i1), .val (.int (1 : Int32)), .val (.int (1 : Int32)), .val (.int (1 : Int32)), .unset, .unset, .unset] [])) rfl (hb hby at_44)
        obtain ⟨T149, h149, k149, X149, e149, E149, A149, st149⟩ := newP X148 hx hZ (hw _ (List.mem_of_getElem? (i := 3) rfl)) e148 (g := (mkF m 67 #[.val (.int i0), .val (.int i1), .val (.int (1 : Int32)), .val (.int (1 : Int32)), .val (.int (1 : Int32)), .val (.ref a_TO), .unset, .unset] [(.int (4 : Int32))])) rfl (hb hby at_67) rfl (by decide) (cap := 4) (by decide) (by decide) (by decide) (by decide)
        obtain ⟨b149, g149⟩ : ∃ z, z = h0.size := ⟨_, rfl⟩
        rw [← g149] at A149 st149
        have gb149 : n0 ≤ b149 := by rw [g149, ← O0.1]; exact O0.2.1
        have ne149_a_BOTH : a_BOTH ≠ b149 := by rw [g149]; exact Nat.ne_of_lt ((Exa.ext O0.2 X_a_BOTH)).lt
        have ne149_a_FROM : a_FROM ≠ b149 := by rw [g149]; exact Nat.ne_of_lt ((Exa.ext O0.2 X_a_FROM)).lt
        have ne149_a_NONE : a_NONE ≠ b149 := by rw [g149]; exact Nat.ne_of_lt ((Exa.ext O0.2 X_a_NONE)).lt
        have ne149_a_TO : a_TO ≠ b149 := by rw [g149]; exact Nat.ne_of_lt ((Exa.ext O0.2 X_a_TO)).lt
        have V149 : Arv Z h149 b149 k149 .boolean (4 : Int32) [(.int (0 : Int32)), (.int (0 : Int32)), (.int (0 : Int32)), (.int (0 : Int32))] (.int (0 : Int32)) := (Arv.new A149 (by decide)).pad (pad_rep [] (.int (0 : Int32)) 4)
        obtain ⟨cl150, Ar150, q150, S150, N150_, H150, G150⟩ := V149
        have hin150 : ¬ ((0 : Int32) < 0 ∨ cl150.slots.size ≤ ((0 : Int32)).toNatClampNeg) := inb_of S150 ⟨by decide, by decide⟩
        obtain ⟨T151, h151, X151, e151, W151, st151⟩ := stZ X149 hx hZ e149 Ar150 (j := (0 : Int32)) hin150 (g := (mkF m 72 #[.val (.int i0), .val (.int i1), .val (.int (1 : Int32)), .val (.int (1 : Int32)), .val (.int (1 : Int32)), .val (.ref a_TO), .unset, .unset] [(.int (0 : Int32)), (.int (0 : Int32)), (.ref b149), (.ref b149)])) rfl rfl (hb hby at_72)
        have V151 : Arv Z h151 b149 k149 .boolean (4 : Int32) [(.int (0 : Int32)), (.int (0 : Int32)), (.int (0 : Int32)), (.int (0 : Int32))] (.int (0 : Int32)) := Arv.set Ar150 q150 S150 N150_ H150 G150 (fits_nar_bool _) W151 0 rfl (Nat.le_of_ble_eq_true rfl)
        have N151 := Fr.snoc X151 N0 gb149
        obtain ⟨cl152, Ar152, q152, S152, N152_, H152, G152⟩ := V151
        have hin152 : ¬ ((1 : Int32) < 0 ∨ cl152.slots.size ≤ ((1 : Int32)).toNatClampNeg) := inb_of S152 ⟨by decide, by decide⟩
        obtain ⟨T153, h153, X153, e153, W153, st153⟩ := stZ X151 hx hZ e151 Ar152 (j := (1 : Int32)) hin152 (g := (mkF m 76 #[.val (.int i0), .val (.int i1), .val (.int (1 : Int32)), .val (.int (1 : Int32)), .val (.int (1 : Int32)), .val (.ref a_TO), .unset, .unset] [(.int (1 : Int32)), (.int (1 : Int32)), (.ref b149), (.ref b149)])) rfl rfl (hb hby at_76)
        have V153 : Arv Z h153 b149 k149 .boolean (4 : Int32) [(.int (0 : Int32)), (.int (1 : Int32)), (.int (0 : Int32)), (.int (0 : Int32))] (.int (0 : Int32)) := Arv.set Ar152 q152 S152 N152_ H152 G152 (fits_nar_bool _) W153 1 rfl (Nat.le_of_ble_eq_true rfl)
        have N153 := Fr.snoc X153 N151 gb149
        obtain ⟨cl154, Ar154, q154, S154, N154_, H154, G154⟩ := V153
        have hin154 : ¬ ((2 : Int32) < 0 ∨ cl154.slots.size ≤ ((2 : Int32)).toNatClampNeg) := inb_of S154 ⟨by decide, by decide⟩
        obtain ⟨T155, h155, X155, e155, W155, st155⟩ := stZ X153 hx hZ e153 Ar154 (j := (2 : Int32)) hin154 (g := (mkF m 80 #[.val (.int i0), .val (.int i1), .val (.int (1 : Int32)), .val (.int (1 : Int32)), .val (.int (1 : Int32)), .val (.ref a_TO), .unset, .unset] [(.int (0 : Int32)), (.int (2 : Int32)), (.ref b149), (.ref b149)])) rfl rfl (hb hby at_80)
        have V155 : Arv Z h155 b149 k149 .boolean (4 : Int32) [(.int (0 : Int32)), (.int (1 : Int32)), (.int (0 : Int32)), (.int (0 : Int32))] (.int (0 : Int32)) := Arv.set Ar154 q154 S154 N154_ H154 G154 (fits_nar_bool _) W155 2 rfl (Nat.le_of_ble_eq_true rfl)
        have N155 := Fr.snoc X155 N153 gb149
        obtain ⟨cl156, Ar156, q156, S156, N156_, H156, G156⟩ := V155
        have hin156 : ¬ ((3 : Int32) < 0 ∨ cl156.slots.size ≤ ((3 : Int32)).toNatClampNeg) := inb_of S156 ⟨by decide, by decide⟩
        obtain ⟨T157, h157, X157, e157, W157, st157⟩ := stZ X155 hx hZ e155 Ar156 (j := (3 : Int32)) hin156 (g := (mkF m 84 #[.val (.int i0), .val (.int i1), .val (.int (1 : Int32)), .val (.int (1 : Int32)), .val (.int (1 : Int32)), .val (.ref a_TO), .unset, .unset] [(.int (1 : Int32)), (.int (3 : Int32)), (.ref b149), (.ref b149)])) rfl rfl (hb hby at_84)
        have V157 : Arv Z h157 b149 k149 .boolean (4 : Int32) [(.int (0 : Int32)), (.int (1 : Int32)), (.int (0 : Int32)), (.int (1 : Int32))] (.int (0 : Int32)) := Arv.set Ar156 q156 S156 N156_ H156 G156 (fits_nar_bool _) W157 3 rfl (Nat.le_of_ble_eq_true rfl)
        have N157 := Fr.snoc X157 N155 gb149
        obtain ⟨cl158, Ar158, q158, S158, N158_, H158, G158⟩ := V157
        have hin158 : ¬ ((1 : Int32) < 0 ∨ cl158.slots.size ≤ ((1 : Int32)).toNatClampNeg) := inb_of S158 ⟨by decide, by decide⟩
        have hat158 : cl158.slots[((1 : Int32)).toNatClampNeg]? = some (.int (1 : Int32)) := H158.at hin158 rfl
        have O159 : Old Z n0 h157 := (((((O0.ext E149).wr W151 gb149).wr W153 gb149).wr W155 gb149).wr W157 gb149)
        have f161 := ((((((Exa.ext O0.2 X_a_TO).ext E149).wr W151).wr W153).wr W155).wr W157)
        obtain ⟨cq160, kq160, q160a, q160b, q160c⟩ := isOf hZ e157 f161
        obtain ⟨_, _, ⟨T160, L160, k160, n160⟩, -, X160, ⟨Lc160, hQ160, l160, y160, z160⟩, st160⟩ := X157.virtualBack hx (y := (⟨"com/example/carbonfold/carbonfold/model/RosterItem$Subscription", "hasTo", "()Z"⟩ : MethodName)) (z := (⟨"com/example/carbonfold/carbonfold/model/RosterItem$Subscription", "hasTo", "()Z"⟩ : MethodName)) hown (mvT hZ (hw _ (List.mem_of_getElem? (i := 4) rfl))) (mvT hZ (hw _ (List.mem_of_getElem? (i := 5) rfl))) (notFace_of_selects (args := #[]) (mvT hZ (hw _ (List.mem_of_getElem? (i := 7) rfl)))) (mvT hZ (hw _ (List.mem_of_getElem? (i := 7) rfl))) (mvT hZ (hw _ (List.mem_of_getElem? (i := 6) rfl))) (by decide) (backOf (W := 0) (rm_hasTo_11 l Z a0 hw [] a_NONE a_TO a_BOTH a_FROM h157 n0 O159 En) hZ (hw _ (List.mem_of_getElem? (i := 8) rfl)) (hw _ (List.mem_of_getElem? (i := 1) rfl)) (by decide) (by decide)) q160a q160c (g := (mkF m 95 #[.val (.int i0), .val (.int i1), .val (.int (1 : Int32)), .val (.int (1 : Int32)), .val (.int (1 : Int32)), .val (.ref a_TO), .val (.ref b149), .val (.int (1 : Int32))] [(.ref a_TO)])) rfl (by rw [hml]; rfl) (Steps.refl _) (argsL := []) (rest := []) (lenOf pd_0 rfl) rfl (by show 2 * 0 + _ ≤ _; exact Nat.le_of_eq rfl) (hb hby at_95) (fun _ _ => ⟨rfl, e157, (by decide : 1 + 0 ≤ _), (by decide : 4 + 0 ≤ _)⟩)
        dsimp only [Pt.U, Pt.locs, Pt.cells, Pt.slots] at X160 l160 y160 z160 st160 hQ160
        subst l160 y160 z160
        obtain ⟨rfl, N160q, hh160⟩ := hQ160
        have N160 := Fr.app N157 N160q
        obtain ⟨cq162, kq162, q162a, q162b, q162c⟩ := isOf hZ hh160 f161
        obtain ⟨_, _, ⟨T162, L162, k162, n162⟩, -, X162, ⟨Lc162, hQ162, l162, y162, z162⟩, st162⟩ := X160.virtualBack hx (y := (⟨"com/example/carbonfold/carbonfold/model/RosterItem$Subscription", "withTo", "(Z)Lcom/example/carbonfold/carbonfold/model/RosterItem$Subscription;"⟩ : MethodName)) (z := (⟨"com/example/carbonfold/carbonfold/model/RosterItem$Subscription", "withTo", "(Z)Lcom/example/carbonfold/carbonfold/model/RosterItem$Subscription;"⟩ : MethodName)) hown (mvT hZ (hw _ (List.mem_of_getElem? (i := 13) rfl))) (mvT hZ (hw _ (List.mem_of_getElem? (i := 14) rfl))) (notFace_of_selects (args := #[]) (mvT hZ (hw _ (List.mem_of_getElem? (i := 16) rfl)))) (mvT hZ (hw _ (List.mem_of_getElem? (i := 16) rfl))) (mvT hZ (hw _ (List.mem_of_getElem? (i := 15) rfl))) (by decide) (backOf (W := 0) (rm_withTo_18 l Z a0 hw [] a_NONE a_TO a_BOTH a_FROM h157 n0 O159 En) hZ (hw _ (List.mem_of_getElem? (i := 17) rfl)) (hw _ (List.mem_of_getElem? (i := 1) rfl)) (by decide) (by decide)) q162a q162c (g := (mkF m 106 #[.val (.int i0), .val (.int i1), .val (.int (1 : Int32)), .val (.int (1 : Int32)), .val (.int (1 : Int32)), .val (.ref a_TO), .val (.ref b149), .val (.int (1 : Int32))] [(.int (1 : Int32)), (.ref a_TO)])) rfl (by rw [hml]; rfl) (Steps.refl _) (argsL := [(.int (1 : Int32))]) (rest := []) (lenOf pd_2 rfl) rfl (by show 2 * 0 + _ ≤ _; exact Nat.le_of_eq rfl) (hb hby at_106) (fun _ _ => ⟨rfl, hh160, (by decide : 1 + 0 ≤ _), (by decide : 4 + 0 ≤ _)⟩)
        dsimp only [Pt.U, Pt.locs, Pt.cells, Pt.slots] at X162 l162 y162 z162 st162 hQ162
        subst l162 y162 z162
        obtain ⟨rfl, N162q, hh162⟩ := hQ162
        have N162 := Fr.app N160 N162q
        obtain ⟨cq163, kq163, q163a, q163b, q163c⟩ := isOf hZ hh162 f161
        obtain ⟨_, _, ⟨T163, L163, k163, n163⟩, -, X163, ⟨Lc163, hQ163, l163, y163, z163⟩, st163⟩ := X162.virtualBack hx (y := (⟨"com/example/carbonfold/carbonfold/model/RosterItem$Subscription", "hasTo", "()Z"⟩ : MethodName)) (z := (⟨"com/example/carbonfold/carbonfold/model/RosterItem$Subscription", "hasTo", "()Z"⟩ : MethodName)) hown (mvT hZ (hw _ (List.mem_of_getElem? (i := 4) rfl))) (mvT hZ (hw _ (List.mem_of_getElem? (i := 5) rfl))) (notFace_of_selects (args := #[]) (mvT hZ (hw _ (List.mem_of_getElem? (i := 7) rfl)))) (mvT hZ (hw _ (List.mem_of_getElem? (i := 7) rfl))) (mvT hZ (hw _ (List.mem_of_getElem? (i := 6) rfl))) (by decide) (backOf (W := 0) (rm_hasTo_11 l Z a0 hw [] a_NONE a_TO a_BOTH a_FROM h157 n0 O159 En) hZ (hw _ (List.mem_of_getElem? (i := 8) rfl)) (hw _ (List.mem_of_getElem? (i := 1) rfl)) (by decide) (by decide)) q163a q163c (g := (mkF m 109 #[.val (.int i0), .val (.int i1), .val (.int (1 : Int32)), .val (.int (1 : Int32)), .val (.int (1 : Int32)), .val (.ref a_TO), .val (.ref b149), .val (.int (1 : Int32))] [(.ref a_TO)])) rfl (by rw [hml]; rfl) (Steps.refl _) (argsL := []) (rest := []) (lenOf pd_0 rfl) rfl (by show 2 * 0 + _ ≤ _; exact Nat.le_of_eq rfl) (hb hby at_109) (fun _ _ => ⟨rfl, hh162, (by decide : 1 + 0 ≤ _), (by decide : 4 + 0 ≤ _)⟩)
        dsimp only [Pt.U, Pt.locs, Pt.cells, Pt.slots] at X163 l163 y163 z163 st163 hQ163
        subst l163 y163 z163
        obtain ⟨rfl, N163q, hh163⟩ := hQ163
        have N163 := Fr.app N162 N163q
        obtain ⟨cq164, kq164, q164a, q164b, q164c⟩ := isOf hZ hh163 f161
        obtain ⟨_, _, ⟨T164, L164, k164, n164⟩, -, X164, ⟨Lc164, hQ164, l164, y164, z164⟩, st164⟩ := X163.virtualBack hx (y := (⟨"com/example/carbonfold/carbonfold/model/RosterItem$Subscription", "withFrom", "(Z)Lcom/example/carbonfold/carbonfold/model/RosterItem$Subscription;"⟩ : MethodName)) (z := (⟨"com/example/carbonfold/carbonfold/model/RosterItem$Subscription", "withFrom", "(Z)Lcom/example/carbonfold/carbonfold/model/RosterItem$Subscription;"⟩ : MethodName)) hown (mvT hZ (hw _ (List.mem_of_getElem? (i := 28) rfl))) (mvT hZ (hw _ (List.mem_of_getElem? (i := 29) rfl))) (notFace_of_selects (args := #[]) (mvT hZ (hw _ (List.mem_of_getElem? (i := 31) rfl)))) (mvT hZ (hw _ (List.mem_of_getElem? (i := 31) rfl))) (mvT hZ (hw _ (List.mem_of_getElem? (i := 30) rfl))) (by decide) (backOf (W := 0) (rm_withFrom_15 l Z a0 hw [] a_NONE a_TO a_BOTH a_FROM h157 n0 O159 En) hZ (hw _ (List.mem_of_getElem? (i := 32) rfl)) (hw _ (List.mem_of_getElem? (i := 1) rfl)) (by decide) (by decide)) q164a q164c (g := (mkF m 120 #[.val (.int i0), .val (.int i1), .val (.int (1 : Int32)), .val (.int (1 : Int32)), .val (.int (1 : Int32)), .val (.ref a_TO), .val (.ref b149), .val (.int (1 : Int32))] [(.int (1 : Int32)), (.ref a_TO)])) rfl (by rw [hml]; rfl) (Steps.refl _) (argsL := [(.int (1 : Int32))]) (rest := []) (lenOf pd_2 rfl) rfl (by show 2 * 0 + _ ≤ _; exact Nat.le_of_eq rfl) (hb hby at_120) (fun _ _ => ⟨rfl, hh163, (by decide : 1 + 0 ≤ _), (by decide : 4 + 0 ≤ _)⟩)
        dsimp only [Pt.U, Pt.locs, Pt.cells, Pt.slots] at X164 l164 y164 z164 st164 hQ164
        subst l164 y164 z164
        obtain ⟨rfl, N164q, hh164⟩ := hQ164
        have N164 := Fr.app N163 N164q
        have f166 := ((((((Exa.ext O0.2 X_a_BOTH).ext E149).wr W151).wr W153).wr W155).wr W157)
        obtain ⟨cq165, kq165, q165a, q165b, q165c⟩ := isOf hZ hh164 f166
        obtain ⟨_, _, ⟨T165, L165, k165, n165⟩, -, X165, ⟨Lc165, hQ165, l165, y165, z165⟩, st165⟩ := X164.virtualBack hx (y := (⟨"com/example/carbonfold/carbonfold/model/RosterItem$Subscription", "hasTo", "()Z"⟩ : MethodName)) (z := (⟨"com/example/carbonfold/carbonfold/model/RosterItem$Subscription", "hasTo", "()Z"⟩ : MethodName)) hown (mvT hZ (hw _ (List.mem_of_getElem? (i := 4) rfl))) (mvT hZ (hw _ (List.mem_of_getElem? (i := 5) rfl))) (notFace_of_selects (args := #[]) (mvT hZ (hw _ (List.mem_of_getElem? (i := 7) rfl)))) (mvT hZ (hw _ (List.mem_of_getElem? (i := 7) rfl))) (mvT hZ (hw _ (List.mem_of_getElem? (i := 6) rfl))) (by decide) (backOf (W := 0) (rm_hasTo_17 l Z a0 hw [] a_NONE a_TO a_BOTH a_FROM h157 n0 O159 En) hZ (hw _ (List.mem_of_getElem? (i := 8) rfl)) (hw _ (List.mem_of_getElem? (i := 1) rfl)) (by decide) (by decide)) q165a q165c (g := (mkF m 123 #[.val (.int i0), .val (.int i1), .val (.int (1 : Int32)), .val (.int (1 : Int32)), .val (.int (1 : Int32)), .val (.ref a_TO), .val (.ref b149), .val (.int (1 : Int32))] [(.ref a_BOTH)])) rfl (by rw [hml]; rfl) (Steps.refl _) (argsL := []) (rest := []) (lenOf pd_0 rfl) rfl (by show 2 * 0 + _ ≤ _; exact Nat.le_of_eq rfl) (hb hby at_123) (fun _ _ => ⟨rfl, hh164, (by decide : 1 + 0 ≤ _), (by decide : 4 + 0 ≤ _)⟩)
        dsimp only [Pt.U, Pt.locs, Pt.cells, Pt.slots] at X165 l165 y165 z165 st165 hQ165
        subst l165 y165 z165
        obtain ⟨rfl, N165q, hh165⟩ := hQ165
        have N165 := Fr.app N164 N165q
        obtain ⟨fs, hr, hrun, hended, hW, hsame⟩ := X165.leave (v := some (.int (1 : Int32))) (fun h => by rw [Bd.returns] at h; cases h)
        refine ⟨_, _, pre128 _ ?_, hrun, hended, _, _, rfl, ?_, ⟨_, rfl⟩, hW, hsame.mono (by decide) (by decide)⟩
        · skip
          show Steps p.tables e below (s₁.setTop (mkF m 19 #[.val (.int i0), .val (.int i1), .val (.int (1 : Int32)), .val (.int (1 : Int32)), .unset, .unset, .unset, .unset] [(.int (i1 &&& (2 : Int32)))])) _
          rw [hk129]
          show Steps p.tables e below (s₁.setTop (mkF m 19 #[.val (.int i0), .val (.int i1), .val (.int (1 : Int32)), .val (.int (1 : Int32)), .unset, .unset, .unset, .unset] [(.int (2 : Int32))])) _
          refine XS.ifNo X0.here hx rfl (hb hby at_19) rfl (by decide) ?_
          show Steps p.tables e below (s₁.setTop (mkF m 22 #[.val (.int i0), .val (.int i1), .val (.int (1 : Int32)), .val (.int (1 : Int32)), .unset, .unset, .unset, .unset] [])) _
          refine XS.iconst X0.here hx rfl (hb hby at_22) ?_
          show Steps p.tables e below (s₁.setTop (mkF m 23 #[.val (.int i0), .val (.int i1), .val (.int (1 : Int32)), .val (.int (1 : Int32)), .unset, .unset, .unset, .unset] [(.int (1 : Int32))])) _
          refine XS.goto X0.here hx rfl (pc0 := 23) (pc' := 27) rfl (hb hby at_23) (by decide) (by decide) ?_
          show Steps p.tables e below (s₁.setTop (mkF m 27 #[.val (.int i0), .val (.int i1), .val (.int (1 : Int32)), .val (.int (1 : Int32)), .unset, .unset, .unset, .unset] [(.int (1 : Int32))])) _
          refine XS.istore X0.here hx rfl (hb hby at_27) rfl (l' := #[.val (.int i0), .val (.int i1), .val (.int (1 : Int32)), .val (.int (1 : Int32)), .val (.int (1 : Int32)), .unset, .unset, .unset]) rfl ?_
          show Steps p.tables e below (s₁.setTop (mkF m 29 #[.val (.int i0), .val (.int i1), .val (.int (1 : Int32)), .val (.int (1 : Int32)), .val (.int (1 : Int32)), .unset, .unset, .unset] [])) _
          refine XS.iloadN X0.here hx rfl (hb hby at_29) rfl ?_
          show Steps p.tables e below (s₁.setTop (mkF m 30 #[.val (.int i0), .val (.int i1), .val (.int (1 : Int32)), .val (.int (1 : Int32)), .val (.int (1 : Int32)), .unset, .unset, .unset] [(.int (1 : Int32))])) _
          refine XS.ifYes X0.here hx rfl (pc0 := 30) (pc' := 39) rfl (hb hby at_30) rfl (by decide) (by decide) (by decide) ?_
          show Steps p.tables e below (s₁.setTop (mkF m 39 #[.val (.int i0), .val (.int i1), .val (.int (1 : Int32)), .val (.int (1 : Int32)), .val (.int (1 : Int32)), .unset, .unset, .unset] [])) _
          refine XS.iloadN X0.here hx rfl (hb hby at_39) rfl ?_
          show Steps p.tables e below (s₁.setTop (mkF m 40 #[.val (.int i0), .val (.int i1), .val (.int (1 : Int32)), .val (.int (1 : Int32)), .val (.int (1 : Int32)), .unset, .unset, .unset] [(.int (1 : Int32))])) _
          refine XS.iconst X0.here hx rfl (hb hby at_40) ?_
          show Steps p.tables e below (s₁.setTop (mkF m 41 #[.val (.int i0), .val (.int i1), .val (.int (1 : Int32)), .val (.int (1 : Int32)), .val (.int (1 : Int32)), .unset, .unset, .unset] [(.int (1 : Int32)), (.int (1 : Int32))])) _
          refine XS.icmpNo X0.here hx rfl (hb hby at_41) rfl (by decide) ?_
          show Steps p.tables e below (s₁.setTop (mkF m 44 #[.val (.int i0), .val (.int i1), .val (.int (1 : Int32)), .val (.int (1 : Int32)), .val (.int (1 : Int32)), .unset, .unset, .unset] [])) _
          refine st148 _ ?_
          show Steps p.tables e below (T148.setTop (mkF m 47 #[.val (.int i0), .val (.int i1), .val (.int (1 : Int32)), .val (.int (1 : Int32)), .val (.int (1 : Int32)), .unset, .unset, .unset] [(.ref a_TO)])) _
          refine XS.goto X148.here hx rfl (pc0 := 47) (pc' := 64) rfl (hb hby at_47) (by decide) (by decide) ?_
          show Steps p.tables e below (T148.setTop (mkF m 64 #[.val (.int i0), .val (.int i1), .val (.int (1 : Int32)), .val (.int (1 : Int32)), .val (.int (1 : Int32)), .unset, .unset, .unset] [(.ref a_TO)])) _
          refine XS.astore X148.here hx rfl (hb hby at_64) rfl rfl (l' := #[.val (.int i0), .val (.int i1), .val (.int (1 : Int32)), .val (.int (1 : Int32)), .val (.int (1 : Int32)), .val (.ref a_TO), .unset, .unset]) rfl ?_
          show Steps p.tables e below (T148.setTop (mkF m 66 #[.val (.int i0), .val (.int i1), .val (.int (1 : Int32)), .val (.int (1 : Int32)), .val (.int (1 : Int32)), .val (.ref a_TO), .unset, .unset] [])) _
          refine XS.iconst X148.here hx rfl (hb hby at_66) ?_
          show Steps p.tables e below (T148.setTop (mkF m 67 #[.val (.int i0), .val (.int i1), .val (.int (1 : Int32)), .val (.int (1 : Int32)), .val (.int (1 : Int32)), .val (.ref a_TO), .unset, .unset] [(.int (4 : Int32))])) _
          refine st149 _ ?_
          show Steps p.tables e below (T149.setTop (mkF m 69 #[.val (.int i0), .val (.int i1), .val (.int (1 : Int32)), .val (.int (1 : Int32)), .val (.int (1 : Int32)), .val (.ref a_TO), .unset, .unset] [(.ref b149)])) _
          refine XS.dup X149.here hx rfl (hb hby at_69) rfl rfl ?_
          show Steps p.tables e below (T149.setTop (mkF m 70 #[.val (.int i0), .val (.int i1), .val (.int (1 : Int32)), .val (.int (1 : Int32)), .val (.int (1 : Int32)), .val (.ref a_TO), .unset, .unset] [(.ref b149), (.ref b149)])) _
          refine XS.iconst X149.here hx rfl (hb hby at_70) ?_
          show Steps p.tables e below (T149.setTop (mkF m 71 #[.val (.int i0), .val (.int i1), .val (.int (1 : Int32)), .val (.int (1 : Int32)), .val (.int (1 : Int32)), .val (.ref a_TO), .unset, .unset] [(.int (0 : Int32)), (.ref b149), (.ref b149)])) _
          refine XS.iconst X149.here hx rfl (hb hby at_71) ?_
          show Steps p.tables e below (T149.setTop (mkF m 72 #[.val (.int i0), .val (.int i1), .val (.int (1 : Int32)), .val (.int (1 : Int32)), .val (.int (1 : Int32)), .val (.ref a_TO), .unset, .unset] [(.int (0 : Int32)), (.int (0 : Int32)), (.ref b149), (.ref b149)])) _
          refine st151 _ ?_
          show Steps p.tables e below (T151.setTop (mkF m 73 #[.val (.int i0), .val (.int i1), .val (.int (1 : Int32)), .val (.int (1 : Int32)), .val (.int (1 : Int32)), .val (.ref a_TO), .unset, .unset] [(.ref b149)])) _
          refine XS.dup X151.here hx rfl (hb hby at_73) rfl rfl ?_
          show Steps p.tables e below (T151.setTop (mkF m 74 #[.val (.int i0), .val (.int i1), .val (.int (1 : Int32)), .val (.int (1 : Int32)), .val (.int (1 : Int32)), .val (.ref a_TO), .unset, .unset] [(.ref b149), (.ref b149)])) _
          refine XS.iconst X151.here hx rfl (hb hby at_74) ?_
          show Steps p.tables e below (T151.setTop (mkF m 75 #[.val (.int i0), .val (.int i1), .val (.int (1 : Int32)), .val (.int (1 : Int32)), .val (.int (1 : Int32)), .val (.ref a_TO), .unset, .unset] [(.int (1 : Int32)), (.ref b149), (.ref b149)])) _
          refine XS.iconst X151.here hx rfl (hb hby at_75) ?_
          show Steps p.tables e below (T151.setTop (mkF m 76 #[.val (.int i0), .val (.int i1), .val (.int (1 : Int32)), .val (.int (1 : Int32)), .val (.int (1 : Int32)), .val (.ref a_TO), .unset, .unset] [(.int (1 : Int32)), (.int (1 : Int32)), (.ref b149), (.ref b149)])) _
          refine st153 _ ?_
          show Steps p.tables e below (T153.setTop (mkF m 77 #[.val (.int i0), .val (.int i1), .val (.int (1 : Int32)), .val (.int (1 : Int32)), .val (.int (1 : Int32)), .val (.ref a_TO), .unset, .unset] [(.ref b149)])) _
          refine XS.dup X153.here hx rfl (hb hby at_77) rfl rfl ?_
          show Steps p.tables e below (T153.setTop (mkF m 78 #[.val (.int i0), .val (.int i1), .val (.int (1 : Int32)), .val (.int (1 : Int32)), .val (.int (1 : Int32)), .val (.ref a_TO), .unset, .unset] [(.ref b149), (.ref b149)])) _
          refine XS.iconst X153.here hx rfl (hb hby at_78) ?_
          show Steps p.tables e below (T153.setTop (mkF m 79 #[.val (.int i0), .val (.int i1), .val (.int (1 : Int32)), .val (.int (1 : Int32)), .val (.int (1 : Int32)), .val (.ref a_TO), .unset, .unset] [(.int (2 : Int32)), (.ref b149), (.ref b149)])) _
          refine XS.iconst X153.here hx rfl (hb hby at_79) ?_
          show Steps p.tables e below (T153.setTop (mkF m 80 #[.val (.int i0), .val (.int i1), .val (.int (1 : Int32)), .val (.int (1 : Int32)), .val (.int (1 : Int32)), .val (.ref a_TO), .unset, .unset] [(.int (0 : Int32)), (.int (2 : Int32)), (.ref b149), (.ref b149)])) _
          refine st155 _ ?_
          show Steps p.tables e below (T155.setTop (mkF m 81 #[.val (.int i0), .val (.int i1), .val (.int (1 : Int32)), .val (.int (1 : Int32)), .val (.int (1 : Int32)), .val (.ref a_TO), .unset, .unset] [(.ref b149)])) _
          refine XS.dup X155.here hx rfl (hb hby at_81) rfl rfl ?_
          show Steps p.tables e below (T155.setTop (mkF m 82 #[.val (.int i0), .val (.int i1), .val (.int (1 : Int32)), .val (.int (1 : Int32)), .val (.int (1 : Int32)), .val (.ref a_TO), .unset, .unset] [(.ref b149), (.ref b149)])) _
          refine XS.iconst X155.here hx rfl (hb hby at_82) ?_
          show Steps p.tables e below (T155.setTop (mkF m 83 #[.val (.int i0), .val (.int i1), .val (.int (1 : Int32)), .val (.int (1 : Int32)), .val (.int (1 : Int32)), .val (.ref a_TO), .unset, .unset] [(.int (3 : Int32)), (.ref b149), (.ref b149)])) _
          refine XS.iconst X155.here hx rfl (hb hby at_83) ?_
          show Steps p.tables e below (T155.setTop (mkF m 84 #[.val (.int i0), .val (.int i1), .val (.int (1 : Int32)), .val (.int (1 : Int32)), .val (.int (1 : Int32)), .val (.ref a_TO), .unset, .unset] [(.int (1 : Int32)), (.int (3 : Int32)), (.ref b149), (.ref b149)])) _
          refine st157 _ ?_
          show Steps p.tables e below (T157.setTop (mkF m 85 #[.val (.int i0), .val (.int i1), .val (.int (1 : Int32)), .val (.int (1 : Int32)), .val (.int (1 : Int32)), .val (.ref a_TO), .unset, .unset] [(.ref b149)])) _
          refine XS.astore X157.here hx rfl (hb hby at_85) rfl rfl (l' := #[.val (.int i0), .val (.int i1), .val (.int (1 : Int32)), .val (.int (1 : Int32)), .val (.int (1 : Int32)), .val (.ref a_TO), .val (.ref b149), .unset]) rfl ?_
          show Steps p.tables e below (T157.setTop (mkF m 87 #[.val (.int i0), .val (.int i1), .val (.int (1 : Int32)), .val (.int (1 : Int32)), .val (.int (1 : Int32)), .val (.ref a_TO), .val (.ref b149), .unset] [])) _
          refine XS.aload X157.here hx rfl (hb hby at_87) rfl rfl ?_
          show Steps p.tables e below (T157.setTop (mkF m 89 #[.val (.int i0), .val (.int i1), .val (.int (1 : Int32)), .val (.int (1 : Int32)), .val (.int (1 : Int32)), .val (.ref a_TO), .val (.ref b149), .unset] [(.ref b149)])) _
          refine XS.iloadN X157.here hx rfl (hb hby at_89) rfl ?_
          show Steps p.tables e below (T157.setTop (mkF m 90 #[.val (.int i0), .val (.int i1), .val (.int (1 : Int32)), .val (.int (1 : Int32)), .val (.int (1 : Int32)), .val (.ref a_TO), .val (.ref b149), .unset] [(.int (1 : Int32)), (.ref b149)])) _
          refine X157.baloadBooleans hx (j := (1 : Int32)) (v := (.int (1 : Int32))) (by rw [e157]; exact Ar158.1) (State.isArrayOf_alike hZ.alike Ar158.2.1) Ar158.2.2 hin158 hat158 (g := (mkF m 90 #[.val (.int i0), .val (.int i1), .val (.int (1 : Int32)), .val (.int (1 : Int32)), .val (.int (1 : Int32)), .val (.ref a_TO), .val (.ref b149), .unset] [(.int (1 : Int32)), (.ref b149)])) rfl rfl (hb hby at_90) _ ?_
          show Steps p.tables e below (T157.setTop (mkF m 91 #[.val (.int i0), .val (.int i1), .val (.int (1 : Int32)), .val (.int (1 : Int32)), .val (.int (1 : Int32)), .val (.ref a_TO), .val (.ref b149), .unset] [(.int (1 : Int32))])) _
          refine XS.istore X157.here hx rfl (hb hby at_91) rfl (l' := #[.val (.int i0), .val (.int i1), .val (.int (1 : Int32)), .val (.int (1 : Int32)), .val (.int (1 : Int32)), .val (.ref a_TO), .val (.ref b149), .val (.int (1 : Int32))]) rfl ?_
          show Steps p.tables e below (T157.setTop (mkF m 93 #[.val (.int i0), .val (.int i1), .val (.int (1 : Int32)), .val (.int (1 : Int32)), .val (.int (1 : Int32)), .val (.ref a_TO), .val (.ref b149), .val (.int (1 : Int32))] [])) _
          refine XS.aload X157.here hx rfl (hb hby at_93) rfl rfl ?_
          show Steps p.tables e below (T157.setTop (mkF m 95 #[.val (.int i0), .val (.int i1), .val (.int (1 : Int32)), .val (.int (1 : Int32)), .val (.int (1 : Int32)), .val (.ref a_TO), .val (.ref b149), .val (.int (1 : Int32))] [(.ref a_TO)])) _
          refine st160.trans ?_
          show Steps p.tables e below (T160.setTop (mkF m 98 #[.val (.int i0), .val (.int i1), .val (.int (1 : Int32)), .val (.int (1 : Int32)), .val (.int (1 : Int32)), .val (.ref a_TO), .val (.ref b149), .val (.int (1 : Int32))] [(.int (1 : Int32))])) _
          refine XS.iload X160.here hx rfl (hb hby at_98) rfl ?_
          show Steps p.tables e below (T160.setTop (mkF m 100 #[.val (.int i0), .val (.int i1), .val (.int (1 : Int32)), .val (.int (1 : Int32)), .val (.int (1 : Int32)), .val (.ref a_TO), .val (.ref b149), .val (.int (1 : Int32))] [(.int (1 : Int32)), (.int (1 : Int32))])) _
          refine XS.icmpNo X160.here hx rfl (hb hby at_100) rfl (by decide) ?_
          show Steps p.tables e below (T160.setTop (mkF m 103 #[.val (.int i0), .val (.int i1), .val (.int (1 : Int32)), .val (.int (1 : Int32)), .val (.int (1 : Int32)), .val (.ref a_TO), .val (.ref b149), .val (.int (1 : Int32))] [])) _
          refine XS.aload X160.here hx rfl (hb hby at_103) rfl rfl ?_
          show Steps p.tables e below (T160.setTop (mkF m 105 #[.val (.int i0), .val (.int i1), .val (.int (1 : Int32)), .val (.int (1 : Int32)), .val (.int (1 : Int32)), .val (.ref a_TO), .val (.ref b149), .val (.int (1 : Int32))] [(.ref a_TO)])) _
          refine XS.iloadN X160.here hx rfl (hb hby at_105) rfl ?_
          show Steps p.tables e below (T160.setTop (mkF m 106 #[.val (.int i0), .val (.int i1), .val (.int (1 : Int32)), .val (.int (1 : Int32)), .val (.int (1 : Int32)), .val (.ref a_TO), .val (.ref b149), .val (.int (1 : Int32))] [(.int (1 : Int32)), (.ref a_TO)])) _
          refine st162.trans ?_
          show Steps p.tables e below (T162.setTop (mkF m 109 #[.val (.int i0), .val (.int i1), .val (.int (1 : Int32)), .val (.int (1 : Int32)), .val (.int (1 : Int32)), .val (.ref a_TO), .val (.ref b149), .val (.int (1 : Int32))] [(.ref a_TO)])) _
          refine st163.trans ?_
          show Steps p.tables e below (T163.setTop (mkF m 112 #[.val (.int i0), .val (.int i1), .val (.int (1 : Int32)), .val (.int (1 : Int32)), .val (.int (1 : Int32)), .val (.ref a_TO), .val (.ref b149), .val (.int (1 : Int32))] [(.int (1 : Int32))])) _
          refine XS.iloadN X163.here hx rfl (hb hby at_112) rfl ?_
          show Steps p.tables e below (T163.setTop (mkF m 113 #[.val (.int i0), .val (.int i1), .val (.int (1 : Int32)), .val (.int (1 : Int32)), .val (.int (1 : Int32)), .val (.ref a_TO), .val (.ref b149), .val (.int (1 : Int32))] [(.int (1 : Int32)), (.int (1 : Int32))])) _
          refine XS.icmpNo X163.here hx rfl (hb hby at_113) rfl (by decide) ?_
          show Steps p.tables e below (T163.setTop (mkF m 116 #[.val (.int i0), .val (.int i1), .val (.int (1 : Int32)), .val (.int (1 : Int32)), .val (.int (1 : Int32)), .val (.ref a_TO), .val (.ref b149), .val (.int (1 : Int32))] [])) _
          refine XS.aload X163.here hx rfl (hb hby at_116) rfl rfl ?_
          show Steps p.tables e below (T163.setTop (mkF m 118 #[.val (.int i0), .val (.int i1), .val (.int (1 : Int32)), .val (.int (1 : Int32)), .val (.int (1 : Int32)), .val (.ref a_TO), .val (.ref b149), .val (.int (1 : Int32))] [(.ref a_TO)])) _
          refine XS.iload X163.here hx rfl (hb hby at_118) rfl ?_
          show Steps p.tables e below (T163.setTop (mkF m 120 #[.val (.int i0), .val (.int i1), .val (.int (1 : Int32)), .val (.int (1 : Int32)), .val (.int (1 : Int32)), .val (.ref a_TO), .val (.ref b149), .val (.int (1 : Int32))] [(.int (1 : Int32)), (.ref a_TO)])) _
          refine st164.trans ?_
          show Steps p.tables e below (T164.setTop (mkF m 123 #[.val (.int i0), .val (.int i1), .val (.int (1 : Int32)), .val (.int (1 : Int32)), .val (.int (1 : Int32)), .val (.ref a_TO), .val (.ref b149), .val (.int (1 : Int32))] [(.ref a_BOTH)])) _
          refine st165.trans ?_
          show Steps p.tables e below (T165.setTop (mkF m 126 #[.val (.int i0), .val (.int i1), .val (.int (1 : Int32)), .val (.int (1 : Int32)), .val (.int (1 : Int32)), .val (.ref a_TO), .val (.ref b149), .val (.int (1 : Int32))] [(.int (1 : Int32))])) _
          refine XS.iload X165.here hx rfl (hb hby at_126) rfl ?_
          show Steps p.tables e below (T165.setTop (mkF m 128 #[.val (.int i0), .val (.int i1), .val (.int (1 : Int32)), .val (.int (1 : Int32)), .val (.int (1 : Int32)), .val (.ref a_TO), .val (.ref b149), .val (.int (1 : Int32))] [(.int (1 : Int32)), (.int (1 : Int32))])) _
          refine XS.icmpNo X165.here hx rfl (hb hby at_128) rfl (by decide) ?_
          show Steps p.tables e below (T165.setTop (mkF m 131 #[.val (.int i0), .val (.int i1), .val (.int (1 : Int32)), .val (.int (1 : Int32)), .val (.int (1 : Int32)), .val (.ref a_TO), .val (.ref b149), .val (.int (1 : Int32))] [])) _
          refine XS.iconst X165.here hx rfl (hb hby at_131) ?_
          show Steps p.tables e below (T165.setTop (mkF m 132 #[.val (.int i0), .val (.int i1), .val (.int (1 : Int32)), .val (.int (1 : Int32)), .val (.int (1 : Int32)), .val (.ref a_TO), .val (.ref b149), .val (.int (1 : Int32))] [(.int (1 : Int32))])) _
          refine XS.goto X165.here hx rfl (pc0 := 132) (pc' := 136) rfl (hb hby at_132) (by decide) (by decide) ?_
          show Steps p.tables e below (T165.setTop (mkF m 136 #[.val (.int i0), .val (.int i1), .val (.int (1 : Int32)), .val (.int (1 : Int32)), .val (.int (1 : Int32)), .val (.ref a_TO), .val (.ref b149), .val (.int (1 : Int32))] [(.int (1 : Int32))])) _
          exact retN X165 hx (t := .boolean) Bd.returns (by simp) (hb hby at_136) hr
        · show QL n0 _ T165.heap _
          rw [hh165]
          exact ⟨rfl, N165⟩
  · skip
    have pre167 : ∀ t, Steps p.tables e below (s₁.setTop (mkF m 7 #[.val (.int i0), .val (.int i1), .val (.int (2 : Int32)), .unset, .unset, .unset, .unset, .unset] [(.int (i1 &&& (1 : Int32)))])) t → Steps p.tables e below (s₁.setTop (entryFrame m #[(.int i0), (.int i1)] maxLocals)) t := fun t kt => pre1 t (by
        show Steps p.tables e below (s₁.setTop (mkF m 3 #[.val (.int i0), .val (.int i1), .unset, .unset, .unset, .unset, .unset, .unset] [(.int (i0 &&& (3 : Int32)))])) _
        rw [hk2]
        show Steps p.tables e below (s₁.setTop (mkF m 3 #[.val (.int i0), .val (.int i1), .unset, .unset, .unset, .unset, .unset, .unset] [(.int (2 : Int32))])) _
        refine XS.istoreN X0.here hx rfl (hb hby at_3) rfl (l' := #[.val (.int i0), .val (.int i1), .val (.int (2 : Int32)), .unset, .unset, .unset, .unset, .unset]) rfl ?_
        show Steps p.tables e below (s₁.setTop (mkF m 4 #[.val (.int i0), .val (.int i1), .val (.int (2 : Int32)), .unset, .unset, .unset, .unset, .unset] [])) _
        refine XS.iloadN X0.here hx rfl (hb hby at_4) rfl ?_
        show Steps p.tables e below (s₁.setTop (mkF m 5 #[.val (.int i0), .val (.int i1), .val (.int (2 : Int32)), .unset, .unset, .unset, .unset, .unset] [(.int i1)])) _
        refine XS.iconst X0.here hx rfl (hb hby at_5) ?_
        show Steps p.tables e below (s₁.setTop (mkF m 6 #[.val (.int i0), .val (.int i1), .val (.int (2 : Int32)), .unset, .unset, .unset, .unset, .unset] [(.int (1 : Int32)), (.int i1)])) _
        refine XS.iand X0.here hx rfl (hb hby at_6) rfl ?_
        exact kt)
    rcases own_b i1 with hk168 | hk168
    · skip
      have pre169 : ∀ t, Steps p.tables e below (s₁.setTop (mkF m 19 #[.val (.int i0), .val (.int i1), .val (.int (2 : Int32)), .val (.int (0 : Int32)), .unset, .unset, .unset, .unset] [(.int (i1 &&& (2 : Int32)))])) t → Steps p.tables e below (s₁.setTop (entryFrame m #[(.int i0), (.int i1)] maxLocals)) t := fun t kt => pre167 t (by
          show Steps p.tables e below (s₁.setTop (mkF m 7 #[.val (.int i0), .val (.int i1), .val (.int (2 : Int32)), .unset, .unset, .unset, .unset, .unset] [(.int (i1 &&& (1 : Int32)))])) _
          rw [hk168]
          show Steps p.tables e below (s₁.setTop (mkF m 7 #[.val (.int i0), .val (.int i1), .val (.int (2 : Int32)), .unset, .unset, .unset, .unset, .unset] [(.int (0 : Int32))])) _
          refine XS.ifYes X0.here hx rfl (pc0 := 7) (pc' := 14) rfl (hb hby at_7) rfl (by decide) (by decide) (by decide) ?_
          show Steps p.tables e below (s₁.setTop (mkF m 14 #[.val (.int i0), .val (.int i1), .val (.int (2 : Int32)), .unset, .unset, .unset, .unset, .unset] [])) _
          refine XS.iconst X0.here hx rfl (hb hby at_14) ?_
          show Steps p.tables e below (s₁.setTop (mkF m 15 #[.val (.int i0), .val (.int i1), .val (.int (2 : Int32)), .unset, .unset, .unset, .unset, .unset] [(.int (0 : Int32))])) _
          refine XS.istoreN X0.here hx rfl (hb hby at_15) rfl (l' := #[.val (.int i0), .val (.int i1), .val (.int (2 : Int32)), .val (.int (0 : Int32)), .unset, .unset, .unset, .unset]) rfl ?_
          show Steps p.tables e below (s₁.setTop (mkF m 16 #[.val (.int i0), .val (.int i1), .val (.int (2 : Int32)), .val (.int (0 : Int32)), .unset, .unset, .unset, .unset] [])) _
          refine XS.iloadN X0.here hx rfl (hb hby at_16) rfl ?_
          show Steps p.tables e below (s₁.setTop (mkF m 17 #[.val (.int i0), .val (.int i1), .val (.int (2 : Int32)), .val (.int (0 : Int32)), .unset, .unset, .unset, .unset] [(.int i1)])) _
          refine XS.iconst X0.here hx rfl (hb hby at_17) ?_
          show Steps p.tables e below (s₁.setTop (mkF m 18 #[.val (.int i0), .val (.int i1), .val (.int (2 : Int32)), .val (.int (0 : Int32)), .unset, .unset, .unset, .unset] [(.int (2 : Int32)), (.int i1)])) _
          refine XS.iand X0.here hx rfl (hb hby at_18) rfl ?_
          exact kt)
      rcases own_c i1 with hk170 | hk170
      · skip
        obtain ⟨T171, X171, e171, st171⟩ := getS2 X0 hx hZ hown (host := "") (Or.inl (hw _ (List.mem_of_getElem? (i := 34) rfl))) Via.refl e0 (Sta.ext O0.2 S_a_FROM) (g := (mkF m 55 #[.val (.int i0), .val (.int i1), .val (.int (2 : Int32)), .val (.int (0 : Int32)), .val (.int (0 : Int32)), .unset, .unset, .unset] [])) rfl (hb hby at_55)
        obtain ⟨T172, h172, k172, X172, e172, E172, A172, st172⟩ := newP X171 hx hZ (hw _ (List.mem_of_getElem? (i := 3) rfl)) e171 (g := (mkF m 67 #[.val (.int i0), .val (.int i1), .val (.int (2 : Int32)), .val (.int (0 : Int32)), .val (.int (0 : Int32)), .val (.ref a_FROM), .unset, .unset] [(.int (4 : Int32))])) rfl (hb hby at_67) rfl (by decide) (cap := 4) (by decide) (by decide) (by decide) (by decide)
        obtain ⟨b172, g172⟩ : ∃ z, z = h0.size := ⟨_, rfl⟩
        rw [← g172] at A172 st172
        have gb172 : n0 ≤ b172 := by rw [g172, ← O0.1]; exact O0.2.1
        have ne172_a_BOTH : a_BOTH ≠ b172 := by rw [g172]; exact Nat.ne_of_lt ((Exa.ext O0.2 X_a_BOTH)).lt
        have ne172_a_FROM : a_FROM ≠ b172 := by rw [g172]; exact Nat.ne_of_lt ((Exa.ext O0.2 X_a_FROM)).lt
        have ne172_a_NONE : a_NONE ≠ b172 := by rw [g172]; exact Nat.ne_of_lt ((Exa.ext O0.2 X_a_NONE)).lt
        have ne172_a_TO : a_TO ≠ b172 := by rw [g172]; exact Nat.ne_of_lt ((Exa.ext O0.2 X_a_TO)).lt
        have V172 : Arv Z h172 b172 k172 .boolean (4 : Int32) [(.int (0 : Int32)), (.int (0 : Int32)), (.int (0 : Int32)), (.int (0 : Int32))] (.int (0 : Int32)) := (Arv.new A172 (by decide)).pad (pad_rep [] (.int (0 : Int32)) 4)
        obtain ⟨cl173, Ar173, q173, S173, N173_, H173, G173⟩ := V172
        have hin173 : ¬ ((0 : Int32) < 0 ∨ cl173.slots.size ≤ ((0 : Int32)).toNatClampNeg) := inb_of S173 ⟨by decide, by decide⟩
        obtain ⟨T174, h174, X174, e174, W174, st174⟩ := stZ X172 hx hZ e172 Ar173 (j := (0 : Int32)) hin173 (g := (mkF m 72 #[.val (.int i0), .val (.int i1), .val (.int (2 : Int32)), .val (.int (0 : Int32)), .val (.int (0 : Int32)), .val (.ref a_FROM), .unset, .unset] [(.int (0 : Int32)), (.int (0 : Int32)), (.ref b172), (.ref b172)])) rfl rfl (hb hby at_72)
        have V174 : Arv Z h174 b172 k172 .boolean (4 : Int32) [(.int (0 : Int32)), (.int (0 : Int32)), (.int (0 : Int32)), (.int (0 : Int32))] (.int (0 : Int32)) := Arv.set Ar173 q173 S173 N173_ H173 G173 (fits_nar_bool _) W174 0 rfl (Nat.le_of_ble_eq_true rfl)
        have N174 := Fr.snoc X174 N0 gb172
        obtain ⟨cl175, Ar175, q175, S175, N175_, H175, G175⟩ := V174
        have hin175 : ¬ ((1 : Int32) < 0 ∨ cl175.slots.size ≤ ((1 : Int32)).toNatClampNeg) := inb_of S175 ⟨by decide, by decide⟩
        obtain ⟨T176, h176, X176, e176, W176, st176⟩ := stZ X174 hx hZ e174 Ar175 (j := (1 : Int32)) hin175 (g := (mkF m 76 #[.val (.int i0), .val (.int i1), .val (.int (2 : Int32)), .val (.int (0 : Int32)), .val (.int (0 : Int32)), .val (.ref a_FROM), .unset, .unset] [(.int (1 : Int32)), (.int (1 : Int32)), (.ref b172), (.ref b172)])) rfl rfl (hb hby at_76)
        have V176 : Arv Z h176 b172 k172 .boolean (4 : Int32) [(.int (0 : Int32)), (.int (1 : Int32)), (.int (0 : Int32)), (.int (0 : Int32))] (.int (0 : Int32)) := Arv.set Ar175 q175 S175 N175_ H175 G175 (fits_nar_bool _) W176 1 rfl (Nat.le_of_ble_eq_true rfl)
        have N176 := Fr.snoc X176 N174 gb172
        obtain ⟨cl177, Ar177, q177, S177, N177_, H177, G177⟩ := V176
        have hin177 : ¬ ((2 : Int32) < 0 ∨ cl177.slots.size ≤ ((2 : Int32)).toNatClampNeg) := inb_of S177 ⟨by decide, by decide⟩
        obtain ⟨T178, h178, X178, e178, W178, st178⟩ := stZ X176 hx hZ e176 Ar177 (j := (2 : Int32)) hin177 (g := (mkF m 80 #[.val (.int i0), .val (.int i1), .val (.int (2 : Int32)), .val (.int (0 : Int32)), .val (.int (0 : Int32)), .val (.ref a_FROM), .unset, .unset] [(.int (0 : Int32)), (.int (2 : Int32)), (.ref b172), (.ref b172)])) rfl rfl (hb hby at_80)
        have V178 : Arv Z h178 b172 k172 .boolean (4 : Int32) [(.int (0 : Int32)), (.int (1 : Int32)), (.int (0 : Int32)), (.int (0 : Int32))] (.int (0 : Int32)) := Arv.set Ar177 q177 S177 N177_ H177 G177 (fits_nar_bool _) W178 2 rfl (Nat.le_of_ble_eq_true rfl)
        have N178 := Fr.snoc X178 N176 gb172
        obtain ⟨cl179, Ar179, q179, S179, N179_, H179, G179⟩ := V178
        have hin179 : ¬ ((3 : Int32) < 0 ∨ cl179.slots.size ≤ ((3 : Int32)).toNatClampNeg) := inb_of S179 ⟨by decide, by decide⟩
        obtain ⟨T180, h180, X180, e180, W180, st180⟩ := stZ X178 hx hZ e178 Ar179 (j := (3 : Int32)) hin179 (g := (mkF m 84 #[.val (.int i0), .val (.int i1), .val (.int (2 : Int32)), .val (.int (0 : Int32)), .val (.int (0 : Int32)), .val (.ref a_FROM), .unset, .unset] [(.int (1 : Int32)), (.int (3 : Int32)), (.ref b172), (.ref b172)])) rfl rfl (hb hby at_84)
        have V180 : Arv Z h180 b172 k172 .boolean (4 : Int32) [(.int (0 : Int32)), (.int (1 : Int32)), (.int (0 : Int32)), (.int (1 : Int32))] (.int (0 : Int32)) := Arv.set Ar179 q179 S179 N179_ H179 G179 (fits_nar_bool _) W180 3 rfl (Nat.le_of_ble_eq_true rfl)
        have N180 := Fr.snoc X180 N178 gb172
        obtain ⟨cl181, Ar181, q181, S181, N181_, H181, G181⟩ := V180
        have hin181 : ¬ ((2 : Int32) < 0 ∨ cl181.slots.size ≤ ((2 : Int32)).toNatClampNeg) := inb_of S181 ⟨by decide, by decide⟩
        have hat181 : cl181.slots[((2 : Int32)).toNatClampNeg]? = some (.int (0 : Int32)) := H181.at hin181 rfl
        have O182 : Old Z n0 h180 := (((((O0.ext E172).wr W174 gb172).wr W176 gb172).wr W178 gb172).wr W180 gb172)
        have f184 := ((((((Exa.ext O0.2 X_a_FROM).ext E172).wr W174).wr W176).wr W178).wr W180)
        obtain ⟨cq183, kq183, q183a, q183b, q183c⟩ := isOf hZ e180 f184
        obtain ⟨_, _, ⟨T183, L183, k183, n183⟩, -, X183, ⟨Lc183, hQ183, l183, y183, z183⟩, st183⟩ := X180.virtualBack hx (y := (⟨"com/example/carbonfold/carbonfold/model/RosterItem$Subscription", "hasTo", "()Z"⟩ : MethodName)) (z := (⟨"com/example/carbonfold/carbonfold/model/RosterItem$Subscription", "hasTo", "()Z"⟩ : MethodName)) hown (mvT hZ (hw _ (List.mem_of_getElem? (i := 4) rfl))) (mvT hZ (hw _ (List.mem_of_getElem? (i := 5) rfl))) (notFace_of_selects (args := #[]) (mvT hZ (hw _ (List.mem_of_getElem? (i := 7) rfl)))) (mvT hZ (hw _ (List.mem_of_getElem? (i := 7) rfl))) (mvT hZ (hw _ (List.mem_of_getElem? (i := 6) rfl))) (by decide) (backOf (W := 0) (rm_hasTo_8 l Z a0 hw [] a_NONE a_TO a_BOTH a_FROM h180 n0 O182 En) hZ (hw _ (List.mem_of_getElem? (i := 8) rfl)) (hw _ (List.mem_of_getElem? (i := 1) rfl)) (by decide) (by decide)) q183a q183c (g := (mkF m 95 #[.val (.int i0), .val (.int i1), .val (.int (2 : Int32)), .val (.int (0 : Int32)), .val (.int (0 : Int32)), .val (.ref a_FROM), .val (.ref b172), .val (.int (0 : Int32))] [(.ref a_FROM)])) rfl (by rw [hml]; rfl) (Steps.refl _) (argsL := []) (rest := []) (lenOf pd_0 rfl) rfl (by show 2 * 0 + _ ≤ _; exact Nat.le_of_eq rfl) (hb hby at_95) (fun _ _ => ⟨rfl, e180, (by decide : 1 + 0 ≤ _), (by decide : 4 + 0 ≤ _)⟩)
        dsimp only [Pt.U, Pt.locs, Pt.cells, Pt.slots] at X183 l183 y183 z183 st183 hQ183
        subst l183 y183 z183
        obtain ⟨rfl, N183q, hh183⟩ := hQ183
        have N183 := Fr.app N180 N183q
        obtain ⟨cq185, kq185, q185a, q185b, q185c⟩ := isOf hZ hh183 f184
        obtain ⟨_, _, ⟨T185, L185, k185, n185⟩, -, X185, ⟨Lc185, hQ185, l185, y185, z185⟩, st185⟩ := X183.virtualBack hx (y := (⟨"com/example/carbonfold/carbonfold/model/RosterItem$Subscription", "withTo", "(Z)Lcom/example/carbonfold/carbonfold/model/RosterItem$Subscription;"⟩ : MethodName)) (z := (⟨"com/example/carbonfold/carbonfold/model/RosterItem$Subscription", "withTo", "(Z)Lcom/example/carbonfold/carbonfold/model/RosterItem$Subscription;"⟩ : MethodName)) hown (mvT hZ (hw _ (List.mem_of_getElem? (i := 13) rfl))) (mvT hZ (hw _ (List.mem_of_getElem? (i := 14) rfl))) (notFace_of_selects (args := #[]) (mvT hZ (hw _ (List.mem_of_getElem? (i := 16) rfl)))) (mvT hZ (hw _ (List.mem_of_getElem? (i := 16) rfl))) (mvT hZ (hw _ (List.mem_of_getElem? (i := 15) rfl))) (by decide) (backOf (W := 0) (rm_withTo_19 l Z a0 hw [] a_NONE a_TO a_BOTH a_FROM h180 n0 O182 En) hZ (hw _ (List.mem_of_getElem? (i := 17) rfl)) (hw _ (List.mem_of_getElem? (i := 1) rfl)) (by decide) (by decide)) q185a q185c (g := (mkF m 106 #[.val (.int i0), .val (.int i1), .val (.int (2 : Int32)), .val (.int (0 : Int32)), .val (.int (0 : Int32)), .val (.ref a_FROM), .val (.ref b172), .val (.int (0 : Int32))] [(.int (0 : Int32)), (.ref a_FROM)])) rfl (by rw [hml]; rfl) (Steps.refl _) (argsL := [(.int (0 : Int32))]) (rest := []) (lenOf pd_2 rfl) rfl (by show 2 * 0 + _ ≤ _; exact Nat.le_of_eq rfl) (hb hby at_106) (fun _ _ => ⟨rfl, hh183, (by decide : 1 + 0 ≤ _), (by decide : 4 + 0 ≤ _)⟩)
        dsimp only [Pt.U, Pt.locs, Pt.cells, Pt.slots] at X185 l185 y185 z185 st185 hQ185
        subst l185 y185 z185
        obtain ⟨rfl, N185q, hh185⟩ := hQ185
        have N185 := Fr.app N183 N185q
        obtain ⟨cq186, kq186, q186a, q186b, q186c⟩ := isOf hZ hh185 f184
        obtain ⟨_, _, ⟨T186, L186, k186, n186⟩, -, X186, ⟨Lc186, hQ186, l186, y186, z186⟩, st186⟩ := X185.virtualBack hx (y := (⟨"com/example/carbonfold/carbonfold/model/RosterItem$Subscription", "hasTo", "()Z"⟩ : MethodName)) (z := (⟨"com/example/carbonfold/carbonfold/model/RosterItem$Subscription", "hasTo", "()Z"⟩ : MethodName)) hown (mvT hZ (hw _ (List.mem_of_getElem? (i := 4) rfl))) (mvT hZ (hw _ (List.mem_of_getElem? (i := 5) rfl))) (notFace_of_selects (args := #[]) (mvT hZ (hw _ (List.mem_of_getElem? (i := 7) rfl)))) (mvT hZ (hw _ (List.mem_of_getElem? (i := 7) rfl))) (mvT hZ (hw _ (List.mem_of_getElem? (i := 6) rfl))) (by decide) (backOf (W := 0) (rm_hasTo_8 l Z a0 hw [] a_NONE a_TO a_BOTH a_FROM h180 n0 O182 En) hZ (hw _ (List.mem_of_getElem? (i := 8) rfl)) (hw _ (List.mem_of_getElem? (i := 1) rfl)) (by decide) (by decide)) q186a q186c (g := (mkF m 109 #[.val (.int i0), .val (.int i1), .val (.int (2 : Int32)), .val (.int (0 : Int32)), .val (.int (0 : Int32)), .val (.ref a_FROM), .val (.ref b172), .val (.int (0 : Int32))] [(.ref a_FROM)])) rfl (by rw [hml]; rfl) (Steps.refl _) (argsL := []) (rest := []) (lenOf pd_0 rfl) rfl (by show 2 * 0 + _ ≤ _; exact Nat.le_of_eq rfl) (hb hby at_109) (fun _ _ => ⟨rfl, hh185, (by decide : 1 + 0 ≤ _), (by decide : 4 + 0 ≤ _)⟩)
        dsimp only [Pt.U, Pt.locs, Pt.cells, Pt.slots] at X186 l186 y186 z186 st186 hQ186
        subst l186 y186 z186
        obtain ⟨rfl, N186q, hh186⟩ := hQ186
        have N186 := Fr.app N185 N186q
        obtain ⟨cq187, kq187, q187a, q187b, q187c⟩ := isOf hZ hh186 f184
        obtain ⟨_, _, ⟨T187, L187, k187, n187⟩, -, X187, ⟨Lc187, hQ187, l187, y187, z187⟩, st187⟩ := X186.virtualBack hx (y := (⟨"com/example/carbonfold/carbonfold/model/RosterItem$Subscription", "withFrom", "(Z)Lcom/example/carbonfold/carbonfold/model/RosterItem$Subscription;"⟩ : MethodName)) (z := (⟨"com/example/carbonfold/carbonfold/model/RosterItem$Subscription", "withFrom", "(Z)Lcom/example/carbonfold/carbonfold/model/RosterItem$Subscription;"⟩ : MethodName)) hown (mvT hZ (hw _ (List.mem_of_getElem? (i := 28) rfl))) (mvT hZ (hw _ (List.mem_of_getElem? (i := 29) rfl))) (notFace_of_selects (args := #[]) (mvT hZ (hw _ (List.mem_of_getElem? (i := 31) rfl)))) (mvT hZ (hw _ (List.mem_of_getElem? (i := 31) rfl))) (mvT hZ (hw _ (List.mem_of_getElem? (i := 30) rfl))) (by decide) (backOf (W := 0) (rm_withFrom_21 l Z a0 hw [] a_NONE a_TO a_BOTH a_FROM h180 n0 O182 En) hZ (hw _ (List.mem_of_getElem? (i := 32) rfl)) (hw _ (List.mem_of_getElem? (i := 1) rfl)) (by decide) (by decide)) q187a q187c (g := (mkF m 120 #[.val (.int i0), .val (.int i1), .val (.int (2 : Int32)), .val (.int (0 : Int32)), .val (.int (0 : Int32)), .val (.ref a_FROM), .val (.ref b172), .val (.int (0 : Int32))] [(.int (0 : Int32)), (.ref a_FROM)])) rfl (by rw [hml]; rfl) (Steps.refl _) (argsL := [(.int (0 : Int32))]) (rest := []) (lenOf pd_2 rfl) rfl (by show 2 * 0 + _ ≤ _; exact Nat.le_of_eq rfl) (hb hby at_120) (fun _ _ => ⟨rfl, hh186, (by decide : 1 + 0 ≤ _), (by decide : 4 + 0 ≤ _)⟩)
        dsimp only [Pt.U, Pt.locs, Pt.cells, Pt.slots] at X187 l187 y187 z187 st187 hQ187
        subst l187 y187 z187
        obtain ⟨rfl, N187q, hh187⟩ := hQ187
        have N187 := Fr.app N186 N187q
        have f189 := ((((((Exa.ext O0.2 X_a_NONE).ext E172).wr W174).wr W176).wr W178).wr W180)
        obtain ⟨cq188, kq188, q188a, q188b, q188c⟩ := isOf hZ hh187 f189
        obtain ⟨_, _, ⟨T188, L188, k188, n188⟩, -, X188, ⟨Lc188, hQ188, l188, y188, z188⟩, st188⟩ := X187.virtualBack hx (y := (⟨"com/example/carbonfold/carbonfold/model/RosterItem$Subscription", "hasTo", "()Z"⟩ : MethodName)) (z := (⟨"com/example/carbonfold/carbonfold/model/RosterItem$Subscription", "hasTo", "()Z"⟩ : MethodName)) hown (mvT hZ (hw _ (List.mem_of_getElem? (i := 4) rfl))) (mvT hZ (hw _ (List.mem_of_getElem? (i := 5) rfl))) (notFace_of_selects (args := #[]) (mvT hZ (hw _ (List.mem_of_getElem? (i := 7) rfl)))) (mvT hZ (hw _ (List.mem_of_getElem? (i := 7) rfl))) (mvT hZ (hw _ (List.mem_of_getElem? (i := 6) rfl))) (by decide) (backOf (W := 0) (rm_hasTo_1 l Z a0 hw [] a_NONE a_TO a_BOTH a_FROM h180 n0 O182 En) hZ (hw _ (List.mem_of_getElem? (i := 8) rfl)) (hw _ (List.mem_of_getElem? (i := 1) rfl)) (by decide) (by decide)) q188a q188c (g := (mkF m 123 #[.val (.int i0), .val (.int i1), .val (.int (2 : Int32)), .val (.int (0 : Int32)), .val (.int (0 : Int32)), .val (.ref a_FROM), .val (.ref b172), .val (.int (0 : Int32))] [(.ref a_NONE)])) rfl (by rw [hml]; rfl) (Steps.refl _) (argsL := []) (rest := []) (lenOf pd_0 rfl) rfl (by show 2 * 0 + _ ≤ _; exact Nat.le_of_eq rfl) (hb hby at_123) (fun _ _ => ⟨rfl, hh187, (by decide : 1 + 0 ≤ _), (by decide : 4 + 0 ≤ _)⟩)
        dsimp only [Pt.U, Pt.locs, Pt.cells, Pt.slots] at X188 l188 y188 z188 st188 hQ188
        subst l188 y188 z188
        obtain ⟨rfl, N188q, hh188⟩ := hQ188
        have N188 := Fr.app N187 N188q
        obtain ⟨fs, hr, hrun, hended, hW, hsame⟩ := X188.leave (v := some (.int (1 : Int32))) (fun h => by rw [Bd.returns] at h; cases h)
        refine ⟨_, _, pre169 _ ?_, hrun, hended, _, _, rfl, ?_, ⟨_, rfl⟩, hW, hsame.mono (by decide) (by decide)⟩
        · skip
          show Steps p.tables e below (s₁.setTop (mkF m 19 #[.val (.int i0), .val (.int i1), .val (.int (2 : Int32)), .val (.int (0 : Int32)), .unset, .unset, .unset, .unset] [(.int (i1 &&& (2 : Int32)))])) _
          rw [hk170]
          show Steps p.tables e below (s₁.setTop (mkF m 19 #[.val (.int i0), .val (.int i1), .val (.int (2 : Int32)), .val (.int (0 : Int32)), .unset, .unset, .unset, .unset] [(.int (0 : Int32))])) _
          refine XS.ifYes X0.here hx rfl (pc0 := 19) (pc' := 26) rfl (hb hby at_19) rfl (by decide) (by decide) (by decide) ?_
          show Steps p.tables e below (s₁.setTop (mkF m 26 #[.val (.int i0), .val (.int i1), .val (.int (2 : Int32)), .val (.int (0 : Int32)), .unset, .unset, .unset, .unset] [])) _
          refine XS.iconst X0.here hx rfl (hb hby at_26) ?_
          show Steps p.tables e below (s₁.setTop (mkF m 27 #[.val (.int i0), .val (.int i1), .val (.int (2 : Int32)), .val (.int (0 : Int32)), .unset, .unset, .unset, .unset] [(.int (0 : Int32))])) _
          refine XS.istore X0.here hx rfl (hb hby at_27) rfl (l' := #[.val (.int i0), .val (.int i1), .val (.int (2 : Int32)), .val (.int (0 : Int32)), .val (.int (0 : Int32)), .unset, .unset, .unset]) rfl ?_
          show Steps p.tables e below (s₁.setTop (mkF m 29 #[.val (.int i0), .val (.int i1), .val (.int (2 : Int32)), .val (.int (0 : Int32)), .val (.int (0 : Int32)), .unset, .unset, .unset] [])) _
          refine XS.iloadN X0.here hx rfl (hb hby at_29) rfl ?_
          show Steps p.tables e below (s₁.setTop (mkF m 30 #[.val (.int i0), .val (.int i1), .val (.int (2 : Int32)), .val (.int (0 : Int32)), .val (.int (0 : Int32)), .unset, .unset, .unset] [(.int (2 : Int32))])) _
          refine XS.ifYes X0.here hx rfl (pc0 := 30) (pc' := 39) rfl (hb hby at_30) rfl (by decide) (by decide) (by decide) ?_
          show Steps p.tables e below (s₁.setTop (mkF m 39 #[.val (.int i0), .val (.int i1), .val (.int (2 : Int32)), .val (.int (0 : Int32)), .val (.int (0 : Int32)), .unset, .unset, .unset] [])) _
          refine XS.iloadN X0.here hx rfl (hb hby at_39) rfl ?_
          show Steps p.tables e below (s₁.setTop (mkF m 40 #[.val (.int i0), .val (.int i1), .val (.int (2 : Int32)), .val (.int (0 : Int32)), .val (.int (0 : Int32)), .unset, .unset, .unset] [(.int (2 : Int32))])) _
          refine XS.iconst X0.here hx rfl (hb hby at_40) ?_
          show Steps p.tables e below (s₁.setTop (mkF m 41 #[.val (.int i0), .val (.int i1), .val (.int (2 : Int32)), .val (.int (0 : Int32)), .val (.int (0 : Int32)), .unset, .unset, .unset] [(.int (1 : Int32)), (.int (2 : Int32))])) _
          refine XS.icmpYes X0.here hx rfl (pc0 := 41) (pc' := 50) rfl (hb hby at_41) rfl (by decide) (by decide) (by decide) ?_
          show Steps p.tables e below (s₁.setTop (mkF m 50 #[.val (.int i0), .val (.int i1), .val (.int (2 : Int32)), .val (.int (0 : Int32)), .val (.int (0 : Int32)), .unset, .unset, .unset] [])) _
          refine XS.iloadN X0.here hx rfl (hb hby at_50) rfl ?_
          show Steps p.tables e below (s₁.setTop (mkF m 51 #[.val (.int i0), .val (.int i1), .val (.int (2 : Int32)), .val (.int (0 : Int32)), .val (.int (0 : Int32)), .unset, .unset, .unset] [(.int (2 : Int32))])) _
          refine XS.iconst X0.here hx rfl (hb hby at_51) ?_
          show Steps p.tables e below (s₁.setTop (mkF m 52 #[.val (.int i0), .val (.int i1), .val (.int (2 : Int32)), .val (.int (0 : Int32)), .val (.int (0 : Int32)), .unset, .unset, .unset] [(.int (2 : Int32)), (.int (2 : Int32))])) _
          refine XS.icmpNo X0.here hx rfl (hb hby at_52) rfl (by decide) ?_
          show Steps p.tables e below (s₁.setTop (mkF m 55 #[.val (.int i0), .val (.int i1), .val (.int (2 : Int32)), .val (.int (0 : Int32)), .val (.int (0 : Int32)), .unset, .unset, .unset] [])) _
          refine st171 _ ?_
          show Steps p.tables e below (T171.setTop (mkF m 58 #[.val (.int i0), .val (.int i1), .val (.int (2 : Int32)), .val (.int (0 : Int32)), .val (.int (0 : Int32)), .unset, .unset, .unset] [(.ref a_FROM)])) _
          refine XS.goto X171.here hx rfl (pc0 := 58) (pc' := 64) rfl (hb hby at_58) (by decide) (by decide) ?_
          show Steps p.tables e below (T171.setTop (mkF m 64 #[.val (.int i0), .val (.int i1), .val (.int (2 : Int32)), .val (.int (0 : Int32)), .val (.int (0 : Int32)), .unset, .unset, .unset] [(.ref a_FROM)])) _
          refine XS.astore X171.here hx rfl (hb hby at_64) rfl rfl (l' := #[.val (.int i0), .val (.int i1), .val (.int (2 : Int32)), .val (.int (0 : Int32)), .val (.int (0 : Int32)), .val (.ref a_FROM), .unset, .unset]) rfl ?_
          show Steps p.tables e below (T171.setTop (mkF m 66 #[.val (.int i0), .val (.int i1), .val (.int (2 : Int32)), .val (.int (0 : Int32)), .val (.int (0 : Int32)), .val (.ref a_FROM), .unset, .unset] [])) _
          refine XS.iconst X171.here hx rfl (hb hby at_66) ?_
          show Steps p.tables e below (T171.setTop (mkF m 67 #[.val (.int i0), .val (.int i1), .val (.int (2 : Int32)), .val (.int (0 : Int32)), .val (.int (0 : Int32)), .val (.ref a_FROM), .unset, .unset] [(.int (4 : Int32))])) _
          refine st172 _ ?_
          show Steps p.tables e below (T172.setTop (mkF m 69 #[.val (.int i0), .val (.int i1), .val (.int (2 : Int32)), .val (.int (0 : Int32)), .val (.int (0 : Int32)), .val (.ref a_FROM), .unset, .unset] [(.ref b172)])) _
          refine XS.dup X172.here hx rfl (hb hby at_69) rfl rfl ?_
          show Steps p.tables e below (T172.setTop (mkF m 70 #[.val (.int i0), .val (.int i1), .val (.int (2 : Int32)), .val (.int (0 : Int32)), .val (.int (0 : Int32)), .val (.ref a_FROM), .unset, .unset] [(.ref b172), (.ref b172)])) _
          refine XS.iconst X172.here hx rfl (hb hby at_70) ?_
          show Steps p.tables e below (T172.setTop (mkF m 71 #[.val (.int i0), .val (.int i1), .val (.int (2 : Int32)), .val (.int (0 : Int32)), .val (.int (0 : Int32)), .val (.ref a_FROM), .unset, .unset] [(.int (0 : Int32)), (.ref b172), (.ref b172)])) _
          refine XS.iconst X172.here hx rfl (hb hby at_71) ?_
          show Steps p.tables e below (T172.setTop (mkF m 72 #[.val (.int i0), .val (.int i1), .val (.int (2 : Int32)), .val (.int (0 : Int32)), .val (.int (0 : Int32)), .val (.ref a_FROM), .unset, .unset] [(.int (0 : Int32)), (.int (0 : Int32)), (.ref b172), (.ref b172)])) _
          refine st174 _ ?_
          show Steps p.tables e below (T174.setTop (mkF m 73 #[.val (.int i0), .val (.int i1), .val (.int (2 : Int32)), .val (.int (0 : Int32)), .val (.int (0 : Int32)), .val (.ref a_FROM), .unset, .unset] [(.ref b172)])) _
          refine XS.dup X174.here hx rfl (hb hby at_73) rfl rfl ?_
          show Steps p.tables e below (T174.setTop (mkF m 74 #[.val (.int i0), .val (.int i1), .val (.int (2 : Int32)), .val (.int (0 : Int32)), .val (.int (0 : Int32)), .val (.ref a_FROM), .unset, .unset] [(.ref b172), (.ref b172)])) _
          refine XS.iconst X174.here hx rfl (hb hby at_74) ?_
          show Steps p.tables e below (T174.setTop (mkF m 75 #[.val (.int i0), .val (.int i1), .val (.int (2 : Int32)), .val (.int (0 : Int32)), .val (.int (0 : Int32)), .val (.ref a_FROM), .unset, .unset] [(.int (1 : Int32)), (.ref b172), (.ref b172)])) _
          refine XS.iconst X174.here hx rfl (hb hby at_75) ?_
          show Steps p.tables e below (T174.setTop (mkF m 76 #[.val (.int i0), .val (.int i1), .val (.int (2 : Int32)), .val (.int (0 : Int32)), .val (.int (0 : Int32)), .val (.ref a_FROM), .unset, .unset] [(.int (1 : Int32)), (.int (1 : Int32)), (.ref b172), (.ref b172)])) _
          refine st176 _ ?_
          show Steps p.tables e below (T176.setTop (mkF m 77 #[.val (.int i0), .val (.int i1), .val (.int (2 : Int32)), .val (.int (0 : Int32)), .val (.int (0 : Int32)), .val (.ref a_FROM), .unset, .unset] [(.ref b172)])) _
          refine XS.dup X176.here hx rfl (hb hby at_77) rfl rfl ?_
          show Steps p.tables e below (T176.setTop (mkF m 78 #[.val (.int i0), .val (.int i1), .val (.int (2 : Int32)), .val (.int (0 : Int32)), .val (.int (0 : Int32)), .val (.ref a_FROM), .unset, .unset] [(.ref b172), (.ref b172)])) _
          refine XS.iconst X176.here hx rfl (hb hby at_78) ?_
          show Steps p.tables e below (T176.setTop (mkF m 79 #[.val (.int i0), .val (.int i1), .val (.int (2 : Int32)), .val (.int (0 : Int32)), .val (.int (0 : Int32)), .val (.ref a_FROM), .unset, .unset] [(.int (2 : Int32)), (.ref b172), (.ref b172)])) _
          refine XS.iconst X176.here hx rfl (hb hby at_79) ?_
          show Steps p.tables e below (T176.setTop (mkF m 80 #[.val (.int i0), .val (.int i1), .val (.int (2 : Int32)), .val (.int (0 : Int32)), .val (.int (0 : Int32)), .val (.ref a_FROM), .unset, .unset] [(.int (0 : Int32)), (.int (2 : Int32)), (.ref b172), (.ref b172)])) _
          refine st178 _ ?_
          show Steps p.tables e below (T178.setTop (mkF m 81 #[.val (.int i0), .val (.int i1), .val (.int (2 : Int32)), .val (.int (0 : Int32)), .val (.int (0 : Int32)), .val (.ref a_FROM), .unset, .unset] [(.ref b172)])) _
          refine XS.dup X178.here hx rfl (hb hby at_81) rfl rfl ?_
          show Steps p.tables e below (T178.setTop (mkF m 82 #[.val (.int i0), .val (.int i1), .val (.int (2 : Int32)), .val (.int (0 : Int32)), .val (.int (0 : Int32)), .val (.ref a_FROM), .unset, .unset] [(.ref b172), (.ref b172)])) _
          refine XS.iconst X178.here hx rfl (hb hby at_82) ?_
          show Steps p.tables e below (T178.setTop (mkF m 83 #[.val (.int i0), .val (.int i1), .val (.int (2 : Int32)), .val (.int (0 : Int32)), .val (.int (0 : Int32)), .val (.ref a_FROM), .unset, .unset] [(.int (3 : Int32)), (.ref b172), (.ref b172)])) _
          refine XS.iconst X178.here hx rfl (hb hby at_83) ?_
          show Steps p.tables e below (T178.setTop (mkF m 84 #[.val (.int i0), .val (.int i1), .val (.int (2 : Int32)), .val (.int (0 : Int32)), .val (.int (0 : Int32)), .val (.ref a_FROM), .unset, .unset] [(.int (1 : Int32)), (.int (3 : Int32)), (.ref b172), (.ref b172)])) _
          refine st180 _ ?_
          show Steps p.tables e below (T180.setTop (mkF m 85 #[.val (.int i0), .val (.int i1), .val (.int (2 : Int32)), .val (.int (0 : Int32)), .val (.int (0 : Int32)), .val (.ref a_FROM), .unset, .unset] [(.ref b172)])) _
          refine XS.astore X180.here hx rfl (hb hby at_85) rfl rfl (l' := #[.val (.int i0), .val (.int i1), .val (.int (2 : Int32)), .val (.int (0 : Int32)), .val (.int (0 : Int32)), .val (.ref a_FROM), .val (.ref b172), .unset]) rfl ?_
          show Steps p.tables e below (T180.setTop (mkF m 87 #[.val (.int i0), .val (.int i1), .val (.int (2 : Int32)), .val (.int (0 : Int32)), .val (.int (0 : Int32)), .val (.ref a_FROM), .val (.ref b172), .unset] [])) _
          refine XS.aload X180.here hx rfl (hb hby at_87) rfl rfl ?_
          show Steps p.tables e below (T180.setTop (mkF m 89 #[.val (.int i0), .val (.int i1), .val (.int (2 : Int32)), .val (.int (0 : Int32)), .val (.int (0 : Int32)), .val (.ref a_FROM), .val (.ref b172), .unset] [(.ref b172)])) _
          refine XS.iloadN X180.here hx rfl (hb hby at_89) rfl ?_
          show Steps p.tables e below (T180.setTop (mkF m 90 #[.val (.int i0), .val (.int i1), .val (.int (2 : Int32)), .val (.int (0 : Int32)), .val (.int (0 : Int32)), .val (.ref a_FROM), .val (.ref b172), .unset] [(.int (2 : Int32)), (.ref b172)])) _
          refine X180.baloadBooleans hx (j := (2 : Int32)) (v := (.int (0 : Int32))) (by rw [e180]; exact Ar181.1) (State.isArrayOf_alike hZ.alike Ar181.2.1) Ar181.2.2 hin181 hat181 (g := (mkF m 90 #[.val (.int i0), .val (.int i1), .val (.int (2 : Int32)), .val (.int (0 : Int32)), .val (.int (0 : Int32)), .val (.ref a_FROM), .val (.ref b172), .unset] [(.int (2 : Int32)), (.ref b172)])) rfl rfl (hb hby at_90) _ ?_
          show Steps p.tables e below (T180.setTop (mkF m 91 #[.val (.int i0), .val (.int i1), .val (.int (2 : Int32)), .val (.int (0 : Int32)), .val (.int (0 : Int32)), .val (.ref a_FROM), .val (.ref b172), .unset] [(.int (0 : Int32))])) _
          refine XS.istore X180.here hx rfl (hb hby at_91) rfl (l' := #[.val (.int i0), .val (.int i1), .val (.int (2 : Int32)), .val (.int (0 : Int32)), .val (.int (0 : Int32)), .val (.ref a_FROM), .val (.ref b172), .val (.int (0 : Int32))]) rfl ?_
          show Steps p.tables e below (T180.setTop (mkF m 93 #[.val (.int i0), .val (.int i1), .val (.int (2 : Int32)), .val (.int (0 : Int32)), .val (.int (0 : Int32)), .val (.ref a_FROM), .val (.ref b172), .val (.int (0 : Int32))] [])) _
          refine XS.aload X180.here hx rfl (hb hby at_93) rfl rfl ?_
          show Steps p.tables e below (T180.setTop (mkF m 95 #[.val (.int i0), .val (.int i1), .val (.int (2 : Int32)), .val (.int (0 : Int32)), .val (.int (0 : Int32)), .val (.ref a_FROM), .val (.ref b172), .val (.int (0 : Int32))] [(.ref a_FROM)])) _
          refine st183.trans ?_
          show Steps p.tables e below (T183.setTop (mkF m 98 #[.val (.int i0), .val (.int i1), .val (.int (2 : Int32)), .val (.int (0 : Int32)), .val (.int (0 : Int32)), .val (.ref a_FROM), .val (.ref b172), .val (.int (0 : Int32))] [(.int (0 : Int32))])) _
          refine XS.iload X183.here hx rfl (hb hby at_98) rfl ?_
          show Steps p.tables e below (T183.setTop (mkF m 100 #[.val (.int i0), .val (.int i1), .val (.int (2 : Int32)), .val (.int (0 : Int32)), .val (.int (0 : Int32)), .val (.ref a_FROM), .val (.ref b172), .val (.int (0 : Int32))] [(.int (0 : Int32)), (.int (0 : Int32))])) _
          refine XS.icmpNo X183.here hx rfl (hb hby at_100) rfl (by decide) ?_
          show Steps p.tables e below (T183.setTop (mkF m 103 #[.val (.int i0), .val (.int i1), .val (.int (2 : Int32)), .val (.int (0 : Int32)), .val (.int (0 : Int32)), .val (.ref a_FROM), .val (.ref b172), .val (.int (0 : Int32))] [])) _
          refine XS.aload X183.here hx rfl (hb hby at_103) rfl rfl ?_
          show Steps p.tables e below (T183.setTop (mkF m 105 #[.val (.int i0), .val (.int i1), .val (.int (2 : Int32)), .val (.int (0 : Int32)), .val (.int (0 : Int32)), .val (.ref a_FROM), .val (.ref b172), .val (.int (0 : Int32))] [(.ref a_FROM)])) _
          refine XS.iloadN X183.here hx rfl (hb hby at_105) rfl ?_
          show Steps p.tables e below (T183.setTop (mkF m 106 #[.val (.int i0), .val (.int i1), .val (.int (2 : Int32)), .val (.int (0 : Int32)), .val (.int (0 : Int32)), .val (.ref a_FROM), .val (.ref b172), .val (.int (0 : Int32))] [(.int (0 : Int32)), (.ref a_FROM)])) _
          refine st185.trans ?_
          show Steps p.tables e below (T185.setTop (mkF m 109 #[.val (.int i0), .val (.int i1), .val (.int (2 : Int32)), .val (.int (0 : Int32)), .val (.int (0 : Int32)), .val (.ref a_FROM), .val (.ref b172), .val (.int (0 : Int32))] [(.ref a_FROM)])) _
          refine st186.trans ?_
          show Steps p.tables e below (T186.setTop (mkF m 112 #[.val (.int i0), .val (.int i1), .val (.int (2 : Int32)), .val (.int (0 : Int32)), .val (.int (0 : Int32)), .val (.ref a_FROM), .val (.ref b172), .val (.int (0 : Int32))] [(.int (0 : Int32))])) _
          refine XS.iloadN X186.here hx rfl (hb hby at_112) rfl ?_
          show Steps p.tables e below (T186.setTop (mkF m 113 #[.val (.int i0), .val (.int i1), .val (.int (2 : Int32)), .val (.int (0 : Int32)), .val (.int (0 : Int32)), .val (.ref a_FROM), .val (.ref b172), .val (.int (0 : Int32))] [(.int (0 : Int32)), (.int (0 : Int32))])) _
          refine XS.icmpNo X186.here hx rfl (hb hby at_113) rfl (by decide) ?_
          show Steps p.tables e below (T186.setTop (mkF m 116 #[.val (.int i0), .val (.int i1), .val (.int (2 : Int32)), .val (.int (0 : Int32)), .val (.int (0 : Int32)), .val (.ref a_FROM), .val (.ref b172), .val (.int (0 : Int32))] [])) _
          refine XS.aload X186.here hx rfl (hb hby at_116) rfl rfl ?_
          show Steps p.tables e below (T186.setTop (mkF m 118 #[.val (.int i0), .val (.int i1), .val (.int (2 : Int32)), .val (.int (0 : Int32)), .val (.int (0 : Int32)), .val (.ref a_FROM), .val (.ref b172), .val (.int (0 : Int32))] [(.ref a_FROM)])) _
          refine XS.iload X186.here hx rfl (hb hby at_118) rfl ?_
          show Steps p.tables e below (T186.setTop (mkF m 120 #[.val (.int i0), .val (.int i1), .val (.int (2 : Int32)), .val (.int (0 : Int32)), .val (.int (0 : Int32)), .val (.ref a_FROM), .val (.ref b172), .val (.int (0 : Int32))] [(.int (0 : Int32)), (.ref a_FROM)])) _
          refine st187.trans ?_
          show Steps p.tables e below (T187.setTop (mkF m 123 #[.val (.int i0), .val (.int i1), .val (.int (2 : Int32)), .val (.int (0 : Int32)), .val (.int (0 : Int32)), .val (.ref a_FROM), .val (.ref b172), .val (.int (0 : Int32))] [(.ref a_NONE)])) _
          refine st188.trans ?_
          show Steps p.tables e below (T188.setTop (mkF m 126 #[.val (.int i0), .val (.int i1), .val (.int (2 : Int32)), .val (.int (0 : Int32)), .val (.int (0 : Int32)), .val (.ref a_FROM), .val (.ref b172), .val (.int (0 : Int32))] [(.int (0 : Int32))])) _
          refine XS.iload X188.here hx rfl (hb hby at_126) rfl ?_
          show Steps p.tables e below (T188.setTop (mkF m 128 #[.val (.int i0), .val (.int i1), .val (.int (2 : Int32)), .val (.int (0 : Int32)), .val (.int (0 : Int32)), .val (.ref a_FROM), .val (.ref b172), .val (.int (0 : Int32))] [(.int (0 : Int32)), (.int (0 : Int32))])) _
          refine XS.icmpNo X188.here hx rfl (hb hby at_128) rfl (by decide) ?_
          show Steps p.tables e below (T188.setTop (mkF m 131 #[.val (.int i0), .val (.int i1), .val (.int (2 : Int32)), .val (.int (0 : Int32)), .val (.int (0 : Int32)), .val (.ref a_FROM), .val (.ref b172), .val (.int (0 : Int32))] [])) _
          refine XS.iconst X188.here hx rfl (hb hby at_131) ?_
          show Steps p.tables e below (T188.setTop (mkF m 132 #[.val (.int i0), .val (.int i1), .val (.int (2 : Int32)), .val (.int (0 : Int32)), .val (.int (0 : Int32)), .val (.ref a_FROM), .val (.ref b172), .val (.int (0 : Int32))] [(.int (1 : Int32))])) _
          refine XS.goto X188.here hx rfl (pc0 := 132) (pc' := 136) rfl (hb hby at_132) (by decide) (by decide) ?_
          show Steps p.tables e below (T188.setTop (mkF m 136 #[.val (.int i0), .val (.int i1), .val (.int (2 : Int32)), .val (.int (0 : Int32)), .val (.int (0 : Int32)), .val (.ref a_FROM), .val (.ref b172), .val (.int (0 : Int32))] [(.int (1 : Int32))])) _
          exact retN X188 hx (t := .boolean) Bd.returns (by simp) (hb hby at_136) hr
        · show QL n0 _ T188.heap _
          rw [hh188]
          exact ⟨rfl, N188⟩
      · skip
        obtain ⟨T190, X190, e190, st190⟩ := getS2 X0 hx hZ hown (host := "") (Or.inl (hw _ (List.mem_of_getElem? (i := 34) rfl))) Via.refl e0 (Sta.ext O0.2 S_a_FROM) (g := (mkF m 55 #[.val (.int i0), .val (.int i1), .val (.int (2 : Int32)), .val (.int (0 : Int32)), .val (.int (1 : Int32)), .unset, .unset, .unset] [])) rfl (hb hby at_55)
        obtain ⟨T191, h191, k191, X191, e191, E191, A191, st191⟩ := newP X190 hx hZ (hw _ (List.mem_of_getElem? (i := 3) rfl)) e190 (g := (mkF m 67 #[.val (.int i0), .val (.int i1), .val (.int (2 : Int32)), .val (.int (0 : Int32)), .val (.int (1 : Int32)), .val (.ref a_FROM), .unset, .unset] [(.int (4 : Int32))])) rfl (hb hby at_67) rfl (by decide) (cap := 4) (by decide) (by decide) (by decide) (by decide)
        obtain ⟨b191, g191⟩ : ∃ z, z = h0.size := ⟨_, rfl⟩
        rw [← g191] at A191 st191
        have gb191 : n0 ≤ b191 := by rw [g191, ← O0.1]; exact O0.2.1
        have ne191_a_BOTH : a_BOTH ≠ b191 := by rw [g191]; exact Nat.ne_of_lt ((Exa.ext O0.2 X_a_BOTH)).lt
        have ne191_a_FROM : a_FROM ≠ b191 := by rw [g191]; exact Nat.ne_of_lt ((Exa.ext O0.2 X_a_FROM)).lt
        have ne191_a_NONE : a_NONE ≠ b191 := by rw [g191]; exact Nat.ne_of_lt ((Exa.ext O0.2 X_a_NONE)).lt
        have ne191_a_TO : a_TO ≠ b191 := by rw [g191]; exact Nat.ne_of_lt ((Exa.ext O0.2 X_a_TO)).lt
        have V191 : Arv Z h191 b191 k191 .boolean (4 : Int32) [(.int (0 : Int32)), (.int (0 : Int32)), (.int (0 : Int32)), (.int (0 : Int32))] (.int (0 : Int32)) := (Arv.new A191 (by decide)).pad (pad_rep [] (.int (0 : Int32)) 4)
        obtain ⟨cl192, Ar192, q192, S192, N192_, H192, G192⟩ := V191
        have hin192 : ¬ ((0 : Int32) < 0 ∨ cl192.slots.size ≤ ((0 : Int32)).toNatClampNeg) := inb_of S192 ⟨by decide, by decide⟩
        obtain ⟨T193, h193, X193, e193, W193, st193⟩ := stZ X191 hx hZ e191 Ar192 (j := (0 : Int32)) hin192 (g := (mkF m 72 #[.val (.int i0), .val (.int i1), .val (.int (2 : Int32)), .val (.int (0 : Int32)), .val (.int (1 : Int32)), .val (.ref a_FROM), .unset, .unset] [(.int (0 : Int32)), (.int (0 : Int32)), (.ref b191), (.ref b191)])) rfl rfl (hb hby at_72)
        have V193 : Arv Z h193 b191 k191 .boolean (4 : Int32) [(.int (0 : Int32)), (.int (0 : Int32)), (.int (0 : Int32)), (.int (0 : Int32))] (.int (0 : Int32)) := Arv.set Ar192 q192 S192 N192_ H192 G192 (fits_nar_bool _) W193 0 rfl (Nat.le_of_ble_eq_true rfl)
        have N193 := Fr.snoc X193 N0 gb191
        obtain ⟨cl194, Ar194, q194, S194, N194_, H194, G194⟩ := V193
        have hin194 : ¬ ((1 : Int32) < 0 ∨ cl194.slots.size ≤ ((1 : Int32)).toNatClampNeg) := inb_of S194 ⟨by decide, by decide⟩
        obtain ⟨T195, h195, X195, e195, W195, st195⟩ := stZ X193 hx hZ e193 Ar194 (j := (1 : Int32)) hin194 (g := (mkF m 76 #[.val (.int i0), .val (.int i1), .val (.int (2 : Int32)), .val (.int (0 : Int32)), .val (.int (1 : Int32)), .val (.ref a_FROM), .unset, .unset] [(.int (1 : Int32)), (.int (1 : Int32)), (.ref b191), (.ref b191)])) rfl rfl (hb hby at_76)
        have V195 : Arv Z h195 b191 k191 .boolean (4 : Int32) [(.int (0 : Int32)), (.int (1 : Int32)), (.int (0 : Int32)), (.int (0 : Int32))] (.int (0 : Int32)) := Arv.set Ar194 q194 S194 N194_ H194 G194 (fits_nar_bool _) W195 1 rfl (Nat.le_of_ble_eq_true rfl)
        have N195 := Fr.snoc X195 N193 gb191
        obtain ⟨cl196, Ar196, q196, S196, N196_, H196, G196⟩ := V195
        have hin196 : ¬ ((2 : Int32) < 0 ∨ cl196.slots.size ≤ ((2 : Int32)).toNatClampNeg) := inb_of S196 ⟨by decide, by decide⟩
        obtain ⟨T197, h197, X197, e197, W197, st197⟩ := stZ X195 hx hZ e195 Ar196 (j := (2 : Int32)) hin196 (g := (mkF m 80 #[.val (.int i0), .val (.int i1), .val (.int (2 : Int32)), .val (.int (0 : Int32)), .val (.int (1 : Int32)), .val (.ref a_FROM), .unset, .unset] [(.int (0 : Int32)), (.int (2 : Int32)), (.ref b191), (.ref b191)])) rfl rfl (hb hby at_80)
        have V197 : Arv Z h197 b191 k191 .boolean (4 : Int32) [(.int (0 : Int32)), (.int (1 : Int32)), (.int (0 : Int32)), (.int (0 : Int32))] (.int (0 : Int32)) := Arv.set Ar196 q196 S196 N196_ H196 G196 (fits_nar_bool _) W197 2 rfl (Nat.le_of_ble_eq_true rfl)
        have N197 := Fr.snoc X197 N195 gb191
        obtain ⟨cl198, Ar198, q198, S198, N198_, H198, G198⟩ := V197
        have hin198 : ¬ ((3 : Int32) < 0 ∨ cl198.slots.size ≤ ((3 : Int32)).toNatClampNeg) := inb_of S198 ⟨by decide, by decide⟩
        obtain ⟨T199, h199, X199, e199, W199, st199⟩ := stZ X197 hx hZ e197 Ar198 (j := (3 : Int32)) hin198 (g := (mkF m 84 #[.val (.int i0), .val (.int i1), .val (.int (2 : Int32)), .val (.int (0 : Int32)), .val (.int (1 : Int32)), .val (.ref a_FROM), .unset, .unset] [(.int (1 : Int32)), (.int (3 : Int32)), (.ref b191), (.ref b191)])) rfl rfl (hb hby at_84)
        have V199 : Arv Z h199 b191 k191 .boolean (4 : Int32) [(.int (0 : Int32)), (.int (1 : Int32)), (.int (0 : Int32)), (.int (1 : Int32))] (.int (0 : Int32)) := Arv.set Ar198 q198 S198 N198_ H198 G198 (fits_nar_bool _) W199 3 rfl (Nat.le_of_ble_eq_true rfl)
        have N199 := Fr.snoc X199 N197 gb191
        obtain ⟨cl200, Ar200, q200, S200, N200_, H200, G200⟩ := V199
        have hin200 : ¬ ((2 : Int32) < 0 ∨ cl200.slots.size ≤ ((2 : Int32)).toNatClampNeg) := inb_of S200 ⟨by decide, by decide⟩
        have hat200 : cl200.slots[((2 : Int32)).toNatClampNeg]? = some (.int (0 : Int32)) := H200.at hin200 rfl
        have O201 : Old Z n0 h199 := (((((O0.ext E191).wr W193 gb191).wr W195 gb191).wr W197 gb191).wr W199 gb191)
        have f203 := ((((((Exa.ext O0.2 X_a_FROM).ext E191).wr W193).wr W195).wr W197).wr W199)
        obtain ⟨cq202, kq202, q202a, q202b, q202c⟩ := isOf hZ e199 f203
        obtain ⟨_, _, ⟨T202, L202, k202, n202⟩, -, X202, ⟨Lc202, hQ202, l202, y202, z202⟩, st202⟩ := X199.virtualBack hx (y := (⟨"com/example/carbonfold/carbonfold/model/RosterItem$Subscription", "hasTo", "()Z"⟩ : MethodName)) (z := (⟨"com/example/carbonfold/carbonfold/model/RosterItem$Subscription", "hasTo", "()Z"⟩ : MethodName)) hown (mvT hZ (hw _ (List.mem_of_getElem? (i := 4) rfl))) (mvT hZ (hw _ (List.mem_of_getElem? (i := 5) rfl))) (notFace_of_selects (args := #[]) (mvT hZ (hw _ (List.mem_of_getElem? (i := 7) rfl)))) (mvT hZ (hw _ (List.mem_of_getElem? (i := 7) rfl))) (mvT hZ (hw _ (List.mem_of_getElem? (i := 6) rfl))) (by decide) (backOf (W := 0) (rm_hasTo_8 l Z a0 hw [] a_NONE a_TO a_BOTH a_FROM h199 n0 O201 En) hZ (hw _ (List.mem_of_getElem? (i := 8) rfl)) (hw _ (List.mem_of_getElem? (i := 1) rfl)) (by decide) (by decide)) q202a q202c (g := (mkF m 95 #[.val (.int i0), .val (.int i1), .val (.int (2 : Int32)), .val (.int (0 : Int32)), .val (.int (1 : Int32)), .val (.ref a_FROM), .val (.ref b191), .val (.int (0 : Int32))] [(.ref a_FROM)])) rfl (by rw [hml]; rfl) (Steps.refl _) (argsL := []) (rest := []) (lenOf pd_0 rfl) rfl (by show 2 * 0 + _ ≤ _; exact Nat.le_of_eq rfl) (hb hby at_95) (fun _ _ => ⟨rfl, e199, (by decide : 1 + 0 ≤ _), (by decide : 4 + 0 ≤ _)⟩)
        dsimp only [Pt.U, Pt.locs, Pt.cells, Pt.slots] at X202 l202 y202 z202 st202 hQ202
        subst l202 y202 z202
        obtain ⟨rfl, N202q, hh202⟩ := hQ202
        have N202 := Fr.app N199 N202q
        obtain ⟨cq204, kq204, q204a, q204b, q204c⟩ := isOf hZ hh202 f203
        obtain ⟨_, _, ⟨T204, L204, k204, n204⟩, -, X204, ⟨Lc204, hQ204, l204, y204, z204⟩, st204⟩ := X202.virtualBack hx (y := (⟨"com/example/carbonfold/carbonfold/model/RosterItem$Subscription", "withTo", "(Z)Lcom/example/carbonfold/carbonfold/model/RosterItem$Subscription;"⟩ : MethodName)) (z := (⟨"com/example/carbonfold/carbonfold/model/RosterItem$Subscription", "withTo", "(Z)Lcom/example/carbonfold/carbonfold/model/RosterItem$Subscription;"⟩ : MethodName)) hown (mvT hZ (hw _ (List.mem_of_getElem? (i := 13) rfl))) (mvT hZ (hw _ (List.mem_of_getElem? (i := 14) rfl))) (notFace_of_selects (args := #[]) (mvT hZ (hw _ (List.mem_of_getElem? (i := 16) rfl)))) (mvT hZ (hw _ (List.mem_of_getElem? (i := 16) rfl))) (mvT hZ (hw _ (List.mem_of_getElem? (i := 15) rfl))) (by decide) (backOf (W := 0) (rm_withTo_19 l Z a0 hw [] a_NONE a_TO a_BOTH a_FROM h199 n0 O201 En) hZ (hw _ (List.mem_of_getElem? (i := 17) rfl)) (hw _ (List.mem_of_getElem? (i := 1) rfl)) (by decide) (by decide)) q204a q204c (g := (mkF m 106 #[.val (.int i0), .val (.int i1), .val (.int (2 : Int32)), .val (.int (0 : Int32)), .val (.int (1 : Int32)), .val (.ref a_FROM), .val (.ref b191), .val (.int (0 : Int32))] [(.int (0 : Int32)), (.ref a_FROM)])) rfl (by rw [hml]; rfl) (Steps.refl _) (argsL := [(.int (0 : Int32))]) (rest := []) (lenOf pd_2 rfl) rfl (by show 2 * 0 + _ ≤ _; exact Nat.le_of_eq rfl) (hb hby at_106) (fun _ _ => ⟨rfl, hh202, (by decide : 1 + 0 ≤ _), (by decide : 4 + 0 ≤ _)⟩)
        dsimp only [Pt.U, Pt.locs, Pt.cells, Pt.slots] at X204 l204 y204 z204 st204 hQ204
        subst l204 y204 z204
        obtain ⟨rfl, N204q, hh204⟩ := hQ204
        have N204 := Fr.app N202 N204q
        obtain ⟨cq205, kq205, q205a, q205b, q205c⟩ := isOf hZ hh204 f203
        obtain ⟨_, _, ⟨T205, L205, k205, n205⟩, -, X205, ⟨Lc205, hQ205, l205, y205, z205⟩, st205⟩ := X204.virtualBack hx (y := (⟨"com/example/carbonfold/carbonfold/model/RosterItem$Subscription", "hasTo", "()Z"⟩ : MethodName)) (z := (⟨"com/example/carbonfold/carbonfold/model/RosterItem$Subscription", "hasTo", "()Z"⟩ : MethodName)) hown (mvT hZ (hw _ (List.mem_of_getElem? (i := 4) rfl))) (mvT hZ (hw _ (List.mem_of_getElem? (i := 5) rfl))) (notFace_of_selects (args := #[]) (mvT hZ (hw _ (List.mem_of_getElem? (i := 7) rfl)))) (mvT hZ (hw _ (List.mem_of_getElem? (i := 7) rfl))) (mvT hZ (hw _ (List.mem_of_getElem? (i := 6) rfl))) (by decide) (backOf (W := 0) (rm_hasTo_8 l Z a0 hw [] a_NONE a_TO a_BOTH a_FROM h199 n0 O201 En) hZ (hw _ (List.mem_of_getElem? (i := 8) rfl)) (hw _ (List.mem_of_getElem? (i := 1) rfl)) (by decide) (by decide)) q205a q205c (g := (mkF m 109 #[.val (.int i0), .val (.int i1), .val (.int (2 : Int32)), .val (.int (0 : Int32)), .val (.int (1 : Int32)), .val (.ref a_FROM), .val (.ref b191), .val (.int (0 : Int32))] [(.ref a_FROM)])) rfl (by rw [hml]; rfl) (Steps.refl _) (argsL := []) (rest := []) (lenOf pd_0 rfl) rfl (by show 2 * 0 + _ ≤ _; exact Nat.le_of_eq rfl) (hb hby at_109) (fun _ _ => ⟨rfl, hh204, (by decide : 1 + 0 ≤ _), (by decide : 4 + 0 ≤ _)⟩)
        dsimp only [Pt.U, Pt.locs, Pt.cells, Pt.slots] at X205 l205 y205 z205 st205 hQ205
        subst l205 y205 z205
        obtain ⟨rfl, N205q, hh205⟩ := hQ205
        have N205 := Fr.app N204 N205q
        obtain ⟨cq206, kq206, q206a, q206b, q206c⟩ := isOf hZ hh205 f203
        obtain ⟨_, _, ⟨T206, L206, k206, n206⟩, -, X206, ⟨Lc206, hQ206, l206, y206, z206⟩, st206⟩ := X205.virtualBack hx (y := (⟨"com/example/carbonfold/carbonfold/model/RosterItem$Subscription", "withFrom", "(Z)Lcom/example/carbonfold/carbonfold/model/RosterItem$Subscription;"⟩ : MethodName)) (z := (⟨"com/example/carbonfold/carbonfold/model/RosterItem$Subscription", "withFrom", "(Z)Lcom/example/carbonfold/carbonfold/model/RosterItem$Subscription;"⟩ : MethodName)) hown (mvT hZ (hw _ (List.mem_of_getElem? (i := 28) rfl))) (mvT hZ (hw _ (List.mem_of_getElem? (i := 29) rfl))) (notFace_of_selects (args := #[]) (mvT hZ (hw _ (List.mem_of_getElem? (i := 31) rfl)))) (mvT hZ (hw _ (List.mem_of_getElem? (i := 31) rfl))) (mvT hZ (hw _ (List.mem_of_getElem? (i := 30) rfl))) (by decide) (backOf (W := 0) (rm_withFrom_22 l Z a0 hw [] a_NONE a_TO a_BOTH a_FROM h199 n0 O201 En) hZ (hw _ (List.mem_of_getElem? (i := 32) rfl)) (hw _ (List.mem_of_getElem? (i := 1) rfl)) (by decide) (by decide)) q206a q206c (g := (mkF m 120 #[.val (.int i0), .val (.int i1), .val (.int (2 : Int32)), .val (.int (0 : Int32)), .val (.int (1 : Int32)), .val (.ref a_FROM), .val (.ref b191), .val (.int (0 : Int32))] [(.int (1 : Int32)), (.ref a_FROM)])) rfl (by rw [hml]; rfl) (Steps.refl _) (argsL := [(.int (1 : Int32))]) (rest := []) (lenOf pd_2 rfl) rfl (by show 2 * 0 + _ ≤ _; exact Nat.le_of_eq rfl) (hb hby at_120) (fun _ _ => ⟨rfl, hh205, (by decide : 1 + 0 ≤ _), (by decide : 4 + 0 ≤ _)⟩)
        dsimp only [Pt.U, Pt.locs, Pt.cells, Pt.slots] at X206 l206 y206 z206 st206 hQ206
        subst l206 y206 z206
        obtain ⟨rfl, N206q, hh206⟩ := hQ206
        have N206 := Fr.app N205 N206q
        obtain ⟨cq207, kq207, q207a, q207b, q207c⟩ := isOf hZ hh206 f203
        obtain ⟨_, _, ⟨T207, L207, k207, n207⟩, -, X207, ⟨Lc207, hQ207, l207, y207, z207⟩, st207⟩ := X206.virtualBack hx (y := (⟨"com/example/carbonfold/carbonfold/model/RosterItem$Subscription", "hasTo", "()Z"⟩ : MethodName)) (z := (⟨"com/example/carbonfold/carbonfold/model/RosterItem$Subscription", "hasTo", "()Z"⟩ : MethodName)) hown (mvT hZ (hw _ (List.mem_of_getElem? (i := 4) rfl))) (mvT hZ (hw _ (List.mem_of_getElem? (i := 5) rfl))) (notFace_of_selects (args := #[]) (mvT hZ (hw _ (List.mem_of_getElem? (i := 7) rfl)))) (mvT hZ (hw _ (List.mem_of_getElem? (i := 7) rfl))) (mvT hZ (hw _ (List.mem_of_getElem? (i := 6) rfl))) (by decide) (backOf (W := 0) (rm_hasTo_8 l Z a0 hw [] a_NONE a_TO a_BOTH a_FROM h199 n0 O201 En) hZ (hw _ (List.mem_of_getElem? (i := 8) rfl)) (hw _ (List.mem_of_getElem? (i := 1) rfl)) (by decide) (by decide)) q207a q207c (g := (mkF m 123 #[.val (.int i0), .val (.int i1), .val (.int (2 : Int32)), .val (.int (0 : Int32)), .val (.int (1 : Int32)), .val (.ref a_FROM), .val (.ref b191), .val (.int (0 : Int32))] [(.ref a_FROM)])) rfl (by rw [hml]; rfl) (Steps.refl _) (argsL := []) (rest := []) (lenOf pd_0 rfl) rfl (by show 2 * 0 + _ ≤ _; exact Nat.le_of_eq rfl) (hb hby at_123) (fun _ _ => ⟨rfl, hh206, (by decide : 1 + 0 ≤ _), (by decide : 4 + 0 ≤ _)⟩)
        dsimp only [Pt.U, Pt.locs, Pt.cells, Pt.slots] at X207 l207 y207 z207 st207 hQ207
        subst l207 y207 z207
        obtain ⟨rfl, N207q, hh207⟩ := hQ207
        have N207 := Fr.app N206 N207q
        obtain ⟨fs, hr, hrun, hended, hW, hsame⟩ := X207.leave (v := some (.int (1 : Int32))) (fun h => by rw [Bd.returns] at h; cases h)
        refine ⟨_, _, pre169 _ ?_, hrun, hended, _, _, rfl, ?_, ⟨_, rfl⟩, hW, hsame.mono (by decide) (by decide)⟩
        · skip
          show Steps p.tables e below (s₁.setTop (mkF m 19 #[.val (.int i0), .val (.int i1), .val (.int (2 : Int32)), .val (.int (0 : Int32)), .unset, .unset, .unset, .unset] [(.int (i1 &&& (2 : Int32)))])) _
          rw [hk170]
          show Steps p.tables e below (s₁.setTop (mkF m 19 #[.val (.int i0), .val (.int i1), .val (.int (2 : Int32)), .val (.int (0 : Int32)), .unset, .unset, .unset, .unset] [(.int (2 : Int32))])) _
          refine XS.ifNo X0.here hx rfl (hb hby at_19) rfl (by decide) ?_
          show Steps p.tables e below (s₁.setTop (mkF m 22 #[.val (.int i0), .val (.int i1), .val (.int (2 : Int32)), .val (.int (0 : Int32)), .unset, .unset, .unset, .unset] [])) _
          refine XS.iconst X0.here hx rfl (hb hby at_22) ?_
          show Steps p.tables e below (s₁.setTop (mkF m 23 #[.val (.int i0), .val (.int i1), .val (.int (2 : Int32)), .val (.int (0 : Int32)), .unset, .unset, .unset, .unset] [(.int (1 : Int32))])) _
          refine XS.goto X0.here hx rfl (pc0 := 23) (pc' := 27) rfl (hb hby at_23) (by decide) (by decide) ?_
          show Steps p.tables e below (s₁.setTop (mkF m 27 #[.val (.int i0), .val (.int i1), .val (.int (2 : Int32)), .val (.int (0 : Int32)), .unset, .unset, .unset, .unset] [(.int (1 : Int32))])) _
          refine XS.istore X0.here hx rfl (hb hby at_27) rfl (l' := #[.val (.int i0), .val (.int i1), .val (.int (2 : Int32)), .val (.int (0 : Int32)), .val (.int (1 : Int32)), .unset, .unset, .unset]) rfl ?_
          show Steps p.tables e below (s₁.setTop (mkF m 29 #[.val (.int i0), .val (.int i1), .val (.int (2 : Int32)), .val (.int (0 : Int32)), .val (.int (1 : Int32)), .unset, .unset, .unset] [])) _
          refine XS.iloadN X0.here hx rfl (hb hby at_29) rfl ?_
          show Steps p.tables e below (s₁.setTop (mkF m 30 #[.val (.int i0), .val (.int i1), .val (.int (2 : Int32)), .val (.int (0 : Int32)), .val (.int (1 : Int32)), .unset, .unset, .unset] [(.int (2 : Int32))])) _
          refine XS.ifYes X0.here hx rfl (pc0 := 30) (pc' := 39) rfl (hb hby at_30) rfl (by decide) (by decide) (by decide) ?_
          show Steps p.tables e below (s₁.setTop (mkF m 39 #[.val (.int i0), .val (.int i1), .val (.int (2 : Int32)), .val (.int (0 : Int32)), .val (.int (1 : Int32)), .unset, .unset, .unset] [])) _
          refine XS.iloadN X0.here hx rfl (hb hby at_39) rfl ?_
          show Steps p.tables e below (s₁.setTop (mkF m 40 #[.val (.int i0), .val (.int i1), .val (.int (2 : Int32)), .val (.int (0 : Int32)), .val (.int (1 : Int32)), .unset, .unset, .unset] [(.int (2 : Int32))])) _
          refine XS.iconst X0.here hx rfl (hb hby at_40) ?_
          show Steps p.tables e below (s₁.setTop (mkF m 41 #[.val (.int i0), .val (.int i1), .val (.int (2 : Int32)), .val (.int (0 : Int32)), .val (.int (1 : Int32)), .unset, .unset, .unset] [(.int (1 : Int32)), (.int (2 : Int32))])) _
          refine XS.icmpYes X0.here hx rfl (pc0 := 41) (pc' := 50) rfl (hb hby at_41) rfl (by decide) (by decide) (by decide) ?_
          show Steps p.tables e below (s₁.setTop (mkF m 50 #[.val (.int i0), .val (.int i1), .val (.int (2 : Int32)), .val (.int (0 : Int32)), .val (.int (1 : Int32)), .unset, .unset, .unset] [])) _
          refine XS.iloadN X0.here hx rfl (hb hby at_50) rfl ?_
          show Steps p.tables e below (s₁.setTop (mkF m 51 #[.val (.int i0), .val (.int i1), .val (.int (2 : Int32)), .val (.int (0 : Int32)), .val (.int (1 : Int32)), .unset, .unset, .unset] [(.int (2 : Int32))])) _
          refine XS.iconst X0.here hx rfl (hb hby at_51) ?_
          show Steps p.tables e below (s₁.setTop (mkF m 52 #[.val (.int i0), .val (.int i1), .val (.int (2 : Int32)), .val (.int (0 : Int32)), .val (.int (1 : Int32)), .unset, .unset, .unset] [(.int (2 : Int32)), (.int (2 : Int32))])) _
          refine XS.icmpNo X0.here hx rfl (hb hby at_52) rfl (by decide) ?_
          show Steps p.tables e below (s₁.setTop (mkF m 55 #[.val (.int i0), .val (.int i1), .val (.int (2 : Int32)), .val (.int (0 : Int32)), .val (.int (1 : Int32)), .unset, .unset, .unset] [])) _
          refine st190 _ ?_
          show Steps p.tables e below (T190.setTop (mkF m 58 #[.val (.int i0), .val (.int i1), .val (.int (2 : Int32)), .val (.int (0 : Int32)), .val (.int (1 : Int32)), .unset, .unset, .unset] [(.ref a_FROM)])) _
          refine XS.goto X190.here hx rfl (pc0 := 58) (pc' := 64) rfl (hb hby at_58) (by decide) (by decide) ?_
          show Steps p.tables e below (T190.setTop (mkF m 64 #[.val (.int i0), .val (.int i1), .val (.int (2 : Int32)), .val (.int (0 : Int32)), .val (.int (1 : Int32)), .unset, .unset, .unset] [(.ref a_FROM)])) _
          refine XS.astore X190.here hx rfl (hb hby at_64) rfl rfl (l' := #[.val (.int i0), .val (.int i1), .val (.int (2 : Int32)), .val (.int (0 : Int32)), .val (.int (1 : Int32)), .val (.ref a_FROM), .unset, .unset]) rfl ?_
          show Steps p.tables e below (T190.setTop (mkF m 66 #[.val (.int i0), .val (.int i1), .val (.int (2 : Int32)), .val (.int (0 : Int32)), .val (.int (1 : Int32)), .val (.ref a_FROM), .unset, .unset] [])) _
          refine XS.iconst X190.here hx rfl (hb hby at_66) ?_
          show Steps p.tables e below (T190.setTop (mkF m 67 #[.val (.int i0), .val (.int i1), .val (.int (2 : Int32)), .val (.int (0 : Int32)), .val (.int (1 : Int32)), .val (.ref a_FROM), .unset, .unset] [(.int (4 : Int32))])) _
          refine st191 _ ?_
          show Steps p.tables e below (T191.setTop (mkF m 69 #[.val (.int i0), .val (.int i1), .val (.int (2 : Int32)), .val (.int (0 : Int32)), .val (.int (1 : Int32)), .val (.ref a_FROM), .unset, .unset] [(.ref b191)])) _
          refine XS.dup X191.here hx rfl (hb hby at_69) rfl rfl ?_
          show Steps p.tables e below (T191.setTop (mkF m 70 #[.val (.int i0), .val (.int i1), .val (.int (2 : Int32)), .val (.int (0 : Int32)), .val (.int (1 : Int32)), .val (.ref a_FROM), .unset, .unset] [(.ref b191), (.ref b191)])) _
          refine XS.iconst X191.here hx rfl (hb hby at_70) ?_
          show Steps p.tables e below (T191.setTop (mkF m 71 #[.val (.int i0), .val (.int i1), .val (.int (2 : Int32)), .val (.int (0 : Int32)), .val (.int (1 : Int32)), .val (.ref a_FROM), .unset, .unset] [(.int (0 : Int32)), (.ref b191), (.ref b191)])) _
          refine XS.iconst X191.here hx rfl (hb hby at_71) ?_
          show Steps p.tables e below (T191.setTop (mkF m 72 #[.val (.int i0), .val (.int i1), .val (.int (2 : Int32)), .val (.int (0 : Int32)), .val (.int (1 : Int32)), .val (.ref a_FROM), .unset, .unset] [(.int (0 : Int32)), (.int (0 : Int32)), (.ref b191), (.ref b191)])) _
          refine st193 _ ?_
          show Steps p.tables e below (T193.setTop (mkF m 73 #[.val (.int i0), .val (.int i1), .val (.int (2 : Int32)), .val (.int (0 : Int32)), .val (.int (1 : Int32)), .val (.ref a_FROM), .unset, .unset] [(.ref b191)])) _
          refine XS.dup X193.here hx rfl (hb hby at_73) rfl rfl ?_
          show Steps p.tables e below (T193.setTop (mkF m 74 #[.val (.int i0), .val (.int i1), .val (.int (2 : Int32)), .val (.int (0 : Int32)), .val (.int (1 : Int32)), .val (.ref a_FROM), .unset, .unset] [(.ref b191), (.ref b191)])) _
          refine XS.iconst X193.here hx rfl (hb hby at_74) ?_
          show Steps p.tables e below (T193.setTop (mkF m 75 #[.val (.int i0), .val (.int i1), .val (.int (2 : Int32)), .val (.int (0 : Int32)), .val (.int (1 : Int32)), .val (.ref a_FROM), .unset, .unset] [(.int (1 : Int32)), (.ref b191), (.ref b191)])) _
          refine XS.iconst X193.here hx rfl (hb hby at_75) ?_
          show Steps p.tables e below (T193.setTop (mkF m 76 #[.val (.int i0), .val (.int i1), .val (.int (2 : Int32)), .val (.int (0 : Int32)), .val (.int (1 : Int32)), .val (.ref a_FROM), .unset, .unset] [(.int (1 : Int32)), (.int (1 : Int32)), (.ref b191), (.ref b191)])) _
          refine st195 _ ?_
          show Steps p.tables e below (T195.setTop (mkF m 77 #[.val (.int i0), .val (.int i1), .val (.int (2 : Int32)), .val (.int (0 : Int32)), .val (.int (1 : Int32)), .val (.ref a_FROM), .unset, .unset] [(.ref b191)])) _
          refine XS.dup X195.here hx rfl (hb hby at_77) rfl rfl ?_
          show Steps p.tables e below (T195.setTop (mkF m 78 #[.val (.int i0), .val (.int i1), .val (.int (2 : Int32)), .val (.int (0 : Int32)), .val (.int (1 : Int32)), .val (.ref a_FROM), .unset, .unset] [(.ref b191), (.ref b191)])) _
          refine XS.iconst X195.here hx rfl (hb hby at_78) ?_
          show Steps p.tables e below (T195.setTop (mkF m 79 #[.val (.int i0), .val (.int i1), .val (.int (2 : Int32)), .val (.int (0 : Int32)), .val (.int (1 : Int32)), .val (.ref a_FROM), .unset, .unset] [(.int (2 : Int32)), (.ref b191), (.ref b191)])) _
          refine XS.iconst X195.here hx rfl (hb hby at_79) ?_
          show Steps p.tables e below (T195.setTop (mkF m 80 #[.val (.int i0), .val (.int i1), .val (.int (2 : Int32)), .val (.int (0 : Int32)), .val (.int (1 : Int32)), .val (.ref a_FROM), .unset, .unset] [(.int (0 : Int32)), (.int (2 : Int32)), (.ref b191), (.ref b191)])) _
          refine st197 _ ?_
          show Steps p.tables e below (T197.setTop (mkF m 81 #[.val (.int i0), .val (.int i1), .val (.int (2 : Int32)), .val (.int (0 : Int32)), .val (.int (1 : Int32)), .val (.ref a_FROM), .unset, .unset] [(.ref b191)])) _
          refine XS.dup X197.here hx rfl (hb hby at_81) rfl rfl ?_
          show Steps p.tables e below (T197.setTop (mkF m 82 #[.val (.int i0), .val (.int i1), .val (.int (2 : Int32)), .val (.int (0 : Int32)), .val (.int (1 : Int32)), .val (.ref a_FROM), .unset, .unset] [(.ref b191), (.ref b191)])) _
          refine XS.iconst X197.here hx rfl (hb hby at_82) ?_
          show Steps p.tables e below (T197.setTop (mkF m 83 #[.val (.int i0), .val (.int i1), .val (.int (2 : Int32)), .val (.int (0 : Int32)), .val (.int (1 : Int32)), .val (.ref a_FROM), .unset, .unset] [(.int (3 : Int32)), (.ref b191), (.ref b191)])) _
          refine XS.iconst X197.here hx rfl (hb hby at_83) ?_
          show Steps p.tables e below (T197.setTop (mkF m 84 #[.val (.int i0), .val (.int i1), .val (.int (2 : Int32)), .val (.int (0 : Int32)), .val (.int (1 : Int32)), .val (.ref a_FROM), .unset, .unset] [(.int (1 : Int32)), (.int (3 : Int32)), (.ref b191), (.ref b191)])) _
          refine st199 _ ?_
          show Steps p.tables e below (T199.setTop (mkF m 85 #[.val (.int i0), .val (.int i1), .val (.int (2 : Int32)), .val (.int (0 : Int32)), .val (.int (1 : Int32)), .val (.ref a_FROM), .unset, .unset] [(.ref b191)])) _
          refine XS.astore X199.here hx rfl (hb hby at_85) rfl rfl (l' := #[.val (.int i0), .val (.int i1), .val (.int (2 : Int32)), .val (.int (0 : Int32)), .val (.int (1 : Int32)), .val (.ref a_FROM), .val (.ref b191), .unset]) rfl ?_
          show Steps p.tables e below (T199.setTop (mkF m 87 #[.val (.int i0), .val (.int i1), .val (.int (2 : Int32)), .val (.int (0 : Int32)), .val (.int (1 : Int32)), .val (.ref a_FROM), .val (.ref b191), .unset] [])) _
          refine XS.aload X199.here hx rfl (hb hby at_87) rfl rfl ?_
          show Steps p.tables e below (T199.setTop (mkF m 89 #[.val (.int i0), .val (.int i1), .val (.int (2 : Int32)), .val (.int (0 : Int32)), .val (.int (1 : Int32)), .val (.ref a_FROM), .val (.ref b191), .unset] [(.ref b191)])) _
          refine XS.iloadN X199.here hx rfl (hb hby at_89) rfl ?_
          show Steps p.tables e below (T199.setTop (mkF m 90 #[.val (.int i0), .val (.int i1), .val (.int (2 : Int32)), .val (.int (0 : Int32)), .val (.int (1 : Int32)), .val (.ref a_FROM), .val (.ref b191), .unset] [(.int (2 : Int32)), (.ref b191)])) _
          refine X199.baloadBooleans hx (j := (2 : Int32)) (v := (.int (0 : Int32))) (by rw [e199]; exact Ar200.1) (State.isArrayOf_alike hZ.alike Ar200.2.1) Ar200.2.2 hin200 hat200 (g := (mkF m 90 #[.val (.int i0), .val (.int i1), .val (.int (2 : Int32)), .val (.int (0 : Int32)), .val (.int (1 : Int32)), .val (.ref a_FROM), .val (.ref b191), .unset] [(.int (2 : Int32)), (.ref b191)])) rfl rfl (hb hby at_90) _ ?_
          show Steps p.tables e below (T199.setTop (mkF m 91 #[.val (.int i0), .val (.int i1), .val (.int (2 : Int32)), .val (.int (0 : Int32)), .val (.int (1 : Int32)), .val (.ref a_FROM), .val (.ref b191), .unset] [(.int (0 : Int32))])) _
          refine XS.istore X199.here hx rfl (hb hby at_91) rfl (l' := #[.val (.int i0), .val (.int i1), .val (.int (2 : Int32)), .val (.int (0 : Int32)), .val (.int (1 : Int32)), .val (.ref a_FROM), .val (.ref b191), .val (.int (0 : Int32))]) rfl ?_
          show Steps p.tables e below (T199.setTop (mkF m 93 #[.val (.int i0), .val (.int i1), .val (.int (2 : Int32)), .val (.int (0 : Int32)), .val (.int (1 : Int32)), .val (.ref a_FROM), .val (.ref b191), .val (.int (0 : Int32))] [])) _
          refine XS.aload X199.here hx rfl (hb hby at_93) rfl rfl ?_
          show Steps p.tables e below (T199.setTop (mkF m 95 #[.val (.int i0), .val (.int i1), .val (.int (2 : Int32)), .val (.int (0 : Int32)), .val (.int (1 : Int32)), .val (.ref a_FROM), .val (.ref b191), .val (.int (0 : Int32))] [(.ref a_FROM)])) _
          refine st202.trans ?_
          show Steps p.tables e below (T202.setTop (mkF m 98 #[.val (.int i0), .val (.int i1), .val (.int (2 : Int32)), .val (.int (0 : Int32)), .val (.int (1 : Int32)), .val (.ref a_FROM), .val (.ref b191), .val (.int (0 : Int32))] [(.int (0 : Int32))])) _
          refine XS.iload X202.here hx rfl (hb hby at_98) rfl ?_
          show Steps p.tables e below (T202.setTop (mkF m 100 #[.val (.int i0), .val (.int i1), .val (.int (2 : Int32)), .val (.int (0 : Int32)), .val (.int (1 : Int32)), .val (.ref a_FROM), .val (.ref b191), .val (.int (0 : Int32))] [(.int (0 : Int32)), (.int (0 : Int32))])) _
          refine XS.icmpNo X202.here hx rfl (hb hby at_100) rfl (by decide) ?_
          show Steps p.tables e below (T202.setTop (mkF m 103 #[.val (.int i0), .val (.int i1), .val (.int (2 : Int32)), .val (.int (0 : Int32)), .val (.int (1 : Int32)), .val (.ref a_FROM), .val (.ref b191), .val (.int (0 : Int32))] [])) _
          refine XS.aload X202.here hx rfl (hb hby at_103) rfl rfl ?_
          show Steps p.tables e below (T202.setTop (mkF m 105 #[.val (.int i0), .val (.int i1), .val (.int (2 : Int32)), .val (.int (0 : Int32)), .val (.int (1 : Int32)), .val (.ref a_FROM), .val (.ref b191), .val (.int (0 : Int32))] [(.ref a_FROM)])) _
          refine XS.iloadN X202.here hx rfl (hb hby at_105) rfl ?_
          show Steps p.tables e below (T202.setTop (mkF m 106 #[.val (.int i0), .val (.int i1), .val (.int (2 : Int32)), .val (.int (0 : Int32)), .val (.int (1 : Int32)), .val (.ref a_FROM), .val (.ref b191), .val (.int (0 : Int32))] [(.int (0 : Int32)), (.ref a_FROM)])) _
          refine st204.trans ?_
          show Steps p.tables e below (T204.setTop (mkF m 109 #[.val (.int i0), .val (.int i1), .val (.int (2 : Int32)), .val (.int (0 : Int32)), .val (.int (1 : Int32)), .val (.ref a_FROM), .val (.ref b191), .val (.int (0 : Int32))] [(.ref a_FROM)])) _
          refine st205.trans ?_
          show Steps p.tables e below (T205.setTop (mkF m 112 #[.val (.int i0), .val (.int i1), .val (.int (2 : Int32)), .val (.int (0 : Int32)), .val (.int (1 : Int32)), .val (.ref a_FROM), .val (.ref b191), .val (.int (0 : Int32))] [(.int (0 : Int32))])) _
          refine XS.iloadN X205.here hx rfl (hb hby at_112) rfl ?_
          show Steps p.tables e below (T205.setTop (mkF m 113 #[.val (.int i0), .val (.int i1), .val (.int (2 : Int32)), .val (.int (0 : Int32)), .val (.int (1 : Int32)), .val (.ref a_FROM), .val (.ref b191), .val (.int (0 : Int32))] [(.int (0 : Int32)), (.int (0 : Int32))])) _
          refine XS.icmpNo X205.here hx rfl (hb hby at_113) rfl (by decide) ?_
          show Steps p.tables e below (T205.setTop (mkF m 116 #[.val (.int i0), .val (.int i1), .val (.int (2 : Int32)), .val (.int (0 : Int32)), .val (.int (1 : Int32)), .val (.ref a_FROM), .val (.ref b191), .val (.int (0 : Int32))] [])) _
          refine XS.aload X205.here hx rfl (hb hby at_116) rfl rfl ?_
          show Steps p.tables e below (T205.setTop (mkF m 118 #[.val (.int i0), .val (.int i1), .val (.int (2 : Int32)), .val (.int (0 : Int32)), .val (.int (1 : Int32)), .val (.ref a_FROM), .val (.ref b191), .val (.int (0 : Int32))] [(.ref a_FROM)])) _
          refine XS.iload X205.here hx rfl (hb hby at_118) rfl ?_
          show Steps p.tables e below (T205.setTop (mkF m 120 #[.val (.int i0), .val (.int i1), .val (.int (2 : Int32)), .val (.int (0 : Int32)), .val (.int (1 : Int32)), .val (.ref a_FROM), .val (.ref b191), .val (.int (0 : Int32))] [(.int (1 : Int32)), (.ref a_FROM)])) _
          refine st206.trans ?_
          show Steps p.tables e below (T206.setTop (mkF m 123 #[.val (.int i0), .val (.int i1), .val (.int (2 : Int32)), .val (.int (0 : Int32)), .val (.int (1 : Int32)), .val (.ref a_FROM), .val (.ref b191), .val (.int (0 : Int32))] [(.ref a_FROM)])) _
          refine st207.trans ?_
          show Steps p.tables e below (T207.setTop (mkF m 126 #[.val (.int i0), .val (.int i1), .val (.int (2 : Int32)), .val (.int (0 : Int32)), .val (.int (1 : Int32)), .val (.ref a_FROM), .val (.ref b191), .val (.int (0 : Int32))] [(.int (0 : Int32))])) _
          refine XS.iload X207.here hx rfl (hb hby at_126) rfl ?_
          show Steps p.tables e below (T207.setTop (mkF m 128 #[.val (.int i0), .val (.int i1), .val (.int (2 : Int32)), .val (.int (0 : Int32)), .val (.int (1 : Int32)), .val (.ref a_FROM), .val (.ref b191), .val (.int (0 : Int32))] [(.int (0 : Int32)), (.int (0 : Int32))])) _
          refine XS.icmpNo X207.here hx rfl (hb hby at_128) rfl (by decide) ?_
          show Steps p.tables e below (T207.setTop (mkF m 131 #[.val (.int i0), .val (.int i1), .val (.int (2 : Int32)), .val (.int (0 : Int32)), .val (.int (1 : Int32)), .val (.ref a_FROM), .val (.ref b191), .val (.int (0 : Int32))] [])) _
          refine XS.iconst X207.here hx rfl (hb hby at_131) ?_
          show Steps p.tables e below (T207.setTop (mkF m 132 #[.val (.int i0), .val (.int i1), .val (.int (2 : Int32)), .val (.int (0 : Int32)), .val (.int (1 : Int32)), .val (.ref a_FROM), .val (.ref b191), .val (.int (0 : Int32))] [(.int (1 : Int32))])) _
          refine XS.goto X207.here hx rfl (pc0 := 132) (pc' := 136) rfl (hb hby at_132) (by decide) (by decide) ?_
          show Steps p.tables e below (T207.setTop (mkF m 136 #[.val (.int i0), .val (.int i1), .val (.int (2 : Int32)), .val (.int (0 : Int32)), .val (.int (1 : Int32)), .val (.ref a_FROM), .val (.ref b191), .val (.int (0 : Int32))] [(.int (1 : Int32))])) _
          exact retN X207 hx (t := .boolean) Bd.returns (by simp) (hb hby at_136) hr
        · show QL n0 _ T207.heap _
          rw [hh207]
          exact ⟨rfl, N207⟩
    · skip
      have pre208 : ∀ t, Steps p.tables e below (s₁.setTop (mkF m 19 #[.val (.int i0), .val (.int i1), .val (.int (2 : Int32)), .val (.int (1 : Int32)), .unset, .unset, .unset, .unset] [(.int (i1 &&& (2 : Int32)))])) t → Steps p.tables e below (s₁.setTop (entryFrame m #[(.int i0), (.int i1)] maxLocals)) t := fun t kt => pre167 t (by
          show Steps p.tables e below (s₁.setTop (mkF m 7 #[.val (.int i0), .val (.int i1), .val (.int (2 : Int32)), .unset, .unset, .unset, .unset, .unset] [(.int (i1 &&& (1 : Int32)))])) _
          rw [hk168]
          show Steps p.tables e below (s₁.setTop (mkF m 7 #[.val (.int i0), .val (.int i1), .val (.int (2 : Int32)), .unset, .unset, .unset, .unset, .unset] [(.int (1 : Int32))])) _
          refine XS.ifNo X0.here hx rfl (hb hby at_7) rfl (by decide) ?_
          show Steps p.tables e below (s₁.setTop (mkF m 10 #[.val (.int i0), .val (.int i1), .val (.int (2 : Int32)), .unset, .unset, .unset, .unset, .unset] [])) _
          refine XS.iconst X0.here hx rfl (hb hby at_10) ?_
          show Steps p.tables e below (s₁.setTop (mkF m 11 #[.val (.int i0), .val (.int i1), .val (.int (2 : Int32)), .unset, .unset, .unset, .unset, .unset] [(.int (1 : Int32))])) _
          refine XS.goto X0.here hx rfl (pc0 := 11) (pc' := 15) rfl (hb hby at_11) (by decide) (by decide) ?_
          show Steps p.tables e below (s₁.setTop (mkF m 15 #[.val (.int i0), .val (.int i1), .val (.int (2 : Int32)), .unset, .unset, .unset, .unset, .unset] [(.int (1 : Int32))])) _
          refine XS.istoreN X0.here hx rfl (hb hby at_15) rfl (l' := #[.val (.int i0), .val (.int i1), .val (.int (2 : Int32)), .val (.int (1 : Int32)), .unset, .unset, .unset, .unset]) rfl ?_
          show Steps p.tables e below (s₁.setTop (mkF m 16 #[.val (.int i0), .val (.int i1), .val (.int (2 : Int32)), .val (.int (1 : Int32)), .unset, .unset, .unset, .unset] [])) _
          refine XS.iloadN X0.here hx rfl (hb hby at_16) rfl ?_
          show Steps p.tables e below (s₁.setTop (mkF m 17 #[.val (.int i0), .val (.int i1), .val (.int (2 : Int32)), .val (.int (1 : Int32)), .unset, .unset, .unset, .unset] [(.int i1)])) _
          refine XS.iconst X0.here hx rfl (hb hby at_17) ?_
          show Steps p.tables e below (s₁.setTop (mkF m 18 #[.val (.int i0), .val (.int i1), .val (.int (2 : Int32)), .val (.int (1 : Int32)), .unset, .unset, .unset, .unset] [(.int (2 : Int32)), (.int i1)])) _
          refine XS.iand X0.here hx rfl (hb hby at_18) rfl ?_
          exact kt)
      rcases own_c i1 with hk209 | hk209
      · skip
        obtain ⟨T210, X210, e210, st210⟩ := getS2 X0 hx hZ hown (host := "") (Or.inl (hw _ (List.mem_of_getElem? (i := 34) rfl))) Via.refl e0 (Sta.ext O0.2 S_a_FROM) (g := (mkF m 55 #[.val (.int i0), .val (.int i1), .val (.int (2 : Int32)), .val (.int (1 : Int32)), .val (.int (0 : Int32)), .unset, .unset, .unset] [])) rfl (hb hby at_55)
        obtain ⟨T211, h211, k211, X211, e211, E211, A211, st211⟩ := newP X210 hx hZ (hw _ (List.mem_of_getElem? (i := 3) rfl)) e210 (g := (mkF m 67 #[.val (.int i0), .val (.int i1), .val (.int (2 : Int32)), .val (.int (1 : Int32)), .val (.int (0 : Int32)), .val (.ref a_FROM), .unset, .unset] [(.int (4 : Int32))])) rfl (hb hby at_67) rfl (by decide) (cap := 4) (by decide) (by decide) (by decide) (by decide)
        obtain ⟨b211, g211⟩ : ∃ z, z = h0.size := ⟨_, rfl⟩
        rw [← g211] at A211 st211
        have gb211 : n0 ≤ b211 := by rw [g211, ← O0.1]; exact O0.2.1
        have ne211_a_BOTH : a_BOTH ≠ b211 := by rw [g211]; exact Nat.ne_of_lt ((Exa.ext O0.2 X_a_BOTH)).lt
        have ne211_a_FROM : a_FROM ≠ b211 := by rw [g211]; exact Nat.ne_of_lt ((Exa.ext O0.2 X_a_FROM)).lt
        have ne211_a_NONE : a_NONE ≠ b211 := by rw [g211]; exact Nat.ne_of_lt ((Exa.ext O0.2 X_a_NONE)).lt
        have ne211_a_TO : a_TO ≠ b211 := by rw [g211]; exact Nat.ne_of_lt ((Exa.ext O0.2 X_a_TO)).lt
        have V211 : Arv Z h211 b211 k211 .boolean (4 : Int32) [(.int (0 : Int32)), (.int (0 : Int32)), (.int (0 : Int32)), (.int (0 : Int32))] (.int (0 : Int32)) := (Arv.new A211 (by decide)).pad (pad_rep [] (.int (0 : Int32)) 4)
        obtain ⟨cl212, Ar212, q212, S212, N212_, H212, G212⟩ := V211
        have hin212 : ¬ ((0 : Int32) < 0 ∨ cl212.slots.size ≤ ((0 : Int32)).toNatClampNeg) := inb_of S212 ⟨by decide, by decide⟩
        obtain ⟨T213, h213, X213, e213, W213, st213⟩ := stZ X211 hx hZ e211 Ar212 (j := (0 : Int32)) hin212 (g := (mkF m 72 #[.val (.int i0), .val (.int i1), .val (.int (2 : Int32)), .val (.int (1 : Int32)), .val (.int (0 : Int32)), .val (.ref a_FROM), .unset, .unset] [(.int (0 : Int32)), (.int (0 : Int32)), (.ref b211), (.ref b211)])) rfl rfl (hb hby at_72)
        have V213 : Arv Z h213 b211 k211 .boolean (4 : Int32) [(.int (0 : Int32)), (.int (0 : Int32)), (.int (0 : Int32)), (.int (0 : Int32))] (.int (0 : Int32)) := Arv.set Ar212 q212 S212 N212_ H212 G212 (fits_nar_bool _) W213 0 rfl (Nat.le_of_ble_eq_true rfl)
        have N213 := Fr.snoc X213 N0 gb211
        obtain ⟨cl214, Ar214, q214, S214, N214_, H214, G214⟩ := V213
        have hin214 : ¬ ((1 : Int32) < 0 ∨ cl214.slots.size ≤ ((1 : Int32)).toNatClampNeg) := inb_of S214 ⟨by decide, by decide⟩
        obtain ⟨T215, h215, X215, e215, W215, st215⟩ := stZ X213 hx hZ e213 Ar214 (j := (1 : Int32)) hin214 (g := (mkF m 76 #[.val (.int i0), .val (.int i1), .val (.int (2 : Int32)), .val (.int (1 : Int32)), .val (.int (0 : Int32)), .val (.ref a_FROM), .unset, .unset] [(.int (1 : Int32)), (.int (1 : Int32)), (.ref b211), (.ref b211)])) rfl rfl (hb hby at_76)
        have V215 : Arv Z h215 b211 k211 .boolean (4 : Int32) [(.int (0 : Int32)), (.int (1 : Int32)), (.int (0 : Int32)), (.int (0 : Int32))] (.int (0 : Int32)) := Arv.set Ar214 q214 S214 N214_ H214 G214 (fits_nar_bool _) W215 1 rfl (Nat.le_of_ble_eq_true rfl)
        have N215 := Fr.snoc X215 N213 gb211
        obtain ⟨cl216, Ar216, q216, S216, N216_, H216, G216⟩ := V215
        have hin216 : ¬ ((2 : Int32) < 0 ∨ cl216.slots.size ≤ ((2 : Int32)).toNatClampNeg) := inb_of S216 ⟨by decide, by decide⟩
        obtain ⟨T217, h217, X217, e217, W217, st217⟩ := stZ X215 hx hZ e215 Ar216 (j := (2 : Int32)) hin216 (g := (mkF m 80 #[.val (.int i0), .val (.int i1), .val (.int (2 : Int32)), .val (.int (1 : Int32)), .val (.int (0 : Int32)), .val (.ref a_FROM), .unset, .unset] [(.int (0 : Int32)), (.int (2 : Int32)), (.ref b211), (.ref b211)])) rfl rfl (hb hby at_80)
        have V217 : Arv Z h217 b211 k211 .boolean (4 : Int32) [(.int (0 : Int32)), (.int (1 : Int32)), (.int (0 : Int32)), (.int (0 : Int32))] (.int (0 : Int32)) := Arv.set Ar216 q216 S216 N216_ H216 G216 (fits_nar_bool _) W217 2 rfl (Nat.le_of_ble_eq_true rfl)
        have N217 := Fr.snoc X217 N215 gb211
        obtain ⟨cl218, Ar218, q218, S218, N218_, H218, G218⟩ := V217
        have hin218 : ¬ ((3 : Int32) < 0 ∨ cl218.slots.size ≤ ((3 : Int32)).toNatClampNeg) := inb_of S218 ⟨by decide, by decide⟩
        obtain ⟨T219, h219, X219, e219, W219, st219⟩ := stZ X217 hx hZ e217 Ar218 (j := (3 : Int32)) hin218 (g := (mkF m 84 #[.val (.int i0), .val (.int i1), .val (.int (2 : Int32)), .val (.int (1 : Int32)), .val (.int (0 : Int32)), .val (.ref a_FROM), .unset, .unset] [(.int (1 : Int32)), (.int (3 : Int32)), (.ref b211), (.ref b211)])) rfl rfl (hb hby at_84)
        have V219 : Arv Z h219 b211 k211 .boolean (4 : Int32) [(.int (0 : Int32)), (.int (1 : Int32)), (.int (0 : Int32)), (.int (1 : Int32))] (.int (0 : Int32)) := Arv.set Ar218 q218 S218 N218_ H218 G218 (fits_nar_bool _) W219 3 rfl (Nat.le_of_ble_eq_true rfl)
        have N219 := Fr.snoc X219 N217 gb211
        obtain ⟨cl220, Ar220, q220, S220, N220_, H220, G220⟩ := V219
        have hin220 : ¬ ((2 : Int32) < 0 ∨ cl220.slots.size ≤ ((2 : Int32)).toNatClampNeg) := inb_of S220 ⟨by decide, by decide⟩
        have hat220 : cl220.slots[((2 : Int32)).toNatClampNeg]? = some (.int (0 : Int32)) := H220.at hin220 rfl
        have O221 : Old Z n0 h219 := (((((O0.ext E211).wr W213 gb211).wr W215 gb211).wr W217 gb211).wr W219 gb211)
        have f223 := ((((((Exa.ext O0.2 X_a_FROM).ext E211).wr W213).wr W215).wr W217).wr W219)
        obtain ⟨cq222, kq222, q222a, q222b, q222c⟩ := isOf hZ e219 f223
        obtain ⟨_, _, ⟨T222, L222, k222, n222⟩, -, X222, ⟨Lc222, hQ222, l222, y222, z222⟩, st222⟩ := X219.virtualBack hx (y := (⟨"com/example/carbonfold/carbonfold/model/RosterItem$Subscription", "hasTo", "()Z"⟩ : MethodName)) (z := (⟨"com/example/carbonfold/carbonfold/model/RosterItem$Subscription", "hasTo", "()Z"⟩ : MethodName)) hown (mvT hZ (hw _ (List.mem_of_getElem? (i := 4) rfl))) (mvT hZ (hw _ (List.mem_of_getElem? (i := 5) rfl))) (notFace_of_selects (args := #[]) (mvT hZ (hw _ (List.mem_of_getElem? (i := 7) rfl)))) (mvT hZ (hw _ (List.mem_of_getElem? (i := 7) rfl))) (mvT hZ (hw _ (List.mem_of_getElem? (i := 6) rfl))) (by decide) (backOf (W := 0) (rm_hasTo_8 l Z a0 hw [] a_NONE a_TO a_BOTH a_FROM h219 n0 O221 En) hZ (hw _ (List.mem_of_getElem? (i := 8) rfl)) (hw _ (List.mem_of_getElem? (i := 1) rfl)) (by decide) (by decide)) q222a q222c (g := (mkF m 95 #[.val (.int i0), .val (.int i1), .val (.int (2 : Int32)), .val (.int (1 : Int32)), .val (.int (0 : Int32)), .val (.ref a_FROM), .val (.ref b211), .val (.int (0 : Int32))] [(.ref a_FROM)])) rfl (by rw [hml]; rfl) (Steps.refl _) (argsL := []) (rest := []) (lenOf pd_0 rfl) rfl (by show 2 * 0 + _ ≤ _; exact Nat.le_of_eq rfl) (hb hby at_95) (fun _ _ => ⟨rfl, e219, (by decide : 1 + 0 ≤ _), (by decide : 4 + 0 ≤ _)⟩)
        dsimp only [Pt.U, Pt.locs, Pt.cells, Pt.slots] at X222 l222 y222 z222 st222 hQ222
        subst l222 y222 z222
        obtain ⟨rfl, N222q, hh222⟩ := hQ222
        have N222 := Fr.app N219 N222q
        obtain ⟨cq224, kq224, q224a, q224b, q224c⟩ := isOf hZ hh222 f223
        obtain ⟨_, _, ⟨T224, L224, k224, n224⟩, -, X224, ⟨Lc224, hQ224, l224, y224, z224⟩, st224⟩ := X222.virtualBack hx (y := (⟨"com/example/carbonfold/carbonfold/model/RosterItem$Subscription", "withTo", "(Z)Lcom/example/carbonfold/carbonfold/model/RosterItem$Subscription;"⟩ : MethodName)) (z := (⟨"com/example/carbonfold/carbonfold/model/RosterItem$Subscription", "withTo", "(Z)Lcom/example/carbonfold/carbonfold/model/RosterItem$Subscription;"⟩ : MethodName)) hown (mvT hZ (hw _ (List.mem_of_getElem? (i := 13) rfl))) (mvT hZ (hw _ (List.mem_of_getElem? (i := 14) rfl))) (notFace_of_selects (args := #[]) (mvT hZ (hw _ (List.mem_of_getElem? (i := 16) rfl)))) (mvT hZ (hw _ (List.mem_of_getElem? (i := 16) rfl))) (mvT hZ (hw _ (List.mem_of_getElem? (i := 15) rfl))) (by decide) (backOf (W := 0) (rm_withTo_23 l Z a0 hw [] a_NONE a_TO a_BOTH a_FROM h219 n0 O221 En) hZ (hw _ (List.mem_of_getElem? (i := 17) rfl)) (hw _ (List.mem_of_getElem? (i := 1) rfl)) (by decide) (by decide)) q224a q224c (g := (mkF m 106 #[.val (.int i0), .val (.int i1), .val (.int (2 : Int32)), .val (.int (1 : Int32)), .val (.int (0 : Int32)), .val (.ref a_FROM), .val (.ref b211), .val (.int (0 : Int32))] [(.int (1 : Int32)), (.ref a_FROM)])) rfl (by rw [hml]; rfl) (Steps.refl _) (argsL := [(.int (1 : Int32))]) (rest := []) (lenOf pd_2 rfl) rfl (by show 2 * 0 + _ ≤ _; exact Nat.le_of_eq rfl) (hb hby at_106) (fun _ _ => ⟨rfl, hh222, (by decide : 1 + 0 ≤ _), (by decide : 4 + 0 ≤ _)⟩)
        dsimp only [Pt.U, Pt.locs, Pt.cells, Pt.slots] at X224 l224 y224 z224 st224 hQ224
        subst l224 y224 z224
        obtain ⟨rfl, N224q, hh224⟩ := hQ224
        have N224 := Fr.app N222 N224q
        have f226 := ((((((Exa.ext O0.2 X_a_BOTH).ext E211).wr W213).wr W215).wr W217).wr W219)
        obtain ⟨cq225, kq225, q225a, q225b, q225c⟩ := isOf hZ hh224 f226
        obtain ⟨_, _, ⟨T225, L225, k225, n225⟩, -, X225, ⟨Lc225, hQ225, l225, y225, z225⟩, st225⟩ := X224.virtualBack hx (y := (⟨"com/example/carbonfold/carbonfold/model/RosterItem$Subscription", "hasTo", "()Z"⟩ : MethodName)) (z := (⟨"com/example/carbonfold/carbonfold/model/RosterItem$Subscription", "hasTo", "()Z"⟩ : MethodName)) hown (mvT hZ (hw _ (List.mem_of_getElem? (i := 4) rfl))) (mvT hZ (hw _ (List.mem_of_getElem? (i := 5) rfl))) (notFace_of_selects (args := #[]) (mvT hZ (hw _ (List.mem_of_getElem? (i := 7) rfl)))) (mvT hZ (hw _ (List.mem_of_getElem? (i := 7) rfl))) (mvT hZ (hw _ (List.mem_of_getElem? (i := 6) rfl))) (by decide) (backOf (W := 0) (rm_hasTo_17 l Z a0 hw [] a_NONE a_TO a_BOTH a_FROM h219 n0 O221 En) hZ (hw _ (List.mem_of_getElem? (i := 8) rfl)) (hw _ (List.mem_of_getElem? (i := 1) rfl)) (by decide) (by decide)) q225a q225c (g := (mkF m 109 #[.val (.int i0), .val (.int i1), .val (.int (2 : Int32)), .val (.int (1 : Int32)), .val (.int (0 : Int32)), .val (.ref a_FROM), .val (.ref b211), .val (.int (0 : Int32))] [(.ref a_BOTH)])) rfl (by rw [hml]; rfl) (Steps.refl _) (argsL := []) (rest := []) (lenOf pd_0 rfl) rfl (by show 2 * 0 + _ ≤ _; exact Nat.le_of_eq rfl) (hb hby at_109) (fun _ _ => ⟨rfl, hh224, (by decide : 1 + 0 ≤ _), (by decide : 4 + 0 ≤ _)⟩)
        dsimp only [Pt.U, Pt.locs, Pt.cells, Pt.slots] at X225 l225 y225 z225 st225 hQ225
        subst l225 y225 z225
        obtain ⟨rfl, N225q, hh225⟩ := hQ225
        have N225 := Fr.app N224 N225q
        obtain ⟨cq227, kq227, q227a, q227b, q227c⟩ := isOf hZ hh225 f223
        obtain ⟨_, _, ⟨T227, L227, k227, n227⟩, -, X227, ⟨Lc227, hQ227, l227, y227, z227⟩, st227⟩ := X225.virtualBack hx (y := (⟨"com/example/carbonfold/carbonfold/model/RosterItem$Subscription", "withFrom", "(Z)Lcom/example/carbonfold/carbonfold/model/RosterItem$Subscription;"⟩ : MethodName)) (z := (⟨"com/example/carbonfold/carbonfold/model/RosterItem$Subscription", "withFrom", "(Z)Lcom/example/carbonfold/carbonfold/model/RosterItem$Subscription;"⟩ : MethodName)) hown (mvT hZ (hw _ (List.mem_of_getElem? (i := 28) rfl))) (mvT hZ (hw _ (List.mem_of_getElem? (i := 29) rfl))) (notFace_of_selects (args := #[]) (mvT hZ (hw _ (List.mem_of_getElem? (i := 31) rfl)))) (mvT hZ (hw _ (List.mem_of_getElem? (i := 31) rfl))) (mvT hZ (hw _ (List.mem_of_getElem? (i := 30) rfl))) (by decide) (backOf (W := 0) (rm_withFrom_21 l Z a0 hw [] a_NONE a_TO a_BOTH a_FROM h219 n0 O221 En) hZ (hw _ (List.mem_of_getElem? (i := 32) rfl)) (hw _ (List.mem_of_getElem? (i := 1) rfl)) (by decide) (by decide)) q227a q227c (g := (mkF m 120 #[.val (.int i0), .val (.int i1), .val (.int (2 : Int32)), .val (.int (1 : Int32)), .val (.int (0 : Int32)), .val (.ref a_FROM), .val (.ref b211), .val (.int (0 : Int32))] [(.int (0 : Int32)), (.ref a_FROM)])) rfl (by rw [hml]; rfl) (Steps.refl _) (argsL := [(.int (0 : Int32))]) (rest := []) (lenOf pd_2 rfl) rfl (by show 2 * 0 + _ ≤ _; exact Nat.le_of_eq rfl) (hb hby at_120) (fun _ _ => ⟨rfl, hh225, (by decide : 1 + 0 ≤ _), (by decide : 4 + 0 ≤ _)⟩)
        dsimp only [Pt.U, Pt.locs, Pt.cells, Pt.slots] at X227 l227 y227 z227 st227 hQ227
        subst l227 y227 z227
        obtain ⟨rfl, N227q, hh227⟩ := hQ227
        have N227 := Fr.app N225 N227q
        have f229 := ((((((Exa.ext O0.2 X_a_NONE).ext E211).wr W213).wr W215).wr W217).wr W219)
        obtain ⟨cq228, kq228, q228a, q228b, q228c⟩ := isOf hZ hh227 f229
        obtain ⟨_, _, ⟨T228, L228, k228, n228⟩, -, X228, ⟨Lc228, hQ228, l228, y228, z228⟩, st228⟩ := X227.virtualBack hx (y := (⟨"com/example/carbonfold/carbonfold/model/RosterItem$Subscription", "hasTo", "()Z"⟩ : MethodName)) (z := (⟨"com/example/carbonfold/carbonfold/model/RosterItem$Subscription", "hasTo", "()Z"⟩ : MethodName)) hown (mvT hZ (hw _ (List.mem_of_getElem? (i := 4) rfl))) (mvT hZ (hw _ (List.mem_of_getElem? (i := 5) rfl))) (notFace_of_selects (args := #[]) (mvT hZ (hw _ (List.mem_of_getElem? (i := 7) rfl)))) (mvT hZ (hw _ (List.mem_of_getElem? (i := 7) rfl))) (mvT hZ (hw _ (List.mem_of_getElem? (i := 6) rfl))) (by decide) (backOf (W := 0) (rm_hasTo_1 l Z a0 hw [] a_NONE a_TO a_BOTH a_FROM h219 n0 O221 En) hZ (hw _ (List.mem_of_getElem? (i := 8) rfl)) (hw _ (List.mem_of_getElem? (i := 1) rfl)) (by decide) (by decide)) q228a q228c (g := (mkF m 123 #[.val (.int i0), .val (.int i1), .val (.int (2 : Int32)), .val (.int (1 : Int32)), .val (.int (0 : Int32)), .val (.ref a_FROM), .val (.ref b211), .val (.int (0 : Int32))] [(.ref a_NONE)])) rfl (by rw [hml]; rfl) (Steps.refl _) (argsL := []) (rest := []) (lenOf pd_0 rfl) rfl (by show 2 * 0 + _ ≤ _; exact Nat.le_of_eq rfl) (hb hby at_123) (fun _ _ => ⟨rfl, hh227, (by decide : 1 + 0 ≤ _), (by decide : 4 + 0 ≤ _)⟩)
        dsimp only [Pt.U, Pt.locs, Pt.cells, Pt.slots] at X228 l228 y228 z228 st228 hQ228
        subst l228 y228 z228
        obtain ⟨rfl, N228q, hh228⟩ := hQ228
        have N228 := Fr.app N227 N228q
        obtain ⟨fs, hr, hrun, hended, hW, hsame⟩ := X228.leave (v := some (.int (1 : Int32))) (fun h => by rw [Bd.returns] at h; cases h)
        refine ⟨_, _, pre208 _ ?_, hrun, hended, _, _, rfl, ?_, ⟨_, rfl⟩, hW, hsame.mono (by decide) (by decide)⟩
        · skip
          show Steps p.tables e below (s₁.setTop (mkF m 19 #[.val (.int i0), .val (.int i1), .val (.int (2 : Int32)), .val (.int (1 : Int32)), .unset, .unset, .unset, .unset] [(.int (i1 &&& (2 : Int32)))])) _
          rw [hk209]
          show Steps p.tables e below (s₁.setTop (mkF m 19 #[.val (.int i0), .val (.int i1), .val (.int (2 : Int32)), .val (.int (1 : Int32)), .unset, .unset, .unset, .unset] [(.int (0 : Int32))])) _
          refine XS.ifYes X0.here hx rfl (pc0 := 19) (pc' := 26) rfl (hb hby at_19) rfl (by decide) (by decide) (by decide) ?_
          show Steps p.tables e below (s₁.setTop (mkF m 26 #[.val (.int i0), .val (.int i1), .val (.int (2 : Int32)), .val (.int (1 : Int32)), .unset, .unset, .unset, .unset] [])) _
          refine XS.iconst X0.here hx rfl (hb hby at_26) ?_
          show Steps p.tables e below (s₁.setTop (mkF m 27 #[.val (.int i0), .val (.int i1), .val (.int (2 : Int32)), .val (.int (1 : Int32)), .unset, .unset, .unset, .unset] [(.int (0 : Int32))])) _
          refine XS.istore X0.here hx rfl (hb hby at_27) rfl (l' := #[.val (.int i0), .val (.int i1), .val (.int (2 : Int32)), .val (.int (1 : Int32)), .val (.int (0 : Int32)), .unset, .unset, .unset]) rfl ?_
          show Steps p.tables e below (s₁.setTop (mkF m 29 #[.val (.int i0), .val (.int i1), .val (.int (2 : Int32)), .val (.int (1 : Int32)), .val (.int (0 : Int32)), .unset, .unset, .unset] [])) _
          refine XS.iloadN X0.here hx rfl (hb hby at_29) rfl ?_
          show Steps p.tables e below (s₁.setTop (mkF m 30 #[.val (.int i0), .val (.int i1), .val (.int (2 : Int32)), .val (.int (1 : Int32)), .val (.int (0 : Int32)), .unset, .unset, .unset] [(.int (2 : Int32))])) _
          refine XS.ifYes X0.here hx rfl (pc0 := 30) (pc' := 39) rfl (hb hby at_30) rfl (by decide) (by decide) (by decide) ?_
          show Steps p.tables e below (s₁.setTop (mkF m 39 #[.val (.int i0), .val (.int i1), .val (.int (2 : Int32)), .val (.int (1 : Int32)), .val (.int (0 : Int32)), .unset, .unset, .unset] [])) _
          refine XS.iloadN X0.here hx rfl (hb hby at_39) rfl ?_
          show Steps p.tables e below (s₁.setTop (mkF m 40 #[.val (.int i0), .val (.int i1), .val (.int (2 : Int32)), .val (.int (1 : Int32)), .val (.int (0 : Int32)), .unset, .unset, .unset] [(.int (2 : Int32))])) _
          refine XS.iconst X0.here hx rfl (hb hby at_40) ?_
          show Steps p.tables e below (s₁.setTop (mkF m 41 #[.val (.int i0), .val (.int i1), .val (.int (2 : Int32)), .val (.int (1 : Int32)), .val (.int (0 : Int32)), .unset, .unset, .unset] [(.int (1 : Int32)), (.int (2 : Int32))])) _
          refine XS.icmpYes X0.here hx rfl (pc0 := 41) (pc' := 50) rfl (hb hby at_41) rfl (by decide) (by decide) (by decide) ?_
          show Steps p.tables e below (s₁.setTop (mkF m 50 #[.val (.int i0), .val (.int i1), .val (.int (2 : Int32)), .val (.int (1 : Int32)), .val (.int (0 : Int32)), .unset, .unset, .unset] [])) _
          refine XS.iloadN X0.here hx rfl (hb hby at_50) rfl ?_
          show Steps p.tables e below (s₁.setTop (mkF m 51 #[.val (.int i0), .val (.int i1), .val (.int (2 : Int32)), .val (.int (1 : Int32)), .val (.int (0 : Int32)), .unset, .unset, .unset] [(.int (2 : Int32))])) _
          refine XS.iconst X0.here hx rfl (hb hby at_51) ?_
          show Steps p.tables e below (s₁.setTop (mkF m 52 #[.val (.int i0), .val (.int i1), .val (.int (2 : Int32)), .val (.int (1 : Int32)), .val (.int (0 : Int32)), .unset, .unset, .unset] [(.int (2 : Int32)), (.int (2 : Int32))])) _
          refine XS.icmpNo X0.here hx rfl (hb hby at_52) rfl (by decide) ?_
          show Steps p.tables e below (s₁.setTop (mkF m 55 #[.val (.int i0), .val (.int i1), .val (.int (2 : Int32)), .val (.int (1 : Int32)), .val (.int (0 : Int32)), .unset, .unset, .unset] [])) _
          refine st210 _ ?_
          show Steps p.tables e below (T210.setTop (mkF m 58 #[.val (.int i0), .val (.int i1), .val (.int (2 : Int32)), .val (.int (1 : Int32)), .val (.int (0 : Int32)), .unset, .unset, .unset] [(.ref a_FROM)])) _
          refine XS.goto X210.here hx rfl (pc0 := 58) (pc' := 64) rfl (hb hby at_58) (by decide) (by decide) ?_
          show Steps p.tables e below (T210.setTop (mkF m 64 #[.val (.int i0), .val (.int i1), .val (.int (2 : Int32)), .val (.int (1 : Int32)), .val (.int (0 : Int32)), .unset, .unset, .unset] [(.ref a_FROM)])) _
          refine XS.astore X210.here hx rfl (hb hby at_64) rfl rfl (l' := #[.val (.int i0), .val (.int i1), .val (.int (2 : Int32)), .val (.int (1 : Int32)), .val (.int (0 : Int32)), .val (.ref a_FROM), .unset, .unset]) rfl ?_
          show Steps p.tables e below (T210.setTop (mkF m 66 #[.val (.int i0), .val (.int i1), .val (.int (2 : Int32)), .val (.int (1 : Int32)), .val (.int (0 : Int32)), .val (.ref a_FROM), .unset, .unset] [])) _
          refine XS.iconst X210.here hx rfl (hb hby at_66) ?_
          show Steps p.tables e below (T210.setTop (mkF m 67 #[.val (.int i0), .val (.int i1), .val (.int (2 : Int32)), .val (.int (1 : Int32)), .val (.int (0 : Int32)), .val (.ref a_FROM), .unset, .unset] [(.int (4 : Int32))])) _
          refine st211 _ ?_
          show Steps p.tables e below (T211.setTop (mkF m 69 #[.val (.int i0), .val (.int i1), .val (.int (2 : Int32)), .val (.int (1 : Int32)), .val (.int (0 : Int32)), .val (.ref a_FROM), .unset, .unset] [(.ref b211)])) _
          refine XS.dup X211.here hx rfl (hb hby at_69) rfl rfl ?_
          show Steps p.tables e below (T211.setTop (mkF m 70 #[.val (.int i0), .val (.int i1), .val (.int (2 : Int32)), .val (.int (1 : Int32)), .val (.int (0 : Int32)), .val (.ref a_FROM), .unset, .unset] [(.ref b211), (.ref b211)])) _
          refine XS.iconst X211.here hx rfl (hb hby at_70) ?_
          show Steps p.tables e below (T211.setTop (mkF m 71 #[.val (.int i0), .val (.int i1), .val (.int (2 : Int32)), .val (.int (1 : Int32)), .val (.int (0 : Int32)), .val (.ref a_FROM), .unset, .unset] [(.int (0 : Int32)), (.ref b211), (.ref b211)])) _
          refine XS.iconst X211.here hx rfl (hb hby at_71) ?_
          show Steps p.tables e below (T211.setTop (mkF m 72 #[.val (.int i0), .val (.int i1), .val (.int (2 : Int32)), .val (.int (1 : Int32)), .val (.int (0 : Int32)), .val (.ref a_FROM), .unset, .unset] [(.int (0 : Int32)), (.int (0 : Int32)), (.ref b211), (.ref b211)])) _
          refine st213 _ ?_
          show Steps p.tables e below (T213.setTop (mkF m 73 #[.val (.int i0), .val (.int i1), .val (.int (2 : Int32)), .val (.int (1 : Int32)), .val (.int (0 : Int32)), .val (.ref a_FROM), .unset, .unset] [(.ref b211)])) _
          refine XS.dup X213.here hx rfl (hb hby at_73) rfl rfl ?_
          show Steps p.tables e below (T213.setTop (mkF m 74 #[.val (.int i0), .val (.int i1), .val (.int (2 : Int32)), .val (.int (1 : Int32)), .val (.int (0 : Int32)), .val (.ref a_FROM), .unset, .unset] [(.ref b211), (.ref b211)])) _
          refine XS.iconst X213.here hx rfl (hb hby at_74) ?_
          show Steps p.tables e below (T213.setTop (mkF m 75 #[.val (.int i0), .val (.int i1), .val (.int (2 : Int32)), .val (.int (1 : Int32)), .val (.int (0 : Int32)), .val (.ref a_FROM), .unset, .unset] [(.int (1 : Int32)), (.ref b211), (.ref b211)])) _
          refine XS.iconst X213.here hx rfl (hb hby at_75) ?_
          show Steps p.tables e below (T213.setTop (mkF m 76 #[.val (.int i0), .val (.int i1), .val (.int (2 : Int32)), .val (.int (1 : Int32)), .val (.int (0 : Int32)), .val (.ref a_FROM), .unset, .unset] [(.int (1 : Int32)), (.int (1 : Int32)), (.ref b211), (.ref b211)])) _
          refine st215 _ ?_
          show Steps p.tables e below (T215.setTop (mkF m 77 #[.val (.int i0), .val (.int i1), .val (.int (2 : Int32)), .val (.int (1 : Int32)), .val (.int (0 : Int32)), .val (.ref a_FROM), .unset, .unset] [(.ref b211)])) _
          refine XS.dup X215.here hx rfl (hb hby at_77) rfl rfl ?_
          show Steps p.tables e below (T215.setTop (mkF m 78 #[.val (.int i0), .val (.int i1), .val (.int (2 : Int32)), .val (.int (1 : Int32)), .val (.int (0 : Int32)), .val (.ref a_FROM), .unset, .unset] [(.ref b211), (.ref b211)])) _
          refine XS.iconst X215.here hx rfl (hb hby at_78) ?_
          show Steps p.tables e below (T215.setTop (mkF m 79 #[.val (.int i0), .val (.int i1), .val (.int (2 : Int32)), .val (.int (1 : Int32)), .val (.int (0 : Int32)), .val (.ref a_FROM), .unset, .unset] [(.int (2 : Int32)), (.ref b211), (.ref b211)])) _
          refine XS.iconst X215.here hx rfl (hb hby at_79) ?_
          show Steps p.tables e below (T215.setTop (mkF m 80 #[.val (.int i0), .val (.int i1), .val (.int (2 : Int32)), .val (.int (1 : Int32)), .val (.int (0 : Int32)), .val (.ref a_FROM), .unset, .unset] [(.int (0 : Int32)), (.int (2 : Int32)), (.ref b211), (.ref b211)])) _
          refine st217 _ ?_
          show Steps p.tables e below (T217.setTop (mkF m 81 #[.val (.int i0), .val (.int i1), .val (.int (2 : Int32)), .val (.int (1 : Int32)), .val (.int (0 : Int32)), .val (.ref a_FROM), .unset, .unset] [(.ref b211)])) _
          refine XS.dup X217.here hx rfl (hb hby at_81) rfl rfl ?_
          show Steps p.tables e below (T217.setTop (mkF m 82 #[.val (.int i0), .val (.int i1), .val (.int (2 : Int32)), .val (.int (1 : Int32)), .val (.int (0 : Int32)), .val (.ref a_FROM), .unset, .unset] [(.ref b211), (.ref b211)])) _
          refine XS.iconst X217.here hx rfl (hb hby at_82) ?_
          show Steps p.tables e below (T217.setTop (mkF m 83 #[.val (.int i0), .val (.int i1), .val (.int (2 : Int32)), .val (.int (1 : Int32)), .val (.int (0 : Int32)), .val (.ref a_FROM), .unset, .unset] [(.int (3 : Int32)), (.ref b211), (.ref b211)])) _
          refine XS.iconst X217.here hx rfl (hb hby at_83) ?_
          show Steps p.tables e below (T217.setTop (mkF m 84 #[.val (.int i0), .val (.int i1), .val (.int (2 : Int32)), .val (.int (1 : Int32)), .val (.int (0 : Int32)), .val (.ref a_FROM), .unset, .unset] [(.int (1 : Int32)), (.int (3 : Int32)), (.ref b211), (.ref b211)])) _
          refine st219 _ ?_
          show Steps p.tables e below (T219.setTop (mkF m 85 #[.val (.int i0), .val (.int i1), .val (.int (2 : Int32)), .val (.int (1 : Int32)), .val (.int (0 : Int32)), .val (.ref a_FROM), .unset, .unset] [(.ref b211)])) _
          refine XS.astore X219.here hx rfl (hb hby at_85) rfl rfl (l' := #[.val (.int i0), .val (.int i1), .val (.int (2 : Int32)), .val (.int (1 : Int32)), .val (.int (0 : Int32)), .val (.ref a_FROM), .val (.ref b211), .unset]) rfl ?_
          show Steps p.tables e below (T219.setTop (mkF m 87 #[.val (.int i0), .val (.int i1), .val (.int (2 : Int32)), .val (.int (1 : Int32)), .val (.int (0 : Int32)), .val (.ref a_FROM), .val (.ref b211), .unset] [])) _
          refine XS.aload X219.here hx rfl (hb hby at_87) rfl rfl ?_
          show Steps p.tables e below (T219.setTop (mkF m 89 #[.val (.int i0), .val (.int i1), .val (.int (2 : Int32)), .val (.int (1 : Int32)), .val (.int (0 : Int32)), .val (.ref a_FROM), .val (.ref b211), .unset] [(.ref b211)])) _
          refine XS.iloadN X219.here hx rfl (hb hby at_89) rfl ?_
          show Steps p.tables e below (T219.setTop (mkF m 90 #[.val (.int i0), .val (.int i1), .val (.int (2 : Int32)), .val (.int (1 : Int32)), .val (.int (0 : Int32)), .val (.ref a_FROM), .val (.ref b211), .unset] [(.int (2 : Int32)), (.ref b211)])) _
          refine X219.baloadBooleans hx (j := (2 : Int32)) (v := (.int (0 : Int32))) (by rw [e219]; exact Ar220.1) (State.isArrayOf_alike hZ.alike Ar220.2.1) Ar220.2.2 hin220 hat220 (g := (mkF m 90 #[.val (.int i0), .val (.int i1), .val (.int (2 : Int32)), .val (.int (1 : Int32)), .val (.int (0 : Int32)), .val (.ref a_FROM), .val (.ref b211), .unset] [(.int (2 : Int32)), (.ref b211)])) rfl rfl (hb hby at_90) _ ?_
          show Steps p.tables e below (T219.setTop (mkF m 91 #[.val (.int i0), .val (.int i1), .val (.int (2 : Int32)), .val (.int (1 : Int32)), .val (.int (0 : Int32)), .val (.ref a_FROM), .val (.ref b211), .unset] [(.int (0 : Int32))])) _
          refine XS.istore X219.here hx rfl (hb hby at_91) rfl (l' := #[.val (.int i0), .val (.int i1), .val (.int (2 : Int32)), .val (.int (1 : Int32)), .val (.int (0 : Int32)), .val (.ref a_FROM), .val (.ref b211), .val (.int (0 : Int32))]) rfl ?_
          show Steps p.tables e below (T219.setTop (mkF m 93 #[.val (.int i0), .val (.int i1), .val (.int (2 : Int32)), .val (.int (1 : Int32)), .val (.int (0 : Int32)), .val (.ref a_FROM), .val (.ref b211), .val (.int (0 : Int32))] [])) _
          refine XS.aload X219.here hx rfl (hb hby at_93) rfl rfl ?_
          show Steps p.tables e below (T219.setTop (mkF m 95 #[.val (.int i0), .val (.int i1), .val (.int (2 : Int32)), .val (.int (1 : Int32)), .val (.int (0 : Int32)), .val (.ref a_FROM), .val (.ref b211), .val (.int (0 : Int32))] [(.ref a_FROM)])) _
          refine st222.trans ?_
          show Steps p.tables e below (T222.setTop (mkF m 98 #[.val (.int i0), .val (.int i1), .val (.int (2 : Int32)), .val (.int (1 : Int32)), .val (.int (0 : Int32)), .val (.ref a_FROM), .val (.ref b211), .val (.int (0 : Int32))] [(.int (0 : Int32))])) _
          refine XS.iload X222.here hx rfl (hb hby at_98) rfl ?_
          show Steps p.tables e below (T222.setTop (mkF m 100 #[.val (.int i0), .val (.int i1), .val (.int (2 : Int32)), .val (.int (1 : Int32)), .val (.int (0 : Int32)), .val (.ref a_FROM), .val (.ref b211), .val (.int (0 : Int32))] [(.int (0 : Int32)), (.int (0 : Int32))])) _
          refine XS.icmpNo X222.here hx rfl (hb hby at_100) rfl (by decide) ?_
          show Steps p.tables e below (T222.setTop (mkF m 103 #[.val (.int i0), .val (.int i1), .val (.int (2 : Int32)), .val (.int (1 : Int32)), .val (.int (0 : Int32)), .val (.ref a_FROM), .val (.ref b211), .val (.int (0 : Int32))] [])) _
          refine XS.aload X222.here hx rfl (hb hby at_103) rfl rfl ?_
          show Steps p.tables e below (T222.setTop (mkF m 105 #[.val (.int i0), .val (.int i1), .val (.int (2 : Int32)), .val (.int (1 : Int32)), .val (.int (0 : Int32)), .val (.ref a_FROM), .val (.ref b211), .val (.int (0 : Int32))] [(.ref a_FROM)])) _
          refine XS.iloadN X222.here hx rfl (hb hby at_105) rfl ?_
          show Steps p.tables e below (T222.setTop (mkF m 106 #[.val (.int i0), .val (.int i1), .val (.int (2 : Int32)), .val (.int (1 : Int32)), .val (.int (0 : Int32)), .val (.ref a_FROM), .val (.ref b211), .val (.int (0 : Int32))] [(.int (1 : Int32)), (.ref a_FROM)])) _
          refine st224.trans ?_
          show Steps p.tables e below (T224.setTop (mkF m 109 #[.val (.int i0), .val (.int i1), .val (.int (2 : Int32)), .val (.int (1 : Int32)), .val (.int (0 : Int32)), .val (.ref a_FROM), .val (.ref b211), .val (.int (0 : Int32))] [(.ref a_BOTH)])) _
          refine st225.trans ?_
          show Steps p.tables e below (T225.setTop (mkF m 112 #[.val (.int i0), .val (.int i1), .val (.int (2 : Int32)), .val (.int (1 : Int32)), .val (.int (0 : Int32)), .val (.ref a_FROM), .val (.ref b211), .val (.int (0 : Int32))] [(.int (1 : Int32))])) _
          refine XS.iloadN X225.here hx rfl (hb hby at_112) rfl ?_
          show Steps p.tables e below (T225.setTop (mkF m 113 #[.val (.int i0), .val (.int i1), .val (.int (2 : Int32)), .val (.int (1 : Int32)), .val (.int (0 : Int32)), .val (.ref a_FROM), .val (.ref b211), .val (.int (0 : Int32))] [(.int (1 : Int32)), (.int (1 : Int32))])) _
          refine XS.icmpNo X225.here hx rfl (hb hby at_113) rfl (by decide) ?_
          show Steps p.tables e below (T225.setTop (mkF m 116 #[.val (.int i0), .val (.int i1), .val (.int (2 : Int32)), .val (.int (1 : Int32)), .val (.int (0 : Int32)), .val (.ref a_FROM), .val (.ref b211), .val (.int (0 : Int32))] [])) _
          refine XS.aload X225.here hx rfl (hb hby at_116) rfl rfl ?_
          show Steps p.tables e below (T225.setTop (mkF m 118 #[.val (.int i0), .val (.int i1), .val (.int (2 : Int32)), .val (.int (1 : Int32)), .val (.int (0 : Int32)), .val (.ref a_FROM), .val (.ref b211), .val (.int (0 : Int32))] [(.ref a_FROM)])) _
          refine XS.iload X225.here hx rfl (hb hby at_118) rfl ?_
          show Steps p.tables e below (T225.setTop (mkF m 120 #[.val (.int i0), .val (.int i1), .val (.int (2 : Int32)), .val (.int (1 : Int32)), .val (.int (0 : Int32)), .val (.ref a_FROM), .val (.ref b211), .val (.int (0 : Int32))] [(.int (0 : Int32)), (.ref a_FROM)])) _
          refine st227.trans ?_
          show Steps p.tables e below (T227.setTop (mkF m 123 #[.val (.int i0), .val (.int i1), .val (.int (2 : Int32)), .val (.int (1 : Int32)), .val (.int (0 : Int32)), .val (.ref a_FROM), .val (.ref b211), .val (.int (0 : Int32))] [(.ref a_NONE)])) _
          refine st228.trans ?_
          show Steps p.tables e below (T228.setTop (mkF m 126 #[.val (.int i0), .val (.int i1), .val (.int (2 : Int32)), .val (.int (1 : Int32)), .val (.int (0 : Int32)), .val (.ref a_FROM), .val (.ref b211), .val (.int (0 : Int32))] [(.int (0 : Int32))])) _
          refine XS.iload X228.here hx rfl (hb hby at_126) rfl ?_
          show Steps p.tables e below (T228.setTop (mkF m 128 #[.val (.int i0), .val (.int i1), .val (.int (2 : Int32)), .val (.int (1 : Int32)), .val (.int (0 : Int32)), .val (.ref a_FROM), .val (.ref b211), .val (.int (0 : Int32))] [(.int (0 : Int32)), (.int (0 : Int32))])) _
          refine XS.icmpNo X228.here hx rfl (hb hby at_128) rfl (by decide) ?_
          show Steps p.tables e below (T228.setTop (mkF m 131 #[.val (.int i0), .val (.int i1), .val (.int (2 : Int32)), .val (.int (1 : Int32)), .val (.int (0 : Int32)), .val (.ref a_FROM), .val (.ref b211), .val (.int (0 : Int32))] [])) _
          refine XS.iconst X228.here hx rfl (hb hby at_131) ?_
          show Steps p.tables e below (T228.setTop (mkF m 132 #[.val (.int i0), .val (.int i1), .val (.int (2 : Int32)), .val (.int (1 : Int32)), .val (.int (0 : Int32)), .val (.ref a_FROM), .val (.ref b211), .val (.int (0 : Int32))] [(.int (1 : Int32))])) _
          refine XS.goto X228.here hx rfl (pc0 := 132) (pc' := 136) rfl (hb hby at_132) (by decide) (by decide) ?_
          show Steps p.tables e below (T228.setTop (mkF m 136 #[.val (.int i0), .val (.int i1), .val (.int (2 : Int32)), .val (.int (1 : Int32)), .val (.int (0 : Int32)), .val (.ref a_FROM), .val (.ref b211), .val (.int (0 : Int32))] [(.int (1 : Int32))])) _
          exact retN X228 hx (t := .boolean) Bd.returns (by simp) (hb hby at_136) hr
        · show QL n0 _ T228.heap _
          rw [hh228]
          exact ⟨rfl, N228⟩
      · skip
        obtain ⟨T230, X230, e230, st230⟩ := getS2 X0 hx hZ hown (host := "") (Or.inl (hw _ (List.mem_of_getElem? (i := 34) rfl))) Via.refl e0 (Sta.ext O0.2 S_a_FROM) (g := (mkF m 55 #[.val (.int i0), .val (.int i1), .val (.int (2 : Int32)), .val (.int (1 : Int32)), .val (.int (1 : Int32)), .unset, .unset, .unset] [])) rfl (hb hby at_55)
        obtain ⟨T231, h231, k231, X231, e231, E231, A231, st231⟩ := newP X230 hx hZ (hw _ (List.mem_of_getElem? (i := 3) rfl)) e230 (g := (mkF m 67 #[.val (.int i0), .val (.int i1), .val (.int (2 : Int32)), .val (.int (1 : Int32)), .val (.int (1 : Int32)), .val (.ref a_FROM), .unset, .unset] [(.int (4 : Int32))])) rfl (hb hby at_67) rfl (by decide) (cap := 4) (by decide) (by decide) (by decide) (by decide)
        obtain ⟨b231, g231⟩ : ∃ z, z = h0.size := ⟨_, rfl⟩
        rw [← g231] at A231 st231
        have gb231 : n0 ≤ b231 := by rw [g231, ← O0.1]; exact O0.2.1
        have ne231_a_BOTH : a_BOTH ≠ b231 := by rw [g231]; exact Nat.ne_of_lt ((Exa.ext O0.2 X_a_BOTH)).lt
        have ne231_a_FROM : a_FROM ≠ b231 := by rw [g231]; exact Nat.ne_of_lt ((Exa.ext O0.2 X_a_FROM)).lt
        have ne231_a_NONE : a_NONE ≠ b231 := by rw [g231]; exact Nat.ne_of_lt ((Exa.ext O0.2 X_a_NONE)).lt
        have ne231_a_TO : a_TO ≠ b231 := by rw [g231]; exact Nat.ne_of_lt ((Exa.ext O0.2 X_a_TO)).lt
        have V231 : Arv Z h231 b231 k231 .boolean (4 : Int32) [(.int (0 : Int32)), (.int (0 : Int32)), (.int (0 : Int32)), (.int (0 : Int32))] (.int (0 : Int32)) := (Arv.new A231 (by decide)).pad (pad_rep [] (.int (0 : Int32)) 4)
        obtain ⟨cl232, Ar232, q232, S232, N232_, H232, G232⟩ := V231
        have hin232 : ¬ ((0 : Int32) < 0 ∨ cl232.slots.size ≤ ((0 : Int32)).toNatClampNeg) := inb_of S232 ⟨by decide, by decide⟩
        obtain ⟨T233, h233, X233, e233, W233, st233⟩ := stZ X231 hx hZ e231 Ar232 (j := (0 : Int32)) hin232 (g := (mkF m 72 #[.val (.int i0), .val (.int i1), .val (.int (2 : Int32)), .val (.int (1 : Int32)), .val (.int (1 : Int32)), .val (.ref a_FROM), .unset, .unset] [(.int (0 : Int32)), (.int (0 : Int32)), (.ref b231), (.ref b231)])) rfl rfl (hb hby at_72)
        have V233 : Arv Z h233 b231 k231 .boolean (4 : Int32) [(.int (0 : Int32)), (.int (0 : Int32)), (.int (0 : Int32)), (.int (0 : Int32))] (.int (0 : Int32)) := Arv.set Ar232 q232 S232 N232_ H232 G232 (fits_nar_bool _) W233 0 rfl (Nat.le_of_ble_eq_true rfl)
        have N233 := Fr.snoc X233 N0 gb231
        obtain ⟨cl234, Ar234, q234, S234, N234_, H234, G234⟩ := V233
        have hin234 : ¬ ((1 : Int32) < 0 ∨ cl234.slots.size ≤ ((1 : Int32)).toNatClampNeg) := inb_of S234 ⟨by decide, by decide⟩
        obtain ⟨T235, h235, X235, e235, W235, st235⟩ := stZ X233 hx hZ e233 Ar234 (j := (1 : Int32)) hin234 (g := (mkF m 76 #[.val (.int i0), .val (.int i1), .val (.int (2 : Int32)), .val (.int (1 : Int32)), .val (.int (1 : Int32)), .val (.ref a_FROM), .unset, .unset] [(.int (1 : Int32)), (.int (1 : Int32)), (.ref b231), (.ref b231)])) rfl rfl (hb hby at_76)
        have V235 : Arv Z h235 b231 k231 .boolean (4 : Int32) [(.int (0 : Int32)), (.int (1 : Int32)), (.int (0 : Int32)), (.int (0 : Int32))] (.int (0 : Int32)) := Arv.set Ar234 q234 S234 N234_ H234 G234 (fits_nar_bool _) W235 1 rfl (Nat.le_of_ble_eq_true rfl)
        have N235 := Fr.snoc X235 N233 gb231
        obtain ⟨cl236, Ar236, q236, S236, N236_, H236, G236⟩ := V235
        have hin236 : ¬ ((2 : Int32) < 0 ∨ cl236.slots.size ≤ ((2 : Int32)).toNatClampNeg) := inb_of S236 ⟨by decide, by decide⟩
        obtain ⟨T237, h237, X237, e237, W237, st237⟩ := stZ X235 hx hZ e235 Ar236 (j := (2 : Int32)) hin236 (g := (mkF m 80 #[.val (.int i0), .val (.int i1), .val (.int (2 : Int32)), .val (.int (1 : Int32)), .val (.int (1 : Int32)), .val (.ref a_FROM), .unset, .unset] [(.int (0 : Int32)), (.int (2 : Int32)), (.ref b231), (.ref b231)])) rfl rfl (hb hby at_80)
        have V237 : Arv Z h237 b231 k231 .boolean (4 : Int32) [(.int (0 : Int32)), (.int (1 : Int32)), (.int (0 : Int32)), (.int (0 : Int32))] (.int (0 : Int32)) := Arv.set Ar236 q236 S236 N236_ H236 G236 (fits_nar_bool _) W237 2 rfl (Nat.le_of_ble_eq_true rfl)
        have N237 := Fr.snoc X237 N235 gb231
        obtain ⟨cl238, Ar238, q238, S238, N238_, H238, G238⟩ := V237
        have hin238 : ¬ ((3 : Int32) < 0 ∨ cl238.slots.size ≤ ((3 : Int32)).toNatClampNeg) := inb_of S238 ⟨by decide, by decide⟩
        obtain ⟨T239, h239, X239, e239, W239, st239⟩ := stZ X237 hx hZ e237 Ar238 (j := (3 : Int32)) hin238 (g := (mkF m 84 #[.val (.int i0), .val (.int i1), .val (.int (2 : Int32)), .val (.int (1 : Int32)), .val (.int (1 : Int32)), .val (.ref a_FROM), .unset, .unset] [(.int (1 : Int32)), (.int (3 : Int32)), (.ref b231), (.ref b231)])) rfl rfl (hb hby at_84)
        have V239 : Arv Z h239 b231 k231 .boolean (4 : Int32) [(.int (0 : Int32)), (.int (1 : Int32)), (.int (0 : Int32)), (.int (1 : Int32))] (.int (0 : Int32)) := Arv.set Ar238 q238 S238 N238_ H238 G238 (fits_nar_bool _) W239 3 rfl (Nat.le_of_ble_eq_true rfl)
        have N239 := Fr.snoc X239 N237 gb231
        obtain ⟨cl240, Ar240, q240, S240, N240_, H240, G240⟩ := V239
        have hin240 : ¬ ((2 : Int32) < 0 ∨ cl240.slots.size ≤ ((2 : Int32)).toNatClampNeg) := inb_of S240 ⟨by decide, by decide⟩
        have hat240 : cl240.slots[((2 : Int32)).toNatClampNeg]? = some (.int (0 : Int32)) := H240.at hin240 rfl
        have O241 : Old Z n0 h239 := (((((O0.ext E231).wr W233 gb231).wr W235 gb231).wr W237 gb231).wr W239 gb231)
        have f243 := ((((((Exa.ext O0.2 X_a_FROM).ext E231).wr W233).wr W235).wr W237).wr W239)
        obtain ⟨cq242, kq242, q242a, q242b, q242c⟩ := isOf hZ e239 f243
        obtain ⟨_, _, ⟨T242, L242, k242, n242⟩, -, X242, ⟨Lc242, hQ242, l242, y242, z242⟩, st242⟩ := X239.virtualBack hx (y := (⟨"com/example/carbonfold/carbonfold/model/RosterItem$Subscription", "hasTo", "()Z"⟩ : MethodName)) (z := (⟨"com/example/carbonfold/carbonfold/model/RosterItem$Subscription", "hasTo", "()Z"⟩ : MethodName)) hown (mvT hZ (hw _ (List.mem_of_getElem? (i := 4) rfl))) (mvT hZ (hw _ (List.mem_of_getElem? (i := 5) rfl))) (notFace_of_selects (args := #[]) (mvT hZ (hw _ (List.mem_of_getElem? (i := 7) rfl)))) (mvT hZ (hw _ (List.mem_of_getElem? (i := 7) rfl))) (mvT hZ (hw _ (List.mem_of_getElem? (i := 6) rfl))) (by decide) (backOf (W := 0) (rm_hasTo_8 l Z a0 hw [] a_NONE a_TO a_BOTH a_FROM h239 n0 O241 En) hZ (hw _ (List.mem_of_getElem? (i := 8) rfl)) (hw _ (List.mem_of_getElem? (i := 1) rfl)) (by decide) (by decide)) q242a q242c (g := (mkF m 95 #[.val (.int i0), .val (.int i1), .val (.int (2 : Int32)), .val (.int (1 : Int32)), .val (.int (1 : Int32)), .val (.ref a_FROM), .val (.ref b231), .val (.int (0 : Int32))] [(.ref a_FROM)])) rfl (by rw [hml]; rfl) (Steps.refl _) (argsL := []) (rest := []) (lenOf pd_0 rfl) rfl (by show 2 * 0 + _ ≤ _; exact Nat.le_of_eq rfl) (hb hby at_95) (fun _ _ => ⟨rfl, e239, (by decide : 1 + 0 ≤ _), (by decide : 4 + 0 ≤ _)⟩)
        dsimp only [Pt.U, Pt.locs, Pt.cells, Pt.slots] at X242 l242 y242 z242 st242 hQ242
        subst l242 y242 z242
        obtain ⟨rfl, N242q, hh242⟩ := hQ242
        have N242 := Fr.app N239 N242q
        obtain ⟨cq244, kq244, q244a, q244b, q244c⟩ := isOf hZ hh242 f243
        obtain ⟨_, _, ⟨T244, L244, k244, n244⟩, -, X244, ⟨Lc244, hQ244, l244, y244, z244⟩, st244⟩ := X242.virtualBack hx (y := (⟨"com/example/carbonfold/carbonfold/model/RosterItem$Subscription", "withTo", "(Z)Lcom/example/carbonfold/carbonfold/model/RosterItem$Subscription;"⟩ : MethodName)) (z := (⟨"com/example/carbonfold/carbonfold/model/RosterItem$Subscription", "withTo", "(Z)Lcom/example/carbonfold/carbonfold/model/RosterItem$Subscription;"⟩ : MethodName)) hown (mvT hZ (hw _ (List.mem_of_getElem? (i := 13) rfl))) (mvT hZ (hw _ (List.mem_of_getElem? (i := 14) rfl))) (notFace_of_selects (args := #[]) (mvT hZ (hw _ (List.mem_of_getElem? (i := 16) rfl)))) (mvT hZ (hw _ (List.mem_of_getElem? (i := 16) rfl))) (mvT hZ (hw _ (List.mem_of_getElem? (i := 15) rfl))) (by decide) (backOf (W := 0) (rm_withTo_23 l Z a0 hw [] a_NONE a_TO a_BOTH a_FROM h239 n0 O241 En) hZ (hw _ (List.mem_of_getElem? (i := 17) rfl)) (hw _ (List.mem_of_getElem? (i := 1) rfl)) (by decide) (by decide)) q244a q244c (g := (mkF m 106 #[.val (.int i0), .val (.int i1), .val (.int (2 : Int32)), .val (.int (1 : Int32)), .val (.int (1 : Int32)), .val (.ref a_FROM), .val (.ref b231), .val (.int (0 : Int32))] [(.int (1 : Int32)), (.ref a_FROM)])) rfl (by rw [hml]; rfl) (Steps.refl _) (argsL := [(.int (1 : Int32))]) (rest := []) (lenOf pd_2 rfl) rfl (by show 2 * 0 + _ ≤ _; exact Nat.le_of_eq rfl) (hb hby at_106) (fun _ _ => ⟨rfl, hh242, (by decide : 1 + 0 ≤ _), (by decide : 4 + 0 ≤ _)⟩)
        dsimp only [Pt.U, Pt.locs, Pt.cells, Pt.slots] at X244 l244 y244 z244 st244 hQ244
        subst l244 y244 z244
        obtain ⟨rfl, N244q, hh244⟩ := hQ244
        have N244 := Fr.app N242 N244q
        have f246 := ((((((Exa.ext O0.2 X_a_BOTH).ext E231).wr W233).wr W235).wr W237).wr W239)
        obtain ⟨cq245, kq245, q245a, q245b, q245c⟩ := isOf hZ hh244 f246
        obtain ⟨_, _, ⟨T245, L245, k245, n245⟩, -, X245, ⟨Lc245, hQ245, l245, y245, z245⟩, st245⟩ := X244.virtualBack hx (y := (⟨"com/example/carbonfold/carbonfold/model/RosterItem$Subscription", "hasTo", "()Z"⟩ : MethodName)) (z := (⟨"com/example/carbonfold/carbonfold/model/RosterItem$Subscription", "hasTo", "()Z"⟩ : MethodName)) hown (mvT hZ (hw _ (List.mem_of_getElem? (i := 4) rfl))) (mvT hZ (hw _ (List.mem_of_getElem? (i := 5) rfl))) (notFace_of_selects (args := #[]) (mvT hZ (hw _ (List.mem_of_getElem? (i := 7) rfl)))) (mvT hZ (hw _ (List.mem_of_getElem? (i := 7) rfl))) (mvT hZ (hw _ (List.mem_of_getElem? (i := 6) rfl))) (by decide) (backOf (W := 0) (rm_hasTo_17 l Z a0 hw [] a_NONE a_TO a_BOTH a_FROM h239 n0 O241 En) hZ (hw _ (List.mem_of_getElem? (i := 8) rfl)) (hw _ (List.mem_of_getElem? (i := 1) rfl)) (by decide) (by decide)) q245a q245c (g := (mkF m 109 #[.val (.int i0), .val (.int i1), .val (.int (2 : Int32)), .val (.int (1 : Int32)), .val (.int (1 : Int32)), .val (.ref a_FROM), .val (.ref b231), .val (.int (0 : Int32))] [(.ref a_BOTH)])) rfl (by rw [hml]; rfl) (Steps.refl _) (argsL := []) (rest := []) (lenOf pd_0 rfl) rfl (by show 2 * 0 + _ ≤ _; exact Nat.le_of_eq rfl) (hb hby at_109) (fun _ _ => ⟨rfl, hh244, (by decide : 1 + 0 ≤ _), (by decide : 4 + 0 ≤ _)⟩)
        dsimp only [Pt.U, Pt.locs, Pt.cells, Pt.slots] at X245 l245 y245 z245 st245 hQ245
        subst l245 y245 z245
        obtain ⟨rfl, N245q, hh245⟩ := hQ245
        have N245 := Fr.app N244 N245q
        obtain ⟨cq247, kq247, q247a, q247b, q247c⟩ := isOf hZ hh245 f243
        obtain ⟨_, _, ⟨T247, L247, k247, n247⟩, -, X247, ⟨Lc247, hQ247, l247, y247, z247⟩, st247⟩ := X245.virtualBack hx (y := (⟨"com/example/carbonfold/carbonfold/model/RosterItem$Subscription", "withFrom", "(Z)Lcom/example/carbonfold/carbonfold/model/RosterItem$Subscription;"⟩ : MethodName)) (z := (⟨"com/example/carbonfold/carbonfold/model/RosterItem$Subscription", "withFrom", "(Z)Lcom/example/carbonfold/carbonfold/model/RosterItem$Subscription;"⟩ : MethodName)) hown (mvT hZ (hw _ (List.mem_of_getElem? (i := 28) rfl))) (mvT hZ (hw _ (List.mem_of_getElem? (i := 29) rfl))) (notFace_of_selects (args := #[]) (mvT hZ (hw _ (List.mem_of_getElem? (i := 31) rfl)))) (mvT hZ (hw _ (List.mem_of_getElem? (i := 31) rfl))) (mvT hZ (hw _ (List.mem_of_getElem? (i := 30) rfl))) (by decide) (backOf (W := 0) (rm_withFrom_22 l Z a0 hw [] a_NONE a_TO a_BOTH a_FROM h239 n0 O241 En) hZ (hw _ (List.mem_of_getElem? (i := 32) rfl)) (hw _ (List.mem_of_getElem? (i := 1) rfl)) (by decide) (by decide)) q247a q247c (g := (mkF m 120 #[.val (.int i0), .val (.int i1), .val (.int (2 : Int32)), .val (.int (1 : Int32)), .val (.int (1 : Int32)), .val (.ref a_FROM), .val (.ref b231), .val (.int (0 : Int32))] [(.int (1 : Int32)), (.ref a_FROM)])) rfl (by rw [hml]; rfl) (Steps.refl _) (argsL := [(.int (1 : Int32))]) (rest := []) (lenOf pd_2 rfl) rfl (by show 2 * 0 + _ ≤ _; exact Nat.le_of_eq rfl) (hb hby at_120) (fun _ _ => ⟨rfl, hh245, (by decide : 1 + 0 ≤ _), (by decide : 4 + 0 ≤ _)⟩)
        dsimp only [Pt.U, Pt.locs, Pt.cells, Pt.slots] at X247 l247 y247 z247 st247 hQ247
        subst l247 y247 z247
        obtain ⟨rfl, N247q, hh247⟩ := hQ247
        have N247 := Fr.app N245 N247q
        obtain ⟨cq248, kq248, q248a, q248b, q248c⟩ := isOf hZ hh247 f243
        obtain ⟨_, _, ⟨T248, L248, k248, n248⟩, -, X248, ⟨Lc248, hQ248, l248, y248, z248⟩, st248⟩ := X247.virtualBack hx (y := (⟨"com/example/carbonfold/carbonfold/model/RosterItem$Subscription", "hasTo", "()Z"⟩ : MethodName)) (z := (⟨"com/example/carbonfold/carbonfold/model/RosterItem$Subscription", "hasTo", "()Z"⟩ : MethodName)) hown (mvT hZ (hw _ (List.mem_of_getElem? (i := 4) rfl))) (mvT hZ (hw _ (List.mem_of_getElem? (i := 5) rfl))) (notFace_of_selects (args := #[]) (mvT hZ (hw _ (List.mem_of_getElem? (i := 7) rfl)))) (mvT hZ (hw _ (List.mem_of_getElem? (i := 7) rfl))) (mvT hZ (hw _ (List.mem_of_getElem? (i := 6) rfl))) (by decide) (backOf (W := 0) (rm_hasTo_8 l Z a0 hw [] a_NONE a_TO a_BOTH a_FROM h239 n0 O241 En) hZ (hw _ (List.mem_of_getElem? (i := 8) rfl)) (hw _ (List.mem_of_getElem? (i := 1) rfl)) (by decide) (by decide)) q248a q248c (g := (mkF m 123 #[.val (.int i0), .val (.int i1), .val (.int (2 : Int32)), .val (.int (1 : Int32)), .val (.int (1 : Int32)), .val (.ref a_FROM), .val (.ref b231), .val (.int (0 : Int32))] [(.ref a_FROM)])) rfl (by rw [hml]; rfl) (Steps.refl _) (argsL := []) (rest := []) (lenOf pd_0 rfl) rfl (by show 2 * 0 + _ ≤ _; exact Nat.le_of_eq rfl) (hb hby at_123) (fun _ _ => ⟨rfl, hh247, (by decide : 1 + 0 ≤ _), (by decide : 4 + 0 ≤ _)⟩)
        dsimp only [Pt.U, Pt.locs, Pt.cells, Pt.slots] at X248 l248 y248 z248 st248 hQ248
        subst l248 y248 z248
        obtain ⟨rfl, N248q, hh248⟩ := hQ248
        have N248 := Fr.app N247 N248q
        obtain ⟨fs, hr, hrun, hended, hW, hsame⟩ := X248.leave (v := some (.int (1 : Int32))) (fun h => by rw [Bd.returns] at h; cases h)
        refine ⟨_, _, pre208 _ ?_, hrun, hended, _, _, rfl, ?_, ⟨_, rfl⟩, hW, hsame.mono (by decide) (by decide)⟩
        · skip
          show Steps p.tables e below (s₁.setTop (mkF m 19 #[.val (.int i0), .val (.int i1), .val (.int (2 : Int32)), .val (.int (1 : Int32)), .unset, .unset, .unset, .unset] [(.int (i1 &&& (2 : Int32)))])) _
          rw [hk209]
          show Steps p.tables e below (s₁.setTop (mkF m 19 #[.val (.int i0), .val (.int i1), .val (.int (2 : Int32)), .val (.int (1 : Int32)), .unset, .unset, .unset, .unset] [(.int (2 : Int32))])) _
          refine XS.ifNo X0.here hx rfl (hb hby at_19) rfl (by decide) ?_
          show Steps p.tables e below (s₁.setTop (mkF m 22 #[.val (.int i0), .val (.int i1), .val (.int (2 : Int32)), .val (.int (1 : Int32)), .unset, .unset, .unset, .unset] [])) _
          refine XS.iconst X0.here hx rfl (hb hby at_22) ?_
          show Steps p.tables e below (s₁.setTop (mkF m 23 #[.val (.int i0), .val (.int i1), .val (.int (2 : Int32)), .val (.int (1 : Int32)), .unset, .unset, .unset, .unset] [(.int (1 : Int32))])) _
          refine XS.goto X0.here hx rfl (pc0 := 23) (pc' := 27) rfl (hb hby at_23) (by decide) (by decide) ?_
          show Steps p.tables e below (s₁.setTop (mkF m 27 #[.val (.int i0), .val (.int i1), .val (.int (2 : Int32)), .val (.int (1 : Int32)), .unset, .unset, .unset, .unset] [(.int (1 : Int32))])) _
          refine XS.istore X0.here hx rfl (hb hby at_27) rfl (l' := #[.val (.int i0), .val (.int i1), .val (.int (2 : Int32)), .val (.int (1 : Int32)), .val (.int (1 : Int32)), .unset, .unset, .unset]) rfl ?_
          show Steps p.tables e below (s₁.setTop (mkF m 29 #[.val (.int i0), .val (.int i1), .val (.int (2 : Int32)), .val (.int (1 : Int32)), .val (.int (1 : Int32)), .unset, .unset, .unset] [])) _
          refine XS.iloadN X0.here hx rfl (hb hby at_29) rfl ?_
          show Steps p.tables e below (s₁.setTop (mkF m 30 #[.val (.int i0), .val (.int i1), .val (.int (2 : Int32)), .val (.int (1 : Int32)), .val (.int (1 : Int32)), .unset, .unset, .unset] [(.int (2 : Int32))])) _
          refine XS.ifYes X0.here hx rfl (pc0 := 30) (pc' := 39) rfl (hb hby at_30) rfl (by decide) (by decide) (by decide) ?_
          show Steps p.tables e below (s₁.setTop (mkF m 39 #[.val (.int i0), .val (.int i1), .val (.int (2 : Int32)), .val (.int (1 : Int32)), .val (.int (1 : Int32)), .unset, .unset, .unset] [])) _
          refine XS.iloadN X0.here hx rfl (hb hby at_39) rfl ?_
          show Steps p.tables e below (s₁.setTop (mkF m 40 #[.val (.int i0), .val (.int i1), .val (.int (2 : Int32)), .val (.int (1 : Int32)), .val (.int (1 : Int32)), .unset, .unset, .unset] [(.int (2 : Int32))])) _
          refine XS.iconst X0.here hx rfl (hb hby at_40) ?_
          show Steps p.tables e below (s₁.setTop (mkF m 41 #[.val (.int i0), .val (.int i1), .val (.int (2 : Int32)), .val (.int (1 : Int32)), .val (.int (1 : Int32)), .unset, .unset, .unset] [(.int (1 : Int32)), (.int (2 : Int32))])) _
          refine XS.icmpYes X0.here hx rfl (pc0 := 41) (pc' := 50) rfl (hb hby at_41) rfl (by decide) (by decide) (by decide) ?_
          show Steps p.tables e below (s₁.setTop (mkF m 50 #[.val (.int i0), .val (.int i1), .val (.int (2 : Int32)), .val (.int (1 : Int32)), .val (.int (1 : Int32)), .unset, .unset, .unset] [])) _
          refine XS.iloadN X0.here hx rfl (hb hby at_50) rfl ?_
          show Steps p.tables e below (s₁.setTop (mkF m 51 #[.val (.int i0), .val (.int i1), .val (.int (2 : Int32)), .val (.int (1 : Int32)), .val (.int (1 : Int32)), .unset, .unset, .unset] [(.int (2 : Int32))])) _
          refine XS.iconst X0.here hx rfl (hb hby at_51) ?_
          show Steps p.tables e below (s₁.setTop (mkF m 52 #[.val (.int i0), .val (.int i1), .val (.int (2 : Int32)), .val (.int (1 : Int32)), .val (.int (1 : Int32)), .unset, .unset, .unset] [(.int (2 : Int32)), (.int (2 : Int32))])) _
          refine XS.icmpNo X0.here hx rfl (hb hby at_52) rfl (by decide) ?_
          show Steps p.tables e below (s₁.setTop (mkF m 55 #[.val (.int i0), .val (.int i1), .val (.int (2 : Int32)), .val (.int (1 : Int32)), .val (.int (1 : Int32)), .unset, .unset, .unset] [])) _
          refine st230 _ ?_
          show Steps p.tables e below (T230.setTop (mkF m 58 #[.val (.int i0), .val (.int i1), .val (.int (2 : Int32)), .val (.int (1 : Int32)), .val (.int (1 : Int32)), .unset, .unset, .unset] [(.ref a_FROM)])) _
          refine XS.goto X230.here hx rfl (pc0 := 58) (pc' := 64) rfl (hb hby at_58) (by decide) (by decide) ?_
          show Steps p.tables e below (T230.setTop (mkF m 64 #[.val (.int i0), .val (.int i1), .val (.int (2 : Int32)), .val (.int (1 : Int32)), .val (.int (1 : Int32)), .unset, .unset, .unset] [(.ref a_FROM)])) _
          refine XS.astore X230.here hx rfl (hb hby at_64) rfl rfl (l' := #[.val (.int i0), .val (.int i1), .val (.int (2 : Int32)), .val (.int (1 : Int32)), .val (.int (1 : Int32)), .val (.ref a_FROM), .unset, .unset]) rfl ?_
          show Steps p.tables e below (T230.setTop (mkF m 66 #[.val (.int i0), .val (.int i1), .val (.int (2 : Int32)), .val (.int (1 : Int32)), .val (.int (1 : Int32)), .val (.ref a_FROM), .unset, .unset] [])) _
          refine XS.iconst X230.here hx rfl (hb hby at_66) ?_
          show Steps p.tables e below (T230.setTop (mkF m 67 #[.val (.int i0), .val (.int i1), .val (.int (2 : Int32)), .val (.int (1 : Int32)), .val (.int (1 : Int32)), .val (.ref a_FROM), .unset, .unset] [(.int (4 : Int32))])) _
          refine st231 _ ?_
          show Steps p.tables e below (T231.setTop (mkF m 69 #[.val (.int i0), .val (.int i1), .val (.int (2 : Int32)), .val (.int (1 : Int32)), .val (.int (1 : Int32)), .val (.ref a_FROM), .unset, .unset] [(.ref b231)])) _
          refine XS.dup X231.here hx rfl (hb hby at_69) rfl rfl ?_
          show Steps p.tables e below (T231.setTop (mkF m 70 #[.val (.int i0), .val (.int i1), .val (.int (2 : Int32)), .val (.int (1 : Int32)), .val (.int (1 : Int32)), .val (.ref a_FROM), .unset, .unset] [(.ref b231), (.ref b231)])) _
          refine XS.iconst X231.here hx rfl (hb hby at_70) ?_
          show Steps p.tables e below (T231.setTop (mkF m 71 #[.val (.int i0), .val (.int i1), .val (.int (2 : Int32)), .val (.int (1 : Int32)), .val (.int (1 : Int32)), .val (.ref a_FROM), .unset, .unset] [(.int (0 : Int32)), (.ref b231), (.ref b231)])) _
          refine XS.iconst X231.here hx rfl (hb hby at_71) ?_
          show Steps p.tables e below (T231.setTop (mkF m 72 #[.val (.int i0), .val (.int i1), .val (.int (2 : Int32)), .val (.int (1 : Int32)), .val (.int (1 : Int32)), .val (.ref a_FROM), .unset, .unset] [(.int (0 : Int32)), (.int (0 : Int32)), (.ref b231), (.ref b231)])) _
          refine st233 _ ?_
          show Steps p.tables e below (T233.setTop (mkF m 73 #[.val (.int i0), .val (.int i1), .val (.int (2 : Int32)), .val (.int (1 : Int32)), .val (.int (1 : Int32)), .val (.ref a_FROM), .unset, .unset] [(.ref b231)])) _
          refine XS.dup X233.here hx rfl (hb hby at_73) rfl rfl ?_
          show Steps p.tables e below (T233.setTop (mkF m 74 #[.val (.int i0), .val (.int i1), .val (.int (2 : Int32)), .val (.int (1 : Int32)), .val (.int (1 : Int32)), .val (.ref a_FROM), .unset, .unset] [(.ref b231), (.ref b231)])) _
          refine XS.iconst X233.here hx rfl (hb hby at_74) ?_
          show Steps p.tables e below (T233.setTop (mkF m 75 #[.val (.int i0), .val (.int i1), .val (.int (2 : Int32)), .val (.int (1 : Int32)), .val (.int (1 : Int32)), .val (.ref a_FROM), .unset, .unset] [(.int (1 : Int32)), (.ref b231), (.ref b231)])) _
          refine XS.iconst X233.here hx rfl (hb hby at_75) ?_
          show Steps p.tables e below (T233.setTop (mkF m 76 #[.val (.int i0), .val (.int i1), .val (.int (2 : Int32)), .val (.int (1 : Int32)), .val (.int (1 : Int32)), .val (.ref a_FROM), .unset, .unset] [(.int (1 : Int32)), (.int (1 : Int32)), (.ref b231), (.ref b231)])) _
          refine st235 _ ?_
          show Steps p.tables e below (T235.setTop (mkF m 77 #[.val (.int i0), .val (.int i1), .val (.int (2 : Int32)), .val (.int (1 : Int32)), .val (.int (1 : Int32)), .val (.ref a_FROM), .unset, .unset] [(.ref b231)])) _
          refine XS.dup X235.here hx rfl (hb hby at_77) rfl rfl ?_
          show Steps p.tables e below (T235.setTop (mkF m 78 #[.val (.int i0), .val (.int i1), .val (.int (2 : Int32)), .val (.int (1 : Int32)), .val (.int (1 : Int32)), .val (.ref a_FROM), .unset, .unset] [(.ref b231), (.ref b231)])) _
          refine XS.iconst X235.here hx rfl (hb hby at_78) ?_
          show Steps p.tables e below (T235.setTop (mkF m 79 #[.val (.int i0), .val (.int i1), .val (.int (2 : Int32)), .val (.int (1 : Int32)), .val (.int (1 : Int32)), .val (.ref a_FROM), .unset, .unset] [(.int (2 : Int32)), (.ref b231), (.ref b231)])) _
          refine XS.iconst X235.here hx rfl (hb hby at_79) ?_
          show Steps p.tables e below (T235.setTop (mkF m 80 #[.val (.int i0), .val (.int i1), .val (.int (2 : Int32)), .val (.int (1 : Int32)), .val (.int (1 : Int32)), .val (.ref a_FROM), .unset, .unset] [(.int (0 : Int32)), (.int (2 : Int32)), (.ref b231), (.ref b231)])) _
          refine st237 _ ?_
          show Steps p.tables e below (T237.setTop (mkF m 81 #[.val (.int i0), .val (.int i1), .val (.int (2 : Int32)), .val (.int (1 : Int32)), .val (.int (1 : Int32)), .val (.ref a_FROM), .unset, .unset] [(.ref b231)])) _
          refine XS.dup X237.here hx rfl (hb hby at_81) rfl rfl ?_
          show Steps p.tables e below (T237.setTop (mkF m 82 #[.val (.int i0), .val (.int i1), .val (.int (2 : Int32)), .val (.int (1 : Int32)), .val (.int (1 : Int32)), .val (.ref a_FROM), .unset, .unset] [(.ref b231), (.ref b231)])) _
          refine XS.iconst X237.here hx rfl (hb hby at_82) ?_
          show Steps p.tables e below (T237.setTop (mkF m 83 #[.val (.int i0), .val (.int i1), .val (.int (2 : Int32)), .val (.int (1 : Int32)), .val (.int (1 : Int32)), .val (.ref a_FROM), .unset, .unset] [(.int (3 : Int32)), (.ref b231), (.ref b231)])) _
          refine XS.iconst X237.here hx rfl (hb hby at_83) ?_
          show Steps p.tables e below (T237.setTop (mkF m 84 #[.val (.int i0), .val (.int i1), .val (.int (2 : Int32)), .val (.int (1 : Int32)), .val (.int (1 : Int32)), .val (.ref a_FROM), .unset, .unset] [(.int (1 : Int32)), (.int (3 : Int32)), (.ref b231), (.ref b231)])) _
          refine st239 _ ?_
          show Steps p.tables e below (T239.setTop (mkF m 85 #[.val (.int i0), .val (.int i1), .val (.int (2 : Int32)), .val (.int (1 : Int32)), .val (.int (1 : Int32)), .val (.ref a_FROM), .unset, .unset] [(.ref b231)])) _
          refine XS.astore X239.here hx rfl (hb hby at_85) rfl rfl (l' := #[.val (.int i0), .val (.int i1), .val (.int (2 : Int32)), .val (.int (1 : Int32)), .val (.int (1 : Int32)), .val (.ref a_FROM), .val (.ref b231), .unset]) rfl ?_
          show Steps p.tables e below (T239.setTop (mkF m 87 #[.val (.int i0), .val (.int i1), .val (.int (2 : Int32)), .val (.int (1 : Int32)), .val (.int (1 : Int32)), .val (.ref a_FROM), .val (.ref b231), .unset] [])) _
          refine XS.aload X239.here hx rfl (hb hby at_87) rfl rfl ?_
          show Steps p.tables e below (T239.setTop (mkF m 89 #[.val (.int i0), .val (.int i1), .val (.int (2 : Int32)), .val (.int (1 : Int32)), .val (.int (1 : Int32)), .val (.ref a_FROM), .val (.ref b231), .unset] [(.ref b231)])) _
          refine XS.iloadN X239.here hx rfl (hb hby at_89) rfl ?_
          show Steps p.tables e below (T239.setTop (mkF m 90 #[.val (.int i0), .val (.int i1), .val (.int (2 : Int32)), .val (.int (1 : Int32)), .val (.int (1 : Int32)), .val (.ref a_FROM), .val (.ref b231), .unset] [(.int (2 : Int32)), (.ref b231)])) _
          refine X239.baloadBooleans hx (j := (2 : Int32)) (v := (.int (0 : Int32))) (by rw [e239]; exact Ar240.1) (State.isArrayOf_alike hZ.alike Ar240.2.1) Ar240.2.2 hin240 hat240 (g := (mkF m 90 #[.val (.int i0), .val (.int i1), .val (.int (2 : Int32)), .val (.int (1 : Int32)), .val (.int (1 : Int32)), .val (.ref a_FROM), .val (.ref b231), .unset] [(.int (2 : Int32)), (.ref b231)])) rfl rfl (hb hby at_90) _ ?_
          show Steps p.tables e below (T239.setTop (mkF m 91 #[.val (.int i0), .val (.int i1), .val (.int (2 : Int32)), .val (.int (1 : Int32)), .val (.int (1 : Int32)), .val (.ref a_FROM), .val (.ref b231), .unset] [(.int (0 : Int32))])) _
          refine XS.istore X239.here hx rfl (hb hby at_91) rfl (l' := #[.val (.int i0), .val (.int i1), .val (.int (2 : Int32)), .val (.int (1 : Int32)), .val (.int (1 : Int32)), .val (.ref a_FROM), .val (.ref b231), .val (.int (0 : Int32))]) rfl ?_
          show Steps p.tables e below (T239.setTop (mkF m 93 #[.val (.int i0), .val (.int i1), .val (.int (2 : Int32)), .val (.int (1 : Int32)), .val (.int (1 : Int32)), .val (.ref a_FROM), .val (.ref b231), .val (.int (0 : Int32))] [])) _
          refine XS.aload X239.here hx rfl (hb hby at_93) rfl rfl ?_
          show Steps p.tables e below (T239.setTop (mkF m 95 #[.val (.int i0), .val (.int i1), .val (.int (2 : Int32)), .val (.int (1 : Int32)), .val (.int (1 : Int32)), .val (.ref a_FROM), .val (.ref b231), .val (.int (0 : Int32))] [(.ref a_FROM)])) _
          refine st242.trans ?_
          show Steps p.tables e below (T242.setTop (mkF m 98 #[.val (.int i0), .val (.int i1), .val (.int (2 : Int32)), .val (.int (1 : Int32)), .val (.int (1 : Int32)), .val (.ref a_FROM), .val (.ref b231), .val (.int (0 : Int32))] [(.int (0 : Int32))])) _
          refine XS.iload X242.here hx rfl (hb hby at_98) rfl ?_
          show Steps p.tables e below (T242.setTop (mkF m 100 #[.val (.int i0), .val (.int i1), .val (.int (2 : Int32)), .val (.int (1 : Int32)), .val (.int (1 : Int32)), .val (.ref a_FROM), .val (.ref b231), .val (.int (0 : Int32))] [(.int (0 : Int32)), (.int (0 : Int32))])) _
          refine XS.icmpNo X242.here hx rfl (hb hby at_100) rfl (by decide) ?_
          show Steps p.tables e below (T242.setTop (mkF m 103 #[.val (.int i0), .val (.int i1), .val (.int (2 : Int32)), .val (.int (1 : Int32)), .val (.int (1 : Int32)), .val (.ref a_FROM), .val (.ref b231), .val (.int (0 : Int32))] [])) _
          refine XS.aload X242.here hx rfl (hb hby at_103) rfl rfl ?_
          show Steps p.tables e below (T242.setTop (mkF m 105 #[.val (.int i0), .val (.int i1), .val (.int (2 : Int32)), .val (.int (1 : Int32)), .val (.int (1 : Int32)), .val (.ref a_FROM), .val (.ref b231), .val (.int (0 : Int32))] [(.ref a_FROM)])) _
          refine XS.iloadN X242.here hx rfl (hb hby at_105) rfl ?_
          show Steps p.tables e below (T242.setTop (mkF m 106 #[.val (.int i0), .val (.int i1), .val (.int (2 : Int32)), .val (.int (1 : Int32)), .val (.int (1 : Int32)), .val (.ref a_FROM), .val (.ref b231), .val (.int (0 : Int32))] [(.int (1 : Int32)), (.ref a_FROM)])) _
          refine st244.trans ?_
          show Steps p.tables e below (T244.setTop (mkF m 109 #[.val (.int i0), .val (.int i1), .val (.int (2 : Int32)), .val (.int (1 : Int32)), .val (.int (1 : Int32)), .val (.ref a_FROM), .val (.ref b231), .val (.int (0 : Int32))] [(.ref a_BOTH)])) _
          refine st245.trans ?_
          show Steps p.tables e below (T245.setTop (mkF m 112 #[.val (.int i0), .val (.int i1), .val (.int (2 : Int32)), .val (.int (1 : Int32)), .val (.int (1 : Int32)), .val (.ref a_FROM), .val (.ref b231), .val (.int (0 : Int32))] [(.int (1 : Int32))])) _
          refine XS.iloadN X245.here hx rfl (hb hby at_112) rfl ?_
          show Steps p.tables e below (T245.setTop (mkF m 113 #[.val (.int i0), .val (.int i1), .val (.int (2 : Int32)), .val (.int (1 : Int32)), .val (.int (1 : Int32)), .val (.ref a_FROM), .val (.ref b231), .val (.int (0 : Int32))] [(.int (1 : Int32)), (.int (1 : Int32))])) _
          refine XS.icmpNo X245.here hx rfl (hb hby at_113) rfl (by decide) ?_
          show Steps p.tables e below (T245.setTop (mkF m 116 #[.val (.int i0), .val (.int i1), .val (.int (2 : Int32)), .val (.int (1 : Int32)), .val (.int (1 : Int32)), .val (.ref a_FROM), .val (.ref b231), .val (.int (0 : Int32))] [])) _
          refine XS.aload X245.here hx rfl (hb hby at_116) rfl rfl ?_
          show Steps p.tables e below (T245.setTop (mkF m 118 #[.val (.int i0), .val (.int i1), .val (.int (2 : Int32)), .val (.int (1 : Int32)), .val (.int (1 : Int32)), .val (.ref a_FROM), .val (.ref b231), .val (.int (0 : Int32))] [(.ref a_FROM)])) _
          refine XS.iload X245.here hx rfl (hb hby at_118) rfl ?_
          show Steps p.tables e below (T245.setTop (mkF m 120 #[.val (.int i0), .val (.int i1), .val (.int (2 : Int32)), .val (.int (1 : Int32)), .val (.int (1 : Int32)), .val (.ref a_FROM), .val (.ref b231), .val (.int (0 : Int32))] [(.int (1 : Int32)), (.ref a_FROM)])) _
          refine st247.trans ?_
          show Steps p.tables e below (T247.setTop (mkF m 123 #[.val (.int i0), .val (.int i1), .val (.int (2 : Int32)), .val (.int (1 : Int32)), .val (.int (1 : Int32)), .val (.ref a_FROM), .val (.ref b231), .val (.int (0 : Int32))] [(.ref a_FROM)])) _
          refine st248.trans ?_
          show Steps p.tables e below (T248.setTop (mkF m 126 #[.val (.int i0), .val (.int i1), .val (.int (2 : Int32)), .val (.int (1 : Int32)), .val (.int (1 : Int32)), .val (.ref a_FROM), .val (.ref b231), .val (.int (0 : Int32))] [(.int (0 : Int32))])) _
          refine XS.iload X248.here hx rfl (hb hby at_126) rfl ?_
          show Steps p.tables e below (T248.setTop (mkF m 128 #[.val (.int i0), .val (.int i1), .val (.int (2 : Int32)), .val (.int (1 : Int32)), .val (.int (1 : Int32)), .val (.ref a_FROM), .val (.ref b231), .val (.int (0 : Int32))] [(.int (0 : Int32)), (.int (0 : Int32))])) _
          refine XS.icmpNo X248.here hx rfl (hb hby at_128) rfl (by decide) ?_
          show Steps p.tables e below (T248.setTop (mkF m 131 #[.val (.int i0), .val (.int i1), .val (.int (2 : Int32)), .val (.int (1 : Int32)), .val (.int (1 : Int32)), .val (.ref a_FROM), .val (.ref b231), .val (.int (0 : Int32))] [])) _
          refine XS.iconst X248.here hx rfl (hb hby at_131) ?_
          show Steps p.tables e below (T248.setTop (mkF m 132 #[.val (.int i0), .val (.int i1), .val (.int (2 : Int32)), .val (.int (1 : Int32)), .val (.int (1 : Int32)), .val (.ref a_FROM), .val (.ref b231), .val (.int (0 : Int32))] [(.int (1 : Int32))])) _
          refine XS.goto X248.here hx rfl (pc0 := 132) (pc' := 136) rfl (hb hby at_132) (by decide) (by decide) ?_
          show Steps p.tables e below (T248.setTop (mkF m 136 #[.val (.int i0), .val (.int i1), .val (.int (2 : Int32)), .val (.int (1 : Int32)), .val (.int (1 : Int32)), .val (.ref a_FROM), .val (.ref b231), .val (.int (0 : Int32))] [(.int (1 : Int32))])) _
          exact retN X248 hx (t := .boolean) Bd.returns (by simp) (hb hby at_136) hr
        · show QL n0 _ T248.heap _
          rw [hh248]
          exact ⟨rfl, N248⟩
  · skip
    have pre249 : ∀ t, Steps p.tables e below (s₁.setTop (mkF m 7 #[.val (.int i0), .val (.int i1), .val (.int (3 : Int32)), .unset, .unset, .unset, .unset, .unset] [(.int (i1 &&& (1 : Int32)))])) t → Steps p.tables e below (s₁.setTop (entryFrame m #[(.int i0), (.int i1)] maxLocals)) t := fun t kt => pre1 t (by
        show Steps p.tables e below (s₁.setTop (mkF m 3 #[.val (.int i0), .val (.int i1), .unset, .unset, .unset, .unset, .unset, .unset] [(.int (i0 &&& (3 : Int32)))])) _
        rw [hk2]
        show Steps p.tables e below (s₁.setTop (mkF m 3 #[.val (.int i0), .val (.int i1), .unset, .unset, .unset, .unset, .unset, .unset] [(.int (3 : Int32))])) _
        refine XS.istoreN X0.here hx rfl (hb hby at_3) rfl (l' := #[.val (.int i0), .val (.int i1), .val (.int (3 : Int32)), .unset, .unset, .unset, .unset, .unset]) rfl ?_
        show Steps p.tables e below (s₁.setTop (mkF m 4 #[.val (.int i0), .val (.int i1), .val (.int (3 : Int32)), .unset, .unset, .unset, .unset, .unset] [])) _
        refine XS.iloadN X0.here hx rfl (hb hby at_4) rfl ?_
        show Steps p.tables e below (s₁.setTop (mkF m 5 #[.val (.int i0), .val (.int i1), .val (.int (3 : Int32)), .unset, .unset, .unset, .unset, .unset] [(.int i1)])) _
        refine XS.iconst X0.here hx rfl (hb hby at_5) ?_
        show Steps p.tables e below (s₁.setTop (mkF m 6 #[.val (.int i0), .val (.int i1), .val (.int (3 : Int32)), .unset, .unset, .unset, .unset, .unset] [(.int (1 : Int32)), (.int i1)])) _
        refine XS.iand X0.here hx rfl (hb hby at_6) rfl ?_
        exact kt)
    rcases own_b i1 with hk250 | hk250
    · skip
      have pre251 : ∀ t, Steps p.tables e below (s₁.setTop (mkF m 19 #[.val (.int i0), .val (.int i1), .val (.int (3 : Int32)), .val (.int (0 : Int32)), .unset, .unset, .unset, .unset] [(.int (i1 &&& (2 : Int32)))])) t → Steps p.tables e below (s₁.setTop (entryFrame m #[(.int i0), (.int i1)] maxLocals)) t := fun t kt => pre249 t (by
          show Steps p.tables e below (s₁.setTop (mkF m 7 #[.val (.int i0), .val (.int i1), .val (.int (3 : Int32)), .unset, .unset, .unset, .unset, .unset] [(.int (i1 &&& (1 : Int32)))])) _
          rw [hk250]
          show Steps p.tables e below (s₁.setTop (mkF m 7 #[.val (.int i0), .val (.int i1), .val (.int (3 : Int32)), .unset, .unset, .unset, .unset, .unset] [(.int (0 : Int32))])) _
          refine XS.ifYes X0.here hx rfl (pc0 := 7) (pc' := 14) rfl (hb hby at_7) rfl (by decide) (by decide) (by decide) ?_
          show Steps p.tables e below (s₁.setTop (mkF m 14 #[.val (.int i0), .val (.int i1), .val (.int (3 : Int32)), .unset, .unset, .unset, .unset, .unset] [])) _
          refine XS.iconst X0.here hx rfl (hb hby at_14) ?_
          show Steps p.tables e below (s₁.setTop (mkF m 15 #[.val (.int i0), .val (.int i1), .val (.int (3 : Int32)), .unset, .unset, .unset, .unset, .unset] [(.int (0 : Int32))])) _
          refine XS.istoreN X0.here hx rfl (hb hby at_15) rfl (l' := #[.val (.int i0), .val (.int i1), .val (.int (3 : Int32)), .val (.int (0 : Int32)), .unset, .unset, .unset, .unset]) rfl ?_
          show Steps p.tables e below (s₁.setTop (mkF m 16 #[.val (.int i0), .val (.int i1), .val (.int (3 : Int32)), .val (.int (0 : Int32)), .unset, .unset, .unset, .unset] [])) _
          refine XS.iloadN X0.here hx rfl (hb hby at_16) rfl ?_
          show Steps p.tables e below (s₁.setTop (mkF m 17 #[.val (.int i0), .val (.int i1), .val (.int (3 : Int32)), .val (.int (0 : Int32)), .unset, .unset, .unset, .unset] [(.int i1)])) _
          refine XS.iconst X0.here hx rfl (hb hby at_17) ?_
          show Steps p.tables e below (s₁.setTop (mkF m 18 #[.val (.int i0), .val (.int i1), .val (.int (3 : Int32)), .val (.int (0 : Int32)), .unset, .unset, .unset, .unset] [(.int (2 : Int32)), (.int i1)])) _
          refine XS.iand X0.here hx rfl (hb hby at_18) rfl ?_
          exact kt)
      rcases own_c i1 with hk252 | hk252
      · skip
        obtain ⟨T253, X253, e253, st253⟩ := getS2 X0 hx hZ hown (host := "") (Or.inl (hw _ (List.mem_of_getElem? (i := 37) rfl))) Via.refl e0 (Sta.ext O0.2 S_a_BOTH) (g := (mkF m 61 #[.val (.int i0), .val (.int i1), .val (.int (3 : Int32)), .val (.int (0 : Int32)), .val (.int (0 : Int32)), .unset, .unset, .unset] [])) rfl (hb hby at_61)
        obtain ⟨T254, h254, k254, X254, e254, E254, A254, st254⟩ := newP X253 hx hZ (hw _ (List.mem_of_getElem? (i := 3) rfl)) e253 (g := (mkF m 67 #[.val (.int i0), .val (.int i1), .val (.int (3 : Int32)), .val (.int (0 : Int32)), .val (.int (0 : Int32)), .val (.ref a_BOTH), .unset, .unset] [(.int (4 : Int32))])) rfl (hb hby at_67) rfl (by decide) (cap := 4) (by decide) (by decide) (by decide) (by decide)
        obtain ⟨b254, g254⟩ : ∃ z, z = h0.size := ⟨_, rfl⟩
        rw [← g254] at A254 st254
        have gb254 : n0 ≤ b254 := by rw [g254, ← O0.1]; exact O0.2.1
        have ne254_a_BOTH : a_BOTH ≠ b254 := by rw [g254]; exact Nat.ne_of_lt ((Exa.ext O0.2 X_a_BOTH)).lt
        have ne254_a_FROM : a_FROM ≠ b254 := by rw [g254]; exact Nat.ne_of_lt ((Exa.ext O0.2 X_a_FROM)).lt
        have ne254_a_NONE : a_NONE ≠ b254 := by rw [g254]; exact Nat.ne_of_lt ((Exa.ext O0.2 X_a_NONE)).lt
        have ne254_a_TO : a_TO ≠ b254 := by rw [g254]; exact Nat.ne_of_lt ((Exa.ext O0.2 X_a_TO)).lt
        have V254 : Arv Z h254 b254 k254 .boolean (4 : Int32) [(.int (0 : Int32)), (.int (0 : Int32)), (.int (0 : Int32)), (.int (0 : Int32))] (.int (0 : Int32)) := (Arv.new A254 (by decide)).pad (pad_rep [] (.int (0 : Int32)) 4)
        obtain ⟨cl255, Ar255, q255, S255, N255_, H255, G255⟩ := V254
        have hin255 : ¬ ((0 : Int32) < 0 ∨ cl255.slots.size ≤ ((0 : Int32)).toNatClampNeg) := inb_of S255 ⟨by decide, by decide⟩
        obtain ⟨T256, h256, X256, e256, W256, st256⟩ := stZ X254 hx hZ e254 Ar255 (j := (0 : Int32)) hin255 (g := (mkF m 72 #[.val (.int i0), .val (.int i1), .val (.int (3 : Int32)), .val (.int (0 : Int32)), .val (.int (0 : Int32)), .val (.ref a_BOTH), .unset, .unset] [(.int (0 : Int32)), (.int (0 : Int32)), (.ref b254), (.ref b254)])) rfl rfl (hb hby at_72)
        have V256 : Arv Z h256 b254 k254 .boolean (4 : Int32) [(.int (0 : Int32)), (.int (0 : Int32)), (.int (0 : Int32)), (.int (0 : Int32))] (.int (0 : Int32)) := Arv.set Ar255 q255 S255 N255_ H255 G255 (fits_nar_bool _) W256 0 rfl (Nat.le_of_ble_eq_true rfl)
        have N256 := Fr.snoc X256 N0 gb254
        obtain ⟨cl257, Ar257, q257, S257, N257_, H257, G257⟩ := V256
        have hin257 : ¬ ((1 : Int32) < 0 ∨ cl257.slots.size ≤ ((1 : Int32)).toNatClampNeg) := inb_of S257 ⟨by decide, by decide⟩
        obtain ⟨T258, h258, X258, e258, W258, st258⟩ := stZ X256 hx hZ e256 Ar257 (j := (1 : Int32)) hin257 (g := (mkF m 76 #[.val (.int i0), .val (.int i1), .val (.int (3 : Int32)), .val (.int (0 : Int32)), .val (.int (0 : Int32)), .val (.ref a_BOTH), .unset, .unset] [(.int (1 : Int32)), (.int (1 : Int32)), (.ref b254), (.ref b254)])) rfl rfl (hb hby at_76)
        have V258 : Arv Z h258 b254 k254 .boolean (4 : Int32) [(.int (0 : Int32)), (.int (1 : Int32)), (.int (0 : Int32)), (.int (0 : Int32))] (.int (0 : Int32)) := Arv.set Ar257 q257 S257 N257_ H257 G257 (fits_nar_bool _) W258 1 rfl (Nat.le_of_ble_eq_true rfl)
        have N258 := Fr.snoc X258 N256 gb254
        obtain ⟨cl259, Ar259, q259, S259, N259_, H259, G259⟩ := V258
        have hin259 : ¬ ((2 : Int32) < 0 ∨ cl259.slots.size ≤ ((2 : Int32)).toNatClampNeg) := inb_of S259 ⟨by decide, by decide⟩
        obtain ⟨T260, h260, X260, e260, W260, st260⟩ := stZ X258 hx hZ e258 Ar259 (j := (2 : Int32)) hin259 (g := (mkF m 80 #[.val (.int i0), .val (.int i1), .val (.int (3 : Int32)), .val (.int (0 : Int32)), .val (.int (0 : Int32)), .val (.ref a_BOTH), .unset, .unset] [(.int (0 : Int32)), (.int (2 : Int32)), (.ref b254), (.ref b254)])) rfl rfl (hb hby at_80)
        have V260 : Arv Z h260 b254 k254 .boolean (4 : Int32) [(.int (0 : Int32)), (.int (1 : Int32)), (.int (0 : Int32)), (.int (0 : Int32))] (.int (0 : Int32)) := Arv.set Ar259 q259 S259 N259_ H259 G259 (fits_nar_bool _) W260 2 rfl (Nat.le_of_ble_eq_true rfl)
        have N260 := Fr.snoc X260 N258 gb254
        obtain ⟨cl261, Ar261, q261, S261, N261_, H261, G261⟩ := V260
        have hin261 : ¬ ((3 : Int32) < 0 ∨ cl261.slots.size ≤ ((3 : Int32)).toNatClampNeg) := inb_of S261 ⟨by decide, by decide⟩
        obtain ⟨T262, h262, X262, e262, W262, st262⟩ := stZ X260 hx hZ e260 Ar261 (j := (3 : Int32)) hin261 (g := (mkF m 84 #[.val (.int i0), .val (.int i1), .val (.int (3 : Int32)), .val (.int (0 : Int32)), .val (.int (0 : Int32)), .val (.ref a_BOTH), .unset, .unset] [(.int (1 : Int32)), (.int (3 : Int32)), (.ref b254), (.ref b254)])) rfl rfl (hb hby at_84)
        have V262 : Arv Z h262 b254 k254 .boolean (4 : Int32) [(.int (0 : Int32)), (.int (1 : Int32)), (.int (0 : Int32)), (.int (1 : Int32))] (.int (0 : Int32)) := Arv.set Ar261 q261 S261 N261_ H261 G261 (fits_nar_bool _) W262 3 rfl (Nat.le_of_ble_eq_true rfl)
        have N262 := Fr.snoc X262 N260 gb254
        obtain ⟨cl263, Ar263, q263, S263, N263_, H263, G263⟩ := V262
        have hin263 : ¬ ((3 : Int32) < 0 ∨ cl263.slots.size ≤ ((3 : Int32)).toNatClampNeg) := inb_of S263 ⟨by decide, by decide⟩
        have hat263 : cl263.slots[((3 : Int32)).toNatClampNeg]? = some (.int (1 : Int32)) := H263.at hin263 rfl
        have O264 : Old Z n0 h262 := (((((O0.ext E254).wr W256 gb254).wr W258 gb254).wr W260 gb254).wr W262 gb254)
        have f266 := ((((((Exa.ext O0.2 X_a_BOTH).ext E254).wr W256).wr W258).wr W260).wr W262)
        obtain ⟨cq265, kq265, q265a, q265b, q265c⟩ := isOf hZ e262 f266
        obtain ⟨_, _, ⟨T265, L265, k265, n265⟩, -, X265, ⟨Lc265, hQ265, l265, y265, z265⟩, st265⟩ := X262.virtualBack hx (y := (⟨"com/example/carbonfold/carbonfold/model/RosterItem$Subscription", "hasTo", "()Z"⟩ : MethodName)) (z := (⟨"com/example/carbonfold/carbonfold/model/RosterItem$Subscription", "hasTo", "()Z"⟩ : MethodName)) hown (mvT hZ (hw _ (List.mem_of_getElem? (i := 4) rfl))) (mvT hZ (hw _ (List.mem_of_getElem? (i := 5) rfl))) (notFace_of_selects (args := #[]) (mvT hZ (hw _ (List.mem_of_getElem? (i := 7) rfl)))) (mvT hZ (hw _ (List.mem_of_getElem? (i := 7) rfl))) (mvT hZ (hw _ (List.mem_of_getElem? (i := 6) rfl))) (by decide) (backOf (W := 0) (rm_hasTo_17 l Z a0 hw [] a_NONE a_TO a_BOTH a_FROM h262 n0 O264 En) hZ (hw _ (List.mem_of_getElem? (i := 8) rfl)) (hw _ (List.mem_of_getElem? (i := 1) rfl)) (by decide) (by decide)) q265a q265c (g := (mkF m 95 #[.val (.int i0), .val (.int i1), .val (.int (3 : Int32)), .val (.int (0 : Int32)), .val (.int (0 : Int32)), .val (.ref a_BOTH), .val (.ref b254), .val (.int (1 : Int32))] [(.ref a_BOTH)])) rfl (by rw [hml]; rfl) (Steps.refl _) (argsL := []) (rest := []) (lenOf pd_0 rfl) rfl (by show 2 * 0 + _ ≤ _; exact Nat.le_of_eq rfl) (hb hby at_95) (fun _ _ => ⟨rfl, e262, (by decide : 1 + 0 ≤ _), (by decide : 4 + 0 ≤ _)⟩)
        dsimp only [Pt.U, Pt.locs, Pt.cells, Pt.slots] at X265 l265 y265 z265 st265 hQ265
        subst l265 y265 z265
        obtain ⟨rfl, N265q, hh265⟩ := hQ265
        have N265 := Fr.app N262 N265q
        obtain ⟨cq267, kq267, q267a, q267b, q267c⟩ := isOf hZ hh265 f266
        obtain ⟨_, _, ⟨T267, L267, k267, n267⟩, -, X267, ⟨Lc267, hQ267, l267, y267, z267⟩, st267⟩ := X265.virtualBack hx (y := (⟨"com/example/carbonfold/carbonfold/model/RosterItem$Subscription", "withTo", "(Z)Lcom/example/carbonfold/carbonfold/model/RosterItem$Subscription;"⟩ : MethodName)) (z := (⟨"com/example/carbonfold/carbonfold/model/RosterItem$Subscription", "withTo", "(Z)Lcom/example/carbonfold/carbonfold/model/RosterItem$Subscription;"⟩ : MethodName)) hown (mvT hZ (hw _ (List.mem_of_getElem? (i := 13) rfl))) (mvT hZ (hw _ (List.mem_of_getElem? (i := 14) rfl))) (notFace_of_selects (args := #[]) (mvT hZ (hw _ (List.mem_of_getElem? (i := 16) rfl)))) (mvT hZ (hw _ (List.mem_of_getElem? (i := 16) rfl))) (mvT hZ (hw _ (List.mem_of_getElem? (i := 15) rfl))) (by decide) (backOf (W := 0) (rm_withTo_24 l Z a0 hw [] a_NONE a_TO a_BOTH a_FROM h262 n0 O264 En) hZ (hw _ (List.mem_of_getElem? (i := 17) rfl)) (hw _ (List.mem_of_getElem? (i := 1) rfl)) (by decide) (by decide)) q267a q267c (g := (mkF m 106 #[.val (.int i0), .val (.int i1), .val (.int (3 : Int32)), .val (.int (0 : Int32)), .val (.int (0 : Int32)), .val (.ref a_BOTH), .val (.ref b254), .val (.int (1 : Int32))] [(.int (0 : Int32)), (.ref a_BOTH)])) rfl (by rw [hml]; rfl) (Steps.refl _) (argsL := [(.int (0 : Int32))]) (rest := []) (lenOf pd_2 rfl) rfl (by show 2 * 0 + _ ≤ _; exact Nat.le_of_eq rfl) (hb hby at_106) (fun _ _ => ⟨rfl, hh265, (by decide : 1 + 0 ≤ _), (by decide : 4 + 0 ≤ _)⟩)
        dsimp only [Pt.U, Pt.locs, Pt.cells, Pt.slots] at X267 l267 y267 z267 st267 hQ267
        subst l267 y267 z267
        obtain ⟨rfl, N267q, hh267⟩ := hQ267
        have N267 := Fr.app N265 N267q
        have f269 := ((((((Exa.ext O0.2 X_a_FROM).ext E254).wr W256).wr W258).wr W260).wr W262)
        obtain ⟨cq268, kq268, q268a, q268b, q268c⟩ := isOf hZ hh267 f269
        obtain ⟨_, _, ⟨T268, L268, k268, n268⟩, -, X268, ⟨Lc268, hQ268, l268, y268, z268⟩, st268⟩ := X267.virtualBack hx (y := (⟨"com/example/carbonfold/carbonfold/model/RosterItem$Subscription", "hasTo", "()Z"⟩ : MethodName)) (z := (⟨"com/example/carbonfold/carbonfold/model/RosterItem$Subscription", "hasTo", "()Z"⟩ : MethodName)) hown (mvT hZ (hw _ (List.mem_of_getElem? (i := 4) rfl))) (mvT hZ (hw _ (List.mem_of_getElem? (i := 5) rfl))) (notFace_of_selects (args := #[]) (mvT hZ (hw _ (List.mem_of_getElem? (i := 7) rfl)))) (mvT hZ (hw _ (List.mem_of_getElem? (i := 7) rfl))) (mvT hZ (hw _ (List.mem_of_getElem? (i := 6) rfl))) (by decide) (backOf (W := 0) (rm_hasTo_8 l Z a0 hw [] a_NONE a_TO a_BOTH a_FROM h262 n0 O264 En) hZ (hw _ (List.mem_of_getElem? (i := 8) rfl)) (hw _ (List.mem_of_getElem? (i := 1) rfl)) (by decide) (by decide)) q268a q268c (g := (mkF m 109 #[.val (.int i0), .val (.int i1), .val (.int (3 : Int32)), .val (.int (0 : Int32)), .val (.int (0 : Int32)), .val (.ref a_BOTH), .val (.ref b254), .val (.int (1 : Int32))] [(.ref a_FROM)])) rfl (by rw [hml]; rfl) (Steps.refl _) (argsL := []) (rest := []) (lenOf pd_0 rfl) rfl (by show 2 * 0 + _ ≤ _; exact Nat.le_of_eq rfl) (hb hby at_109) (fun _ _ => ⟨rfl, hh267, (by decide : 1 + 0 ≤ _), (by decide : 4 + 0 ≤ _)⟩)
        dsimp only [Pt.U, Pt.locs, Pt.cells, Pt.slots] at X268 l268 y268 z268 st268 hQ268
        subst l268 y268 z268
        obtain ⟨rfl, N268q, hh268⟩ := hQ268
        have N268 := Fr.app N267 N268q
        obtain ⟨cq270, kq270, q270a, q270b, q270c⟩ := isOf hZ hh268 f266
        obtain ⟨_, _, ⟨T270, L270, k270, n270⟩, -, X270, ⟨Lc270, hQ270, l270, y270, z270⟩, st270⟩ := X268.virtualBack hx (y := (⟨"com/example/carbonfold/carbonfold/model/RosterItem$Subscription", "withFrom", "(Z)Lcom/example/carbonfold/carbonfold/model/RosterItem$Subscription;"⟩ : MethodName)) (z := (⟨"com/example/carbonfold/carbonfold/model/RosterItem$Subscription", "withFrom", "(Z)Lcom/example/carbonfold/carbonfold/model/RosterItem$Subscription;"⟩ : MethodName)) hown (mvT hZ (hw _ (List.mem_of_getElem? (i := 28) rfl))) (mvT hZ (hw _ (List.mem_of_getElem? (i := 29) rfl))) (notFace_of_selects (args := #[]) (mvT hZ (hw _ (List.mem_of_getElem? (i := 31) rfl)))) (mvT hZ (hw _ (List.mem_of_getElem? (i := 31) rfl))) (mvT hZ (hw _ (List.mem_of_getElem? (i := 30) rfl))) (by decide) (backOf (W := 0) (rm_withFrom_26 l Z a0 hw [] a_NONE a_TO a_BOTH a_FROM h262 n0 O264 En) hZ (hw _ (List.mem_of_getElem? (i := 32) rfl)) (hw _ (List.mem_of_getElem? (i := 1) rfl)) (by decide) (by decide)) q270a q270c (g := (mkF m 120 #[.val (.int i0), .val (.int i1), .val (.int (3 : Int32)), .val (.int (0 : Int32)), .val (.int (0 : Int32)), .val (.ref a_BOTH), .val (.ref b254), .val (.int (1 : Int32))] [(.int (0 : Int32)), (.ref a_BOTH)])) rfl (by rw [hml]; rfl) (Steps.refl _) (argsL := [(.int (0 : Int32))]) (rest := []) (lenOf pd_2 rfl) rfl (by show 2 * 0 + _ ≤ _; exact Nat.le_of_eq rfl) (hb hby at_120) (fun _ _ => ⟨rfl, hh268, (by decide : 1 + 0 ≤ _), (by decide : 4 + 0 ≤ _)⟩)
        dsimp only [Pt.U, Pt.locs, Pt.cells, Pt.slots] at X270 l270 y270 z270 st270 hQ270
        subst l270 y270 z270
        obtain ⟨rfl, N270q, hh270⟩ := hQ270
        have N270 := Fr.app N268 N270q
        have f272 := ((((((Exa.ext O0.2 X_a_TO).ext E254).wr W256).wr W258).wr W260).wr W262)
        obtain ⟨cq271, kq271, q271a, q271b, q271c⟩ := isOf hZ hh270 f272
        obtain ⟨_, _, ⟨T271, L271, k271, n271⟩, -, X271, ⟨Lc271, hQ271, l271, y271, z271⟩, st271⟩ := X270.virtualBack hx (y := (⟨"com/example/carbonfold/carbonfold/model/RosterItem$Subscription", "hasTo", "()Z"⟩ : MethodName)) (z := (⟨"com/example/carbonfold/carbonfold/model/RosterItem$Subscription", "hasTo", "()Z"⟩ : MethodName)) hown (mvT hZ (hw _ (List.mem_of_getElem? (i := 4) rfl))) (mvT hZ (hw _ (List.mem_of_getElem? (i := 5) rfl))) (notFace_of_selects (args := #[]) (mvT hZ (hw _ (List.mem_of_getElem? (i := 7) rfl)))) (mvT hZ (hw _ (List.mem_of_getElem? (i := 7) rfl))) (mvT hZ (hw _ (List.mem_of_getElem? (i := 6) rfl))) (by decide) (backOf (W := 0) (rm_hasTo_11 l Z a0 hw [] a_NONE a_TO a_BOTH a_FROM h262 n0 O264 En) hZ (hw _ (List.mem_of_getElem? (i := 8) rfl)) (hw _ (List.mem_of_getElem? (i := 1) rfl)) (by decide) (by decide)) q271a q271c (g := (mkF m 123 #[.val (.int i0), .val (.int i1), .val (.int (3 : Int32)), .val (.int (0 : Int32)), .val (.int (0 : Int32)), .val (.ref a_BOTH), .val (.ref b254), .val (.int (1 : Int32))] [(.ref a_TO)])) rfl (by rw [hml]; rfl) (Steps.refl _) (argsL := []) (rest := []) (lenOf pd_0 rfl) rfl (by show 2 * 0 + _ ≤ _; exact Nat.le_of_eq rfl) (hb hby at_123) (fun _ _ => ⟨rfl, hh270, (by decide : 1 + 0 ≤ _), (by decide : 4 + 0 ≤ _)⟩)
        dsimp only [Pt.U, Pt.locs, Pt.cells, Pt.slots] at X271 l271 y271 z271 st271 hQ271
        subst l271 y271 z271
        obtain ⟨rfl, N271q, hh271⟩ := hQ271
        have N271 := Fr.app N270 N271q
        obtain ⟨fs, hr, hrun, hended, hW, hsame⟩ := X271.leave (v := some (.int (1 : Int32))) (fun h => by rw [Bd.returns] at h; cases h)
        refine ⟨_, _, pre251 _ ?_, hrun, hended, _, _, rfl, ?_, ⟨_, rfl⟩, hW, hsame.mono (by decide) (by decide)⟩
        · skip
          show Steps p.tables e below (s₁.setTop (mkF m 19 #[.val (.int i0), .val (.int i1), .val (.int (3 : Int32)), .val (.int (0 : Int32)), .unset, .unset, .unset, .unset] [(.int (i1 &&& (2 : Int32)))])) _
          rw [hk252]
          show Steps p.tables e below (s₁.setTop (mkF m 19 #[.val (.int i0), .val (.int i1), .val (.int (3 : Int32)), .val (.int (0 : Int32)), .unset, .unset, .unset, .unset] [(.int (0 : Int32))])) _
          refine XS.ifYes X0.here hx rfl (pc0 := 19) (pc' := 26) rfl (hb hby at_19) rfl (by decide) (by decide) (by decide) ?_
          show Steps p.tables e below (s₁.setTop (mkF m 26 #[.val (.int i0), .val (.int i1), .val (.int (3 : Int32)), .val (.int (0 : Int32)), .unset, .unset, .unset, .unset] [])) _
          refine XS.iconst X0.here hx rfl (hb hby at_26) ?_
          show Steps p.tables e below (s₁.setTop (mkF m 27 #[.val (.int i0), .val (.int i1), .val (.int (3 : Int32)), .val (.int (0 : Int32)), .unset, .unset, .unset, .unset] [(.int (0 : Int32))])) _
          refine XS.istore X0.here hx rfl (hb hby at_27) rfl (l' := #[.val (.int i0), .val (.int i1), .val (.int (3 : Int32)), .val (.int (0 : Int32)), .val (.int (0 : Int32)), .unset, .unset, .unset]) rfl ?_
          show Steps p.tables e below (s₁.setTop (mkF m 29 #[.val (.int i0), .val (.int i1), .val (.int (3 : Int32)), .val (.int (0 : Int32)), .val (.int (0 : Int32)), .unset, .unset, .unset] [])) _
          refine XS.iloadN X0.here hx rfl (hb hby at_29) rfl ?_
          show Steps p.tables e below (s₁.setTop (mkF m 30 #[.val (.int i0), .val (.int i1), .val (.int (3 : Int32)), .val (.int (0 : Int32)), .val (.int (0 : Int32)), .unset, .unset, .unset] [(.int (3 : Int32))])) _
          refine XS.ifYes X0.here hx rfl (pc0 := 30) (pc' := 39) rfl (hb hby at_30) rfl (by decide) (by decide) (by decide) ?_
          show Steps p.tables e below (s₁.setTop (mkF m 39 #[.val (.int i0), .val (.int i1), .val (.int (3 : Int32)), .val (.int (0 : Int32)), .val (.int (0 : Int32)), .unset, .unset, .unset] [])) _
          refine XS.iloadN X0.here hx rfl (hb hby at_39) rfl ?_
          show Steps p.tables e below (s₁.setTop (mkF m 40 #[.val (.int i0), .val (.int i1), .val (.int (3 : Int32)), .val (.int (0 : Int32)), .val (.int (0 : Int32)), .unset, .unset, .unset] [(.int (3 : Int32))])) _
          refine XS.iconst X0.here hx rfl (hb hby at_40) ?_
          show Steps p.tables e below (s₁.setTop (mkF m 41 #[.val (.int i0), .val (.int i1), .val (.int (3 : Int32)), .val (.int (0 : Int32)), .val (.int (0 : Int32)), .unset, .unset, .unset] [(.int (1 : Int32)), (.int (3 : Int32))])) _
          refine XS.icmpYes X0.here hx rfl (pc0 := 41) (pc' := 50) rfl (hb hby at_41) rfl (by decide) (by decide) (by decide) ?_
          show Steps p.tables e below (s₁.setTop (mkF m 50 #[.val (.int i0), .val (.int i1), .val (.int (3 : Int32)), .val (.int (0 : Int32)), .val (.int (0 : Int32)), .unset, .unset, .unset] [])) _
          refine XS.iloadN X0.here hx rfl (hb hby at_50) rfl ?_
          show Steps p.tables e below (s₁.setTop (mkF m 51 #[.val (.int i0), .val (.int i1), .val (.int (3 : Int32)), .val (.int (0 : Int32)), .val (.int (0 : Int32)), .unset, .unset, .unset] [(.int (3 : Int32))])) _
          refine XS.iconst X0.here hx rfl (hb hby at_51) ?_
          show Steps p.tables e below (s₁.setTop (mkF m 52 #[.val (.int i0), .val (.int i1), .val (.int (3 : Int32)), .val (.int (0 : Int32)), .val (.int (0 : Int32)), .unset, .unset, .unset] [(.int (2 : Int32)), (.int (3 : Int32))])) _
          refine XS.icmpYes X0.here hx rfl (pc0 := 52) (pc' := 61) rfl (hb hby at_52) rfl (by decide) (by decide) (by decide) ?_
          show Steps p.tables e below (s₁.setTop (mkF m 61 #[.val (.int i0), .val (.int i1), .val (.int (3 : Int32)), .val (.int (0 : Int32)), .val (.int (0 : Int32)), .unset, .unset, .unset] [])) _
          refine st253 _ ?_
          show Steps p.tables e below (T253.setTop (mkF m 64 #[.val (.int i0), .val (.int i1), .val (.int (3 : Int32)), .val (.int (0 : Int32)), .val (.int (0 : Int32)), .unset, .unset, .unset] [(.ref a_BOTH)])) _
          refine XS.astore X253.here hx rfl (hb hby at_64) rfl rfl (l' := #[.val (.int i0), .val (.int i1), .val (.int (3 : Int32)), .val (.int (0 : Int32)), .val (.int (0 : Int32)), .val (.ref a_BOTH), .unset, .unset]) rfl ?_
          show Steps p.tables e below (T253.setTop (mkF m 66 #[.val (.int i0), .val (.int i1), .val (.int (3 : Int32)), .val (.int (0 : Int32)), .val (.int (0 : Int32)), .val (.ref a_BOTH), .unset, .unset] [])) _
          refine XS.iconst X253.here hx rfl (hb hby at_66) ?_
          show Steps p.tables e below (T253.setTop (mkF m 67 #[.val (.int i0), .val (.int i1), .val (.int (3 : Int32)), .val (.int (0 : Int32)), .val (.int (0 : Int32)), .val (.ref a_BOTH), .unset, .unset] [(.int (4 : Int32))])) _
          refine st254 _ ?_
          show Steps p.tables e below (T254.setTop (mkF m 69 #[.val (.int i0), .val (.int i1), .val (.int (3 : Int32)), .val (.int (0 : Int32)), .val (.int (0 : Int32)), .val (.ref a_BOTH), .unset, .unset] [(.ref b254)])) _
          refine XS.dup X254.here hx rfl (hb hby at_69) rfl rfl ?_
          show Steps p.tables e below (T254.setTop (mkF m 70 #[.val (.int i0), .val (.int i1), .val (.int (3 : Int32)), .val (.int (0 : Int32)), .val (.int (0 : Int32)), .val (.ref a_BOTH), .unset, .unset] [(.ref b254), (.ref b254)])) _
          refine XS.iconst X254.here hx rfl (hb hby at_70) ?_
          show Steps p.tables e below (T254.setTop (mkF m 71 #[.val (.int i0), .val (.int i1), .val (.int (3 : Int32)), .val (.int (0 : Int32)), .val (.int (0 : Int32)), .val (.ref a_BOTH), .unset, .unset] [(.int (0 : Int32)), (.ref b254), (.ref b254)])) _
          refine XS.iconst X254.here hx rfl (hb hby at_71) ?_
          show Steps p.tables e below (T254.setTop (mkF m 72 #[.val (.int i0), .val (.int i1), .val (.int (3 : Int32)), .val (.int (0 : Int32)), .val (.int (0 : Int32)), .val (.ref a_BOTH), .unset, .unset] [(.int (0 : Int32)), (.int (0 : Int32)), (.ref b254), (.ref b254)])) _
          refine st256 _ ?_
          show Steps p.tables e below (T256.setTop (mkF m 73 #[.val (.int i0), .val (.int i1), .val (.int (3 : Int32)), .val (.int (0 : Int32)), .val (.int (0 : Int32)), .val (.ref a_BOTH), .unset, .unset] [(.ref b254)])) _
          refine XS.dup X256.here hx rfl (hb hby at_73) rfl rfl ?_
          show Steps p.tables e below (T256.setTop (mkF m 74 #[.val (.int i0), .val (.int i1), .val (.int (3 : Int32)), .val (.int (0 : Int32)), .val (.int (0 : Int32)), .val (.ref a_BOTH), .unset, .unset] [(.ref b254), (.ref b254)])) _
          refine XS.iconst X256.here hx rfl (hb hby at_74) ?_
          show Steps p.tables e below (T256.setTop (mkF m 75 #[.val (.int i0), .val (.int i1), .val (.int (3 : Int32)), .val (.int (0 : Int32)), .val (.int (0 : Int32)), .val (.ref a_BOTH), .unset, .unset] [(.int (1 : Int32)), (.ref b254), (.ref b254)])) _
          refine XS.iconst X256.here hx rfl (hb hby at_75) ?_
          show Steps p.tables e below (T256.setTop (mkF m 76 #[.val (.int i0), .val (.int i1), .val (.int (3 : Int32)), .val (.int (0 : Int32)), .val (.int (0 : Int32)), .val (.ref a_BOTH), .unset, .unset] [(.int (1 : Int32)), (.int (1 : Int32)), (.ref b254), (.ref b254)])) _
          refine st258 _ ?_
          show Steps p.tables e below (T258.setTop (mkF m 77 #[.val (.int i0), .val (.int i1), .val (.int (3 : Int32)), .val (.int (0 : Int32)), .val (.int (0 : Int32)), .val (.ref a_BOTH), .unset, .unset] [(.ref b254)])) _
          refine XS.dup X258.here hx rfl (hb hby at_77) rfl rfl ?_
          show Steps p.tables e below (T258.setTop (mkF m 78 #[.val (.int i0), .val (.int i1), .val (.int (3 : Int32)), .val (.int (0 : Int32)), .val (.int (0 : Int32)), .val (.ref a_BOTH), .unset, .unset] [(.ref b254), (.ref b254)])) _
          refine XS.iconst X258.here hx rfl (hb hby at_78) ?_
          show Steps p.tables e below (T258.setTop (mkF m 79 #[.val (.int i0), .val (.int i1), .val (.int (3 : Int32)), .val (.int (0 : Int32)), .val (.int (0 : Int32)), .val (.ref a_BOTH), .unset, .unset] [(.int (2 : Int32)), (.ref b254), (.ref b254)])) _
          refine XS.iconst X258.here hx rfl (hb hby at_79) ?_
          show Steps p.tables e below (T258.setTop (mkF m 80 #[.val (.int i0), .val (.int i1), .val (.int (3 : Int32)), .val (.int (0 : Int32)), .val (.int (0 : Int32)), .val (.ref a_BOTH), .unset, .unset] [(.int (0 : Int32)), (.int (2 : Int32)), (.ref b254), (.ref b254)])) _
          refine st260 _ ?_
          show Steps p.tables e below (T260.setTop (mkF m 81 #[.val (.int i0), .val (.int i1), .val (.int (3 : Int32)), .val (.int (0 : Int32)), .val (.int (0 : Int32)), .val (.ref a_BOTH), .unset, .unset] [(.ref b254)])) _
          refine XS.dup X260.here hx rfl (hb hby at_81) rfl rfl ?_
          show Steps p.tables e below (T260.setTop (mkF m 82 #[.val (.int i0), .val (.int i1), .val (.int (3 : Int32)), .val (.int (0 : Int32)), .val (.int (0 : Int32)), .val (.ref a_BOTH), .unset, .unset] [(.ref b254), (.ref b254)])) _
          refine XS.iconst X260.here hx rfl (hb hby at_82) ?_
          show Steps p.tables e below (T260.setTop (mkF m 83 #[.val (.int i0), .val (.int i1), .val (.int (3 : Int32)), .val (.int (0 : Int32)), .val (.int (0 : Int32)), .val (.ref a_BOTH), .unset, .unset] [(.int (3 : Int32)), (.ref b254), (.ref b254)])) _
          refine XS.iconst X260.here hx rfl (hb hby at_83) ?_
          show Steps p.tables e below (T260.setTop (mkF m 84 #[.val (.int i0), .val (.int i1), .val (.int (3 : Int32)), .val (.int (0 : Int32)), .val (.int (0 : Int32)), .val (.ref a_BOTH), .unset, .unset] [(.int (1 : Int32)), (.int (3 : Int32)), (.ref b254), (.ref b254)])) _
          refine st262 _ ?_
          show Steps p.tables e below (T262.setTop (mkF m 85 #[.val (.int i0), .val (.int i1), .val (.int (3 : Int32)), .val (.int (0 : Int32)), .val (.int (0 : Int32)), .val (.ref a_BOTH), .unset, .unset] [(.ref b254)])) _
          refine XS.astore X262.here hx rfl (hb hby at_85) rfl rfl (l' := #[.val (.int i0), .val (.int i1), .val (.int (3 : Int32)), .val (.int (0 : Int32)), .val (.int (0 : Int32)), .val (.ref a_BOTH), .val (.ref b254), .unset]) rfl ?_
          show Steps p.tables e below (T262.setTop (mkF m 87 #[.val (.int i0), .val (.int i1), .val (.int (3 : Int32)), .val (.int (0 : Int32)), .val (.int (0 : Int32)), .val (.ref a_BOTH), .val (.ref b254), .unset] [])) _
          refine XS.aload X262.here hx rfl (hb hby at_87) rfl rfl ?_
          show Steps p.tables e below (T262.setTop (mkF m 89 #[.val (.int i0), .val (.int i1), .val (.int (3 : Int32)), .val (.int (0 : Int32)), .val (.int (0 : Int32)), .val (.ref a_BOTH), .val (.ref b254), .unset] [(.ref b254)])) _
          refine XS.iloadN X262.here hx rfl (hb hby at_89) rfl ?_
          show Steps p.tables e below (T262.setTop (mkF m 90 #[.val (.int i0), .val (.int i1), .val (.int (3 : Int32)), .val (.int (0 : Int32)), .val (.int (0 : Int32)), .val (.ref a_BOTH), .val (.ref b254), .unset] [(.int (3 : Int32)), (.ref b254)])) _
          refine X262.baloadBooleans hx (j := (3 : Int32)) (v := (.int (1 : Int32))) (by rw [e262]; exact Ar263.1) (State.isArrayOf_alike hZ.alike Ar263.2.1) Ar263.2.2 hin263 hat263 (g := (mkF m 90 #[.val (.int i0), .val (.int i1), .val (.int (3 : Int32)), .val (.int (0 : Int32)), .val (.int (0 : Int32)), .val (.ref a_BOTH), .val (.ref b254), .unset] [(.int (3 : Int32)), (.ref b254)])) rfl rfl (hb hby at_90) _ ?_
          show Steps p.tables e below (T262.setTop (mkF m 91 #[.val (.int i0), .val (.int i1), .val (.int (3 : Int32)), .val (.int (0 : Int32)), .val (.int (0 : Int32)), .val (.ref a_BOTH), .val (.ref b254), .unset] [(.int (1 : Int32))])) _
          refine XS.istore X262.here hx rfl (hb hby at_91) rfl (l' := #[.val (.int i0), .val (.int i1), .val (.int (3 : Int32)), .val (.int (0 : Int32)), .val (.int (0 : Int32)), .val (.ref a_BOTH), .val (.ref b254), .val (.int (1 : Int32))]) rfl ?_
          show Steps p.tables e below (T262.setTop (mkF m 93 #[.val (.int i0), .val (.int i1), .val (.int (3 : Int32)), .val (.int (0 : Int32)), .val (.int (0 : Int32)), .val (.ref a_BOTH), .val (.ref b254), .val (.int (1 : Int32))] [])) _
          refine XS.aload X262.here hx rfl (hb hby at_93) rfl rfl ?_
          show Steps p.tables e below (T262.setTop (mkF m 95 #[.val (.int i0), .val (.int i1), .val (.int (3 : Int32)), .val (.int (0 : Int32)), .val (.int (0 : Int32)), .val (.ref a_BOTH), .val (.ref b254), .val (.int (1 : Int32))] [(.ref a_BOTH)])) _
          refine st265.trans ?_
          show Steps p.tables e below (T265.setTop (mkF m 98 #[.val (.int i0), .val (.int i1), .val (.int (3 : Int32)), .val (.int (0 : Int32)), .val (.int (0 : Int32)), .val (.ref a_BOTH), .val (.ref b254), .val (.int (1 : Int32))] [(.int (1 : Int32))])) _
          refine XS.iload X265.here hx rfl (hb hby at_98) rfl ?_
          show Steps p.tables e below (T265.setTop (mkF m 100 #[.val (.int i0), .val (.int i1), .val (.int (3 : Int32)), .val (.int (0 : Int32)), .val (.int (0 : Int32)), .val (.ref a_BOTH), .val (.ref b254), .val (.int (1 : Int32))] [(.int (1 : Int32)), (.int (1 : Int32))])) _
          refine XS.icmpNo X265.here hx rfl (hb hby at_100) rfl (by decide) ?_
          show Steps p.tables e below (T265.setTop (mkF m 103 #[.val (.int i0), .val (.int i1), .val (.int (3 : Int32)), .val (.int (0 : Int32)), .val (.int (0 : Int32)), .val (.ref a_BOTH), .val (.ref b254), .val (.int (1 : Int32))] [])) _
          refine XS.aload X265.here hx rfl (hb hby at_103) rfl rfl ?_
          show Steps p.tables e below (T265.setTop (mkF m 105 #[.val (.int i0), .val (.int i1), .val (.int (3 : Int32)), .val (.int (0 : Int32)), .val (.int (0 : Int32)), .val (.ref a_BOTH), .val (.ref b254), .val (.int (1 : Int32))] [(.ref a_BOTH)])) _
          refine XS.iloadN X265.here hx rfl (hb hby at_105) rfl ?_
          show Steps p.tables e below (T265.setTop (mkF m 106 #[.val (.int i0), .val (.int i1), .val (.int (3 : Int32)), .val (.int (0 : Int32)), .val (.int (0 : Int32)), .val (.ref a_BOTH), .val (.ref b254), .val (.int (1 : Int32))] [(.int (0 : Int32)), (.ref a_BOTH)])) _
          refine st267.trans ?_
          show Steps p.tables e below (T267.setTop (mkF m 109 #[.val (.int i0), .val (.int i1), .val (.int (3 : Int32)), .val (.int (0 : Int32)), .val (.int (0 : Int32)), .val (.ref a_BOTH), .val (.ref b254), .val (.int (1 : Int32))] [(.ref a_FROM)])) _
          refine st268.trans ?_
          show Steps p.tables e below (T268.setTop (mkF m 112 #[.val (.int i0), .val (.int i1), .val (.int (3 : Int32)), .val (.int (0 : Int32)), .val (.int (0 : Int32)), .val (.ref a_BOTH), .val (.ref b254), .val (.int (1 : Int32))] [(.int (0 : Int32))])) _
          refine XS.iloadN X268.here hx rfl (hb hby at_112) rfl ?_
          show Steps p.tables e below (T268.setTop (mkF m 113 #[.val (.int i0), .val (.int i1), .val (.int (3 : Int32)), .val (.int (0 : Int32)), .val (.int (0 : Int32)), .val (.ref a_BOTH), .val (.ref b254), .val (.int (1 : Int32))] [(.int (0 : Int32)), (.int (0 : Int32))])) _
          refine XS.icmpNo X268.here hx rfl (hb hby at_113) rfl (by decide) ?_
          show Steps p.tables e below (T268.setTop (mkF m 116 #[.val (.int i0), .val (.int i1), .val (.int (3 : Int32)), .val (.int (0 : Int32)), .val (.int (0 : Int32)), .val (.ref a_BOTH), .val (.ref b254), .val (.int (1 : Int32))] [])) _
          refine XS.aload X268.here hx rfl (hb hby at_116) rfl rfl ?_
          show Steps p.tables e below (T268.setTop (mkF m 118 #[.val (.int i0), .val (.int i1), .val (.int (3 : Int32)), .val (.int (0 : Int32)), .val (.int (0 : Int32)), .val (.ref a_BOTH), .val (.ref b254), .val (.int (1 : Int32))] [(.ref a_BOTH)])) _
          refine XS.iload X268.here hx rfl (hb hby at_118) rfl ?_
          show Steps p.tables e below (T268.setTop (mkF m 120 #[.val (.int i0), .val (.int i1), .val (.int (3 : Int32)), .val (.int (0 : Int32)), .val (.int (0 : Int32)), .val (.ref a_BOTH), .val (.ref b254), .val (.int (1 : Int32))] [(.int (0 : Int32)), (.ref a_BOTH)])) _
          refine st270.trans ?_
          show Steps p.tables e below (T270.setTop (mkF m 123 #[.val (.int i0), .val (.int i1), .val (.int (3 : Int32)), .val (.int (0 : Int32)), .val (.int (0 : Int32)), .val (.ref a_BOTH), .val (.ref b254), .val (.int (1 : Int32))] [(.ref a_TO)])) _
          refine st271.trans ?_
          show Steps p.tables e below (T271.setTop (mkF m 126 #[.val (.int i0), .val (.int i1), .val (.int (3 : Int32)), .val (.int (0 : Int32)), .val (.int (0 : Int32)), .val (.ref a_BOTH), .val (.ref b254), .val (.int (1 : Int32))] [(.int (1 : Int32))])) _
          refine XS.iload X271.here hx rfl (hb hby at_126) rfl ?_
          show Steps p.tables e below (T271.setTop (mkF m 128 #[.val (.int i0), .val (.int i1), .val (.int (3 : Int32)), .val (.int (0 : Int32)), .val (.int (0 : Int32)), .val (.ref a_BOTH), .val (.ref b254), .val (.int (1 : Int32))] [(.int (1 : Int32)), (.int (1 : Int32))])) _
          refine XS.icmpNo X271.here hx rfl (hb hby at_128) rfl (by decide) ?_
          show Steps p.tables e below (T271.setTop (mkF m 131 #[.val (.int i0), .val (.int i1), .val (.int (3 : Int32)), .val (.int (0 : Int32)), .val (.int (0 : Int32)), .val (.ref a_BOTH), .val (.ref b254), .val (.int (1 : Int32))] [])) _
          refine XS.iconst X271.here hx rfl (hb hby at_131) ?_
          show Steps p.tables e below (T271.setTop (mkF m 132 #[.val (.int i0), .val (.int i1), .val (.int (3 : Int32)), .val (.int (0 : Int32)), .val (.int (0 : Int32)), .val (.ref a_BOTH), .val (.ref b254), .val (.int (1 : Int32))] [(.int (1 : Int32))])) _
          refine XS.goto X271.here hx rfl (pc0 := 132) (pc' := 136) rfl (hb hby at_132) (by decide) (by decide) ?_
          show Steps p.tables e below (T271.setTop (mkF m 136 #[.val (.int i0), .val (.int i1), .val (.int (3 : Int32)), .val (.int (0 : Int32)), .val (.int (0 : Int32)), .val (.ref a_BOTH), .val (.ref b254), .val (.int (1 : Int32))] [(.int (1 : Int32))])) _
          exact retN X271 hx (t := .boolean) Bd.returns (by simp) (hb hby at_136) hr
        · show QL n0 _ T271.heap _
          rw [hh271]
          exact ⟨rfl, N271⟩
      · skip
        obtain ⟨T273, X273, e273, st273⟩ := getS2 X0 hx hZ hown (host := "") (Or.inl (hw _ (List.mem_of_getElem? (i := 37) rfl))) Via.refl e0 (Sta.ext O0.2 S_a_BOTH) (g := (mkF m 61 #[.val (.int i0), .val (.int i1), .val (.int (3 : Int32)), .val (.int (0 : Int32)), .val (.int (1 : Int32)), .unset, .unset, .unset] [])) rfl (hb hby at_61)
        obtain ⟨T274, h274, k274, X274, e274, E274, A274, st274⟩ := newP X273 hx hZ (hw _ (List.mem_of_getElem? (i := 3) rfl)) e273 (g := (mkF m 67 #[.val (.int i0), .val (.int i1), .val (.int (3 : Int32)), .val (.int (0 : Int32)), .val (.int (1 : Int32)), .val (.ref a_BOTH), .unset, .unset] [(.int (4 : Int32))])) rfl (hb hby at_67) rfl (by decide) (cap := 4) (by decide) (by decide) (by decide) (by decide)
        obtain ⟨b274, g274⟩ : ∃ z, z = h0.size := ⟨_, rfl⟩
        rw [← g274] at A274 st274
        have gb274 : n0 ≤ b274 := by rw [g274, ← O0.1]; exact O0.2.1
        have ne274_a_BOTH : a_BOTH ≠ b274 := by rw [g274]; exact Nat.ne_of_lt ((Exa.ext O0.2 X_a_BOTH)).lt
        have ne274_a_FROM : a_FROM ≠ b274 := by rw [g274]; exact Nat.ne_of_lt ((Exa.ext O0.2 X_a_FROM)).lt
        have ne274_a_NONE : a_NONE ≠ b274 := by rw [g274]; exact Nat.ne_of_lt ((Exa.ext O0.2 X_a_NONE)).lt
        have ne274_a_TO : a_TO ≠ b274 := by rw [g274]; exact Nat.ne_of_lt ((Exa.ext O0.2 X_a_TO)).lt
        have V274 : Arv Z h274 b274 k274 .boolean (4 : Int32) [(.int (0 : Int32)), (.int (0 : Int32)), (.int (0 : Int32)), (.int (0 : Int32))] (.int (0 : Int32)) := (Arv.new A274 (by decide)).pad (pad_rep [] (.int (0 : Int32)) 4)
        obtain ⟨cl275, Ar275, q275, S275, N275_, H275, G275⟩ := V274
        have hin275 : ¬ ((0 : Int32) < 0 ∨ cl275.slots.size ≤ ((0 : Int32)).toNatClampNeg) := inb_of S275 ⟨by decide, by decide⟩
        obtain ⟨T276, h276, X276, e276, W276, st276⟩ := stZ X274 hx hZ e274 Ar275 (j := (0 : Int32)) hin275 (g := (mkF m 72 #[.val (.int i0), .val (.int i1), .val (.int (3 : Int32)), .val (.int (0 : Int32)), .val (.int (1 : Int32)), .val (.ref a_BOTH), .unset, .unset] [(.int (0 : Int32)), (.int (0 : Int32)), (.ref b274), (.ref b274)])) rfl rfl (hb hby at_72)
        have V276 : Arv Z h276 b274 k274 .boolean (4 : Int32) [(.int (0 : Int32)), (.int (0 : Int32)), (.int (0 : Int32)), (.int (0 : Int32))] (.int (0 : Int32)) := Arv.set Ar275 q275 S275 N275_ H275 G275 (fits_nar_bool _) W276 0 rfl (Nat.le_of_ble_eq_true rfl)
        have N276 := Fr.snoc X276 N0 gb274
        obtain ⟨cl277, Ar277, q277, S277, N277_, H277, G277⟩ := V276
        have hin277 : ¬ ((1 : Int32) < 0 ∨ cl277.slots.size ≤ ((1 : Int32)).toNatClampNeg) := inb_of S277 ⟨by decide, by decide⟩
        obtain ⟨T278, h278, X278, e278, W278, st278⟩ := stZ X276 hx hZ e276 Ar277 (j := (1 : Int32)) hin277 (g := (mkF m 76 #[.val (.int i0), .val (.int i1), .val (.int (3 : Int32)), .val (.int (0 : Int32)), .val (.int (1 : Int32)), .val (.ref a_BOTH), .unset, .unset] [(.int (1 : Int32)), (.int (1 : Int32)), (.ref b274), (.ref b274)])) rfl rfl (hb hby at_76)
        have V278 : Arv Z h278 b274 k274 .boolean (4 : Int32) [(.int (0 : Int32)), (.int (1 : Int32)), (.int (0 : Int32)), (.int (0 : Int32))] (.int (0 : Int32)) := Arv.set Ar277 q277 S277 N277_ H277 G277 (fits_nar_bool _) W278 1 rfl (Nat.le_of_ble_eq_true rfl)
        have N278 := Fr.snoc X278 N276 gb274
        obtain ⟨cl279, Ar279, q279, S279, N279_, H279, G279⟩ := V278
        have hin279 : ¬ ((2 : Int32) < 0 ∨ cl279.slots.size ≤ ((2 : Int32)).toNatClampNeg) := inb_of S279 ⟨by decide, by decide⟩
        obtain ⟨T280, h280, X280, e280, W280, st280⟩ := stZ X278 hx hZ e278 Ar279 (j := (2 : Int32)) hin279 (g := (mkF m 80 #[.val (.int i0), .val (.int i1), .val (.int (3 : Int32)), .val (.int (0 : Int32)), .val (.int (1 : Int32)), .val (.ref a_BOTH), .unset, .unset] [(.int (0 : Int32)), (.int (2 : Int32)), (.ref b274), (.ref b274)])) rfl rfl (hb hby at_80)
        have V280 : Arv Z h280 b274 k274 .boolean (4 : Int32) [(.int (0 : Int32)), (.int (1 : Int32)), (.int (0 : Int32)), (.int (0 : Int32))] (.int (0 : Int32)) := Arv.set Ar279 q279 S279 N279_ H279 G279 (fits_nar_bool _) W280 2 rfl (Nat.le_of_ble_eq_true rfl)
        have N280 := Fr.snoc X280 N278 gb274
        obtain ⟨cl281, Ar281, q281, S281, N281_, H281, G281⟩ := V280
        have hin281 : ¬ ((3 : Int32) < 0 ∨ cl281.slots.size ≤ ((3 : Int32)).toNatClampNeg) := inb_of S281 ⟨by decide, by decide⟩
        obtain ⟨T282, h282, X282, e282, W282, st282⟩ := stZ X280 hx hZ e280 Ar281 (j := (3 : Int32)) hin281 (g := (mkF m 84 #[.val (.int i0), .val (.int i1), .val (.int (3 : Int32)), .val (.int (0 : Int32)), .val (.int (1 : Int32)), .val (.ref a_BOTH), .unset, .unset] [(.int (1 : Int32)), (.int (3 : Int32)), (.ref b274), (.ref b274)])) rfl rfl (hb hby at_84)
        have V282 : Arv Z h282 b274 k274 .boolean (4 : Int32) [(.int (0 : Int32)), (.int (1 : Int32)), (.int (0 : Int32)), (.int (1 : Int32))] (.int (0 : Int32)) := Arv.set Ar281 q281 S281 N281_ H281 G281 (fits_nar_bool _) W282 3 rfl (Nat.le_of_ble_eq_true rfl)
        have N282 := Fr.snoc X282 N280 gb274
        obtain ⟨cl283, Ar283, q283, S283, N283_, H283, G283⟩ := V282
        have hin283 : ¬ ((3 : Int32) < 0 ∨ cl283.slots.size ≤ ((3 : Int32)).toNatClampNeg) := inb_of S283 ⟨by decide, by decide⟩
        have hat283 : cl283.slots[((3 : Int32)).toNatClampNeg]? = some (.int (1 : Int32)) := H283.at hin283 rfl
        have O284 : Old Z n0 h282 := (((((O0.ext E274).wr W276 gb274).wr W278 gb274).wr W280 gb274).wr W282 gb274)
        have f286 := ((((((Exa.ext O0.2 X_a_BOTH).ext E274).wr W276).wr W278).wr W280).wr W282)
        obtain ⟨cq285, kq285, q285a, q285b, q285c⟩ := isOf hZ e282 f286
        obtain ⟨_, _, ⟨T285, L285, k285, n285⟩, -, X285, ⟨Lc285, hQ285, l285, y285, z285⟩, st285⟩ := X282.virtualBack hx (y := (⟨"com/example/carbonfold/carbonfold/model/RosterItem$Subscription", "hasTo", "()Z"⟩ : MethodName)) (z := (⟨"com/example/carbonfold/carbonfold/model/RosterItem$Subscription", "hasTo", "()Z"⟩ : MethodName)) hown (mvT hZ (hw _ (List.mem_of_getElem? (i := 4) rfl))) (mvT hZ (hw _ (List.mem_of_getElem? (i := 5) rfl))) (notFace_of_selects (args := #[]) (mvT hZ (hw _ (List.mem_of_getElem? (i := 7) rfl)))) (mvT hZ (hw _ (List.mem_of_getElem? (i := 7) rfl))) (mvT hZ (hw _ (List.mem_of_getElem? (i := 6) rfl))) (by decide) (backOf (W := 0) (rm_hasTo_17 l Z a0 hw [] a_NONE a_TO a_BOTH a_FROM h282 n0 O284 En) hZ (hw _ (List.mem_of_getElem? (i := 8) rfl)) (hw _ (List.mem_of_getElem? (i := 1) rfl)) (by decide) (by decide)) q285a q285c (g := (mkF m 95 #[.val (.int i0), .val (.int i1), .val (.int (3 : Int32)), .val (.int (0 : Int32)), .val (.int (1 : Int32)), .val (.ref a_BOTH), .val (.ref b274), .val (.int (1 : Int32))] [(.ref a_BOTH)])) rfl (by rw [hml]; rfl) (Steps.refl _) (argsL := []) (rest := []) (lenOf pd_0 rfl) rfl (by show 2 * 0 + _ ≤ _; exact Nat.le_of_eq rfl) (hb hby at_95) (fun _ _ => ⟨rfl, e282, (by decide : 1 + 0 ≤ _), (by decide : 4 + 0 ≤ _)⟩)
        dsimp only [Pt.U, Pt.locs, Pt.cells, Pt.slots] at X285 l285 y285 z285 st285 hQ285
        subst l285 y285 z285
        obtain ⟨rfl, N285q, hh285⟩ := hQ285
        have N285 := Fr.app N282 N285q
        obtain ⟨cq287, kq287, q287a, q287b, q287c⟩ := isOf hZ hh285 f286
        obtain ⟨_, _, ⟨T287, L287, k287, n287⟩, -, X287, ⟨Lc287, hQ287, l287, y287, z287⟩, st287⟩ := X285.virtualBack hx (y := (⟨"com/example/carbonfold/carbonfold/model/RosterItem$Subscription", "withTo", "(Z)Lcom/example/carbonfold/carbonfold/model/RosterItem$Subscription;"⟩ : MethodName)) (z := (⟨"com/example/carbonfold/carbonfold/model/RosterItem$Subscription", "withTo", "(Z)Lcom/example/carbonfold/carbonfold/model/RosterItem$Subscription;"⟩ : MethodName)) hown (mvT hZ (hw _ (List.mem_of_getElem? (i := 13) rfl))) (mvT hZ (hw _ (List.mem_of_getElem? (i := 14) rfl))) (notFace_of_selects (args := #[]) (mvT hZ (hw _ (List.mem_of_getElem? (i := 16) rfl)))) (mvT hZ (hw _ (List.mem_of_getElem? (i := 16) rfl))) (mvT hZ (hw _ (List.mem_of_getElem? (i := 15) rfl))) (by decide) (backOf (W := 0) (rm_withTo_24 l Z a0 hw [] a_NONE a_TO a_BOTH a_FROM h282 n0 O284 En) hZ (hw _ (List.mem_of_getElem? (i := 17) rfl)) (hw _ (List.mem_of_getElem? (i := 1) rfl)) (by decide) (by decide)) q287a q287c (g := (mkF m 106 #[.val (.int i0), .val (.int i1), .val (.int (3 : Int32)), .val (.int (0 : Int32)), .val (.int (1 : Int32)), .val (.ref a_BOTH), .val (.ref b274), .val (.int (1 : Int32))] [(.int (0 : Int32)), (.ref a_BOTH)])) rfl (by rw [hml]; rfl) (Steps.refl _) (argsL := [(.int (0 : Int32))]) (rest := []) (lenOf pd_2 rfl) rfl (by show 2 * 0 + _ ≤ _; exact Nat.le_of_eq rfl) (hb hby at_106) (fun _ _ => ⟨rfl, hh285, (by decide : 1 + 0 ≤ _), (by decide : 4 + 0 ≤ _)⟩)
        dsimp only [Pt.U, Pt.locs, Pt.cells, Pt.slots] at X287 l287 y287 z287 st287 hQ287
        subst l287 y287 z287
        obtain ⟨rfl, N287q, hh287⟩ := hQ287
        have N287 := Fr.app N285 N287q
        have f289 := ((((((Exa.ext O0.2 X_a_FROM).ext E274).wr W276).wr W278).wr W280).wr W282)
        obtain ⟨cq288, kq288, q288a, q288b, q288c⟩ := isOf hZ hh287 f289
        obtain ⟨_, _, ⟨T288, L288, k288, n288⟩, -, X288, ⟨Lc288, hQ288, l288, y288, z288⟩, st288⟩ := X287.virtualBack hx (y := (⟨"com/example/carbonfold/carbonfold/model/RosterItem$Subscription", "hasTo", "()Z"⟩ : MethodName)) (z := (⟨"com/example/carbonfold/carbonfold/model/RosterItem$Subscription", "hasTo", "()Z"⟩ : MethodName)) hown (mvT hZ (hw _ (List.mem_of_getElem? (i := 4) rfl))) (mvT hZ (hw _ (List.mem_of_getElem? (i := 5) rfl))) (notFace_of_selects (args := #[]) (mvT hZ (hw _ (List.mem_of_getElem? (i := 7) rfl)))) (mvT hZ (hw _ (List.mem_of_getElem? (i := 7) rfl))) (mvT hZ (hw _ (List.mem_of_getElem? (i := 6) rfl))) (by decide) (backOf (W := 0) (rm_hasTo_8 l Z a0 hw [] a_NONE a_TO a_BOTH a_FROM h282 n0 O284 En) hZ (hw _ (List.mem_of_getElem? (i := 8) rfl)) (hw _ (List.mem_of_getElem? (i := 1) rfl)) (by decide) (by decide)) q288a q288c (g := (mkF m 109 #[.val (.int i0), .val (.int i1), .val (.int (3 : Int32)), .val (.int (0 : Int32)), .val (.int (1 : Int32)), .val (.ref a_BOTH), .val (.ref b274), .val (.int (1 : Int32))] [(.ref a_FROM)])) rfl (by rw [hml]; rfl) (Steps.refl _) (argsL := []) (rest := []) (lenOf pd_0 rfl) rfl (by show 2 * 0 + _ ≤ _; exact Nat.le_of_eq rfl) (hb hby at_109) (fun _ _ => ⟨rfl, hh287, (by decide : 1 + 0 ≤ _), (by decide : 4 + 0 ≤ _)⟩)
        dsimp only [Pt.U, Pt.locs, Pt.cells, Pt.slots] at X288 l288 y288 z288 st288 hQ288
        subst l288 y288 z288
        obtain ⟨rfl, N288q, hh288⟩ := hQ288
        have N288 := Fr.app N287 N288q
        obtain ⟨cq290, kq290, q290a, q290b, q290c⟩ := isOf hZ hh288 f286
        obtain ⟨_, _, ⟨T290, L290, k290, n290⟩, -, X290, ⟨Lc290, hQ290, l290, y290, z290⟩, st290⟩ := X288.virtualBack hx (y := (⟨"com/example/carbonfold/carbonfold/model/RosterItem$Subscription", "withFrom", "(Z)Lcom/example/carbonfold/carbonfold/model/RosterItem$Subscription;"⟩ : MethodName)) (z := (⟨"com/example/carbonfold/carbonfold/model/RosterItem$Subscription", "withFrom", "(Z)Lcom/example/carbonfold/carbonfold/model/RosterItem$Subscription;"⟩ : MethodName)) hown (mvT hZ (hw _ (List.mem_of_getElem? (i := 28) rfl))) (mvT hZ (hw _ (List.mem_of_getElem? (i := 29) rfl))) (notFace_of_selects (args := #[]) (mvT hZ (hw _ (List.mem_of_getElem? (i := 31) rfl)))) (mvT hZ (hw _ (List.mem_of_getElem? (i := 31) rfl))) (mvT hZ (hw _ (List.mem_of_getElem? (i := 30) rfl))) (by decide) (backOf (W := 0) (rm_withFrom_27 l Z a0 hw [] a_NONE a_TO a_BOTH a_FROM h282 n0 O284 En) hZ (hw _ (List.mem_of_getElem? (i := 32) rfl)) (hw _ (List.mem_of_getElem? (i := 1) rfl)) (by decide) (by decide)) q290a q290c (g := (mkF m 120 #[.val (.int i0), .val (.int i1), .val (.int (3 : Int32)), .val (.int (0 : Int32)), .val (.int (1 : Int32)), .val (.ref a_BOTH), .val (.ref b274), .val (.int (1 : Int32))] [(.int (1 : Int32)), (.ref a_BOTH)])) rfl (by rw [hml]; rfl) (Steps.refl _) (argsL := [(.int (1 : Int32))]) (rest := []) (lenOf pd_2 rfl) rfl (by show 2 * 0 + _ ≤ _; exact Nat.le_of_eq rfl) (hb hby at_120) (fun _ _ => ⟨rfl, hh288, (by decide : 1 + 0 ≤ _), (by decide : 4 + 0 ≤ _)⟩)
        dsimp only [Pt.U, Pt.locs, Pt.cells, Pt.slots] at X290 l290 y290 z290 st290 hQ290
        subst l290 y290 z290
        obtain ⟨rfl, N290q, hh290⟩ := hQ290
        have N290 := Fr.app N288 N290q
        obtain ⟨cq291, kq291, q291a, q291b, q291c⟩ := isOf hZ hh290 f286
        obtain ⟨_, _, ⟨T291, L291, k291, n291⟩, -, X291, ⟨Lc291, hQ291, l291, y291, z291⟩, st291⟩ := X290.virtualBack hx (y := (⟨"com/example/carbonfold/carbonfold/model/RosterItem$Subscription", "hasTo", "()Z"⟩ : MethodName)) (z := (⟨"com/example/carbonfold/carbonfold/model/RosterItem$Subscription", "hasTo", "()Z"⟩ : MethodName)) hown (mvT hZ (hw _ (List.mem_of_getElem? (i := 4) rfl))) (mvT hZ (hw _ (List.mem_of_getElem? (i := 5) rfl))) (notFace_of_selects (args := #[]) (mvT hZ (hw _ (List.mem_of_getElem? (i := 7) rfl)))) (mvT hZ (hw _ (List.mem_of_getElem? (i := 7) rfl))) (mvT hZ (hw _ (List.mem_of_getElem? (i := 6) rfl))) (by decide) (backOf (W := 0) (rm_hasTo_17 l Z a0 hw [] a_NONE a_TO a_BOTH a_FROM h282 n0 O284 En) hZ (hw _ (List.mem_of_getElem? (i := 8) rfl)) (hw _ (List.mem_of_getElem? (i := 1) rfl)) (by decide) (by decide)) q291a q291c (g := (mkF m 123 #[.val (.int i0), .val (.int i1), .val (.int (3 : Int32)), .val (.int (0 : Int32)), .val (.int (1 : Int32)), .val (.ref a_BOTH), .val (.ref b274), .val (.int (1 : Int32))] [(.ref a_BOTH)])) rfl (by rw [hml]; rfl) (Steps.refl _) (argsL := []) (rest := []) (lenOf pd_0 rfl) rfl (by show 2 * 0 + _ ≤ _; exact Nat.le_of_eq rfl) (hb hby at_123) (fun _ _ => ⟨rfl, hh290, (by decide : 1 + 0 ≤ _), (by decide : 4 + 0 ≤ _)⟩)
        dsimp only [Pt.U, Pt.locs, Pt.cells, Pt.slots] at X291 l291 y291 z291 st291 hQ291
        subst l291 y291 z291
        obtain ⟨rfl, N291q, hh291⟩ := hQ291
        have N291 := Fr.app N290 N291q
        obtain ⟨fs, hr, hrun, hended, hW, hsame⟩ := X291.leave (v := some (.int (1 : Int32))) (fun h => by rw [Bd.returns] at h; cases h)
        refine ⟨_, _, pre251 _ ?_, hrun, hended, _, _, rfl, ?_, ⟨_, rfl⟩, hW, hsame.mono (by decide) (by decide)⟩
        · skip
          show Steps p.tables e below (s₁.setTop (mkF m 19 #[.val (.int i0), .val (.int i1), .val (.int (3 : Int32)), .val (.int (0 : Int32)), .unset, .unset, .unset, .unset] [(.int (i1 &&& (2 : Int32)))])) _
          rw [hk252]
          show Steps p.tables e below (s₁.setTop (mkF m 19 #[.val (.int i0), .val (.int i1), .val (.int (3 : Int32)), .val (.int (0 : Int32)), .unset, .unset, .unset, .unset] [(.int (2 : Int32))])) _
          refine XS.ifNo X0.here hx rfl (hb hby at_19) rfl (by decide) ?_
          show Steps p.tables e below (s₁.setTop (mkF m 22 #[.val (.int i0), .val (.int i1), .val (.int (3 : Int32)), .val (.int (0 : Int32)), .unset, .unset, .unset, .unset] [])) _
          refine XS.iconst X0.here hx rfl (hb hby at_22) ?_
          show Steps p.tables e below (s₁.setTop (mkF m 23 #[.val (.int i0), .val (.int i1), .val (.int (3 : Int32)), .val (.int (0 : Int32)), .unset, .unset, .unset, .unset] [(.int (1 : Int32))])) _
          refine XS.goto X0.here hx rfl (pc0 := 23) (pc' := 27) rfl (hb hby at_23) (by decide) (by decide) ?_
          show Steps p.tables e below (s₁.setTop (mkF m 27 #[.val (.int i0), .val (.int i1), .val (.int (3 : Int32)), .val (.int (0 : Int32)), .unset, .unset, .unset, .unset] [(.int (1 : Int32))])) _
          refine XS.istore X0.here hx rfl (hb hby at_27) rfl (l' := #[.val (.int i0), .val (.int i1), .val (.int (3 : Int32)), .val (.int (0 : Int32)), .val (.int (1 : Int32)), .unset, .unset, .unset]) rfl ?_
          show Steps p.tables e below (s₁.setTop (mkF m 29 #[.val (.int i0), .val (.int i1), .val (.int (3 : Int32)), .val (.int (0 : Int32)), .val (.int (1 : Int32)), .unset, .unset, .unset] [])) _
          refine XS.iloadN X0.here hx rfl (hb hby at_29) rfl ?_
          show Steps p.tables e below (s₁.setTop (mkF m 30 #[.val (.int i0), .val (.int i1), .val (.int (3 : Int32)), .val (.int (0 : Int32)), .val (.int (1 : Int32)), .unset, .unset, .unset] [(.int (3 : Int32))])) _
          refine XS.ifYes X0.here hx rfl (pc0 := 30) (pc' := 39) rfl (hb hby at_30) rfl (by decide) (by decide) (by decide) ?_
          show Steps p.tables e below (s₁.setTop (mkF m 39 #[.val (.int i0), .val (.int i1), .val (.int (3 : Int32)), .val (.int (0 : Int32)), .val (.int (1 : Int32)), .unset, .unset, .unset] [])) _
          refine XS.iloadN X0.here hx rfl (hb hby at_39) rfl ?_
          show Steps p.tables e below (s₁.setTop (mkF m 40 #[.val (.int i0), .val (.int i1), .val (.int (3 : Int32)), .val (.int (0 : Int32)), .val (.int (1 : Int32)), .unset, .unset, .unset] [(.int (3 : Int32))])) _
          refine XS.iconst X0.here hx rfl (hb hby at_40) ?_
          show Steps p.tables e below (s₁.setTop (mkF m 41 #[.val (.int i0), .val (.int i1), .val (.int (3 : Int32)), .val (.int (0 : Int32)), .val (.int (1 : Int32)), .unset, .unset, .unset] [(.int (1 : Int32)), (.int (3 : Int32))])) _
          refine XS.icmpYes X0.here hx rfl (pc0 := 41) (pc' := 50) rfl (hb hby at_41) rfl (by decide) (by decide) (by decide) ?_
          show Steps p.tables e below (s₁.setTop (mkF m 50 #[.val (.int i0), .val (.int i1), .val (.int (3 : Int32)), .val (.int (0 : Int32)), .val (.int (1 : Int32)), .unset, .unset, .unset] [])) _
          refine XS.iloadN X0.here hx rfl (hb hby at_50) rfl ?_
          show Steps p.tables e below (s₁.setTop (mkF m 51 #[.val (.int i0), .val (.int i1), .val (.int (3 : Int32)), .val (.int (0 : Int32)), .val (.int (1 : Int32)), .unset, .unset, .unset] [(.int (3 : Int32))])) _
          refine XS.iconst X0.here hx rfl (hb hby at_51) ?_
          show Steps p.tables e below (s₁.setTop (mkF m 52 #[.val (.int i0), .val (.int i1), .val (.int (3 : Int32)), .val (.int (0 : Int32)), .val (.int (1 : Int32)), .unset, .unset, .unset] [(.int (2 : Int32)), (.int (3 : Int32))])) _
          refine XS.icmpYes X0.here hx rfl (pc0 := 52) (pc' := 61) rfl (hb hby at_52) rfl (by decide) (by decide) (by decide) ?_
          show Steps p.tables e below (s₁.setTop (mkF m 61 #[.val (.int i0), .val (.int i1), .val (.int (3 : Int32)), .val (.int (0 : Int32)), .val (.int (1 : Int32)), .unset, .unset, .unset] [])) _
          refine st273 _ ?_
          show Steps p.tables e below (T273.setTop (mkF m 64 #[.val (.int i0), .val (.int i1), .val (.int (3 : Int32)), .val (.int (0 : Int32)), .val (.int (1 : Int32)), .unset, .unset, .unset] [(.ref a_BOTH)])) _
          refine XS.astore X273.here hx rfl (hb hby at_64) rfl rfl (l' := #[.val (.int i0), .val (.int i1), .val (.int (3 : Int32)), .val (.int (0 : Int32)), .val (.int (1 : Int32)), .val (.ref a_BOTH), .unset, .unset]) rfl ?_
          show Steps p.tables e below (T273.setTop (mkF m 66 #[.val (.int i0), .val (.int i1), .val (.int (3 : Int32)), .val (.int (0 : Int32)), .val (.int (1 : Int32)), .val (.ref a_BOTH), .unset, .unset] [])) _
          refine XS.iconst X273.here hx rfl (hb hby at_66) ?_
          show Steps p.tables e below (T273.setTop (mkF m 67 #[.val (.int i0), .val (.int i1), .val (.int (3 : Int32)), .val (.int (0 : Int32)), .val (.int (1 : Int32)), .val (.ref a_BOTH), .unset, .unset] [(.int (4 : Int32))])) _
          refine st274 _ ?_
          show Steps p.tables e below (T274.setTop (mkF m 69 #[.val (.int i0), .val (.int i1), .val (.int (3 : Int32)), .val (.int (0 : Int32)), .val (.int (1 : Int32)), .val (.ref a_BOTH), .unset, .unset] [(.ref b274)])) _
          refine XS.dup X274.here hx rfl (hb hby at_69) rfl rfl ?_
          show Steps p.tables e below (T274.setTop (mkF m 70 #[.val (.int i0), .val (.int i1), .val (.int (3 : Int32)), .val (.int (0 : Int32)), .val (.int (1 : Int32)), .val (.ref a_BOTH), .unset, .unset] [(.ref b274), (.ref b274)])) _
          refine XS.iconst X274.here hx rfl (hb hby at_70) ?_
          show Steps p.tables e below (T274.setTop (mkF m 71 #[.val (.int i0), .val (.int i1), .val (.int (3 : Int32)), .val (.int (0 : Int32)), .val (.int (1 : Int32)), .val (.ref a_BOTH), .unset, .unset] [(.int (0 : Int32)), (.ref b274), (.ref b274)])) _
          refine XS.iconst X274.here hx rfl (hb hby at_71) ?_
          show Steps p.tables e below (T274.setTop (mkF m 72 #[.val (.int i0), .val (.int i1), .val (.int (3 : Int32)), .val (.int (0 : Int32)), .val (.int (1 : Int32)), .val (.ref a_BOTH), .unset, .unset] [(.int (0 : Int32)), (.int (0 : Int32)), (.ref b274), (.ref b274)])) _
          refine st276 _ ?_
          show Steps p.tables e below (T276.setTop (mkF m 73 #[.val (.int i0), .val (.int i1), .val (.int (3 : Int32)), .val (.int (0 : Int32)), .val (.int (1 : Int32)), .val (.ref a_BOTH), .unset, .unset] [(.ref b274)])) _
          refine XS.dup X276.here hx rfl (hb hby at_73) rfl rfl ?_
          show Steps p.tables e below (T276.setTop (mkF m 74 #[.val (.int i0), .val (.int i1), .val (.int (3 : Int32)), .val (.int (0 : Int32)), .val (.int (1 : Int32)), .val (.ref a_BOTH), .unset, .unset] [(.ref b274), (.ref b274)])) _
          refine XS.iconst X276.here hx rfl (hb hby at_74) ?_
          show Steps p.tables e below (T276.setTop (mkF m 75 #[.val (.int i0), .val (.int i1), .val (.int (3 : Int32)), .val (.int (0 : Int32)), .val (.int (1 : Int32)), .val (.ref a_BOTH), .unset, .unset] [(.int (1 : Int32)), (.ref b274), (.ref b274)])) _
          refine XS.iconst X276.here hx rfl (hb hby at_75) ?_
          show Steps p.tables e below (T276.setTop (mkF m 76 #[.val (.int i0), .val (.int i1), .val (.int (3 : Int32)), .val (.int (0 : Int32)), .val (.int (1 : Int32)), .val (.ref a_BOTH), .unset, .unset] [(.int (1 : Int32)), (.int (1 : Int32)), (.ref b274), (.ref b274)])) _
          refine st278 _ ?_
          show Steps p.tables e below (T278.setTop (mkF m 77 #[.val (.int i0), .val (.int i1), .val (.int (3 : Int32)), .val (.int (0 : Int32)), .val (.int (1 : Int32)), .val (.ref a_BOTH), .unset, .unset] [(.ref b274)])) _
          refine XS.dup X278.here hx rfl (hb hby at_77) rfl rfl ?_
          show Steps p.tables e below (T278.setTop (mkF m 78 #[.val (.int i0), .val (.int i1), .val (.int (3 : Int32)), .val (.int (0 : Int32)), .val (.int (1 : Int32)), .val (.ref a_BOTH), .unset, .unset] [(.ref b274), (.ref b274)])) _
          refine XS.iconst X278.here hx rfl (hb hby at_78) ?_
          show Steps p.tables e below (T278.setTop (mkF m 79 #[.val (.int i0), .val (.int i1), .val (.int (3 : Int32)), .val (.int (0 : Int32)), .val (.int (1 : Int32)), .val (.ref a_BOTH), .unset, .unset] [(.int (2 : Int32)), (.ref b274), (.ref b274)])) _
          refine XS.iconst X278.here hx rfl (hb hby at_79) ?_
          show Steps p.tables e below (T278.setTop (mkF m 80 #[.val (.int i0), .val (.int i1), .val (.int (3 : Int32)), .val (.int (0 : Int32)), .val (.int (1 : Int32)), .val (.ref a_BOTH), .unset, .unset] [(.int (0 : Int32)), (.int (2 : Int32)), (.ref b274), (.ref b274)])) _
          refine st280 _ ?_
          show Steps p.tables e below (T280.setTop (mkF m 81 #[.val (.int i0), .val (.int i1), .val (.int (3 : Int32)), .val (.int (0 : Int32)), .val (.int (1 : Int32)), .val (.ref a_BOTH), .unset, .unset] [(.ref b274)])) _
          refine XS.dup X280.here hx rfl (hb hby at_81) rfl rfl ?_
          show Steps p.tables e below (T280.setTop (mkF m 82 #[.val (.int i0), .val (.int i1), .val (.int (3 : Int32)), .val (.int (0 : Int32)), .val (.int (1 : Int32)), .val (.ref a_BOTH), .unset, .unset] [(.ref b274), (.ref b274)])) _
          refine XS.iconst X280.here hx rfl (hb hby at_82) ?_
          show Steps p.tables e below (T280.setTop (mkF m 83 #[.val (.int i0), .val (.int i1), .val (.int (3 : Int32)), .val (.int (0 : Int32)), .val (.int (1 : Int32)), .val (.ref a_BOTH), .unset, .unset] [(.int (3 : Int32)), (.ref b274), (.ref b274)])) _
          refine XS.iconst X280.here hx rfl (hb hby at_83) ?_
          show Steps p.tables e below (T280.setTop (mkF m 84 #[.val (.int i0), .val (.int i1), .val (.int (3 : Int32)), .val (.int (0 : Int32)), .val (.int (1 : Int32)), .val (.ref a_BOTH), .unset, .unset] [(.int (1 : Int32)), (.int (3 : Int32)), (.ref b274), (.ref b274)])) _
          refine st282 _ ?_
          show Steps p.tables e below (T282.setTop (mkF m 85 #[.val (.int i0), .val (.int i1), .val (.int (3 : Int32)), .val (.int (0 : Int32)), .val (.int (1 : Int32)), .val (.ref a_BOTH), .unset, .unset] [(.ref b274)])) _
          refine XS.astore X282.here hx rfl (hb hby at_85) rfl rfl (l' := #[.val (.int i0), .val (.int i1), .val (.int (3 : Int32)), .val (.int (0 : Int32)), .val (.int (1 : Int32)), .val (.ref a_BOTH), .val (.ref b274), .unset]) rfl ?_
          show Steps p.tables e below (T282.setTop (mkF m 87 #[.val (.int i0), .val (.int i1), .val (.int (3 : Int32)), .val (.int (0 : Int32)), .val (.int (1 : Int32)), .val (.ref a_BOTH), .val (.ref b274), .unset] [])) _
          refine XS.aload X282.here hx rfl (hb hby at_87) rfl rfl ?_
          show Steps p.tables e below (T282.setTop (mkF m 89 #[.val (.int i0), .val (.int i1), .val (.int (3 : Int32)), .val (.int (0 : Int32)), .val (.int (1 : Int32)), .val (.ref a_BOTH), .val (.ref b274), .unset] [(.ref b274)])) _
          refine XS.iloadN X282.here hx rfl (hb hby at_89) rfl ?_
          show Steps p.tables e below (T282.setTop (mkF m 90 #[.val (.int i0), .val (.int i1), .val (.int (3 : Int32)), .val (.int (0 : Int32)), .val (.int (1 : Int32)), .val (.ref a_BOTH), .val (.ref b274), .unset] [(.int (3 : Int32)), (.ref b274)])) _
          refine X282.baloadBooleans hx (j := (3 : Int32)) (v := (.int (1 : Int32))) (by rw [e282]; exact Ar283.1) (State.isArrayOf_alike hZ.alike Ar283.2.1) Ar283.2.2 hin283 hat283 (g := (mkF m 90 #[.val (.int i0), .val (.int i1), .val (.int (3 : Int32)), .val (.int (0 : Int32)), .val (.int (1 : Int32)), .val (.ref a_BOTH), .val (.ref b274), .unset] [(.int (3 : Int32)), (.ref b274)])) rfl rfl (hb hby at_90) _ ?_
          show Steps p.tables e below (T282.setTop (mkF m 91 #[.val (.int i0), .val (.int i1), .val (.int (3 : Int32)), .val (.int (0 : Int32)), .val (.int (1 : Int32)), .val (.ref a_BOTH), .val (.ref b274), .unset] [(.int (1 : Int32))])) _
          refine XS.istore X282.here hx rfl (hb hby at_91) rfl (l' := #[.val (.int i0), .val (.int i1), .val (.int (3 : Int32)), .val (.int (0 : Int32)), .val (.int (1 : Int32)), .val (.ref a_BOTH), .val (.ref b274), .val (.int (1 : Int32))]) rfl ?_
          show Steps p.tables e below (T282.setTop (mkF m 93 #[.val (.int i0), .val (.int i1), .val (.int (3 : Int32)), .val (.int (0 : Int32)), .val (.int (1 : Int32)), .val (.ref a_BOTH), .val (.ref b274), .val (.int (1 : Int32))] [])) _
          refine XS.aload X282.here hx rfl (hb hby at_93) rfl rfl ?_
          show Steps p.tables e below (T282.setTop (mkF m 95 #[.val (.int i0), .val (.int i1), .val (.int (3 : Int32)), .val (.int (0 : Int32)), .val (.int (1 : Int32)), .val (.ref a_BOTH), .val (.ref b274), .val (.int (1 : Int32))] [(.ref a_BOTH)])) _
          refine st285.trans ?_
          show Steps p.tables e below (T285.setTop (mkF m 98 #[.val (.int i0), .val (.int i1), .val (.int (3 : Int32)), .val (.int (0 : Int32)), .val (.int (1 : Int32)), .val (.ref a_BOTH), .val (.ref b274), .val (.int (1 : Int32))] [(.int (1 : Int32))])) _
          refine XS.iload X285.here hx rfl (hb hby at_98) rfl ?_
          show Steps p.tables e below (T285.setTop (mkF m 100 #[.val (.int i0), .val (.int i1), .val (.int (3 : Int32)), .val (.int (0 : Int32)), .val (.int (1 : Int32)), .val (.ref a_BOTH), .val (.ref b274), .val (.int (1 : Int32))] [(.int (1 : Int32)), (.int (1 : Int32))])) _
          refine XS.icmpNo X285.here hx rfl (hb hby at_100) rfl (by decide) ?_
          show Steps p.tables e below (T285.setTop (mkF m 103 #[.val (.int i0), .val (.int i1), .val (.int (3 : Int32)), .val (.int (0 : Int32)), .val (.int (1 : Int32)), .val (.ref a_BOTH), .val (.ref b274), .val (.int (1 : Int32))] [])) _
          refine XS.aload X285.here hx rfl (hb hby at_103) rfl rfl ?_
          show Steps p.tables e below (T285.setTop (mkF m 105 #[.val (.int i0), .val (.int i1), .val (.int (3 : Int32)), .val (.int (0 : Int32)), .val (.int (1 : Int32)), .val (.ref a_BOTH), .val (.ref b274), .val (.int (1 : Int32))] [(.ref a_BOTH)])) _
          refine XS.iloadN X285.here hx rfl (hb hby at_105) rfl ?_
          show Steps p.tables e below (T285.setTop (mkF m 106 #[.val (.int i0), .val (.int i1), .val (.int (3 : Int32)), .val (.int (0 : Int32)), .val (.int (1 : Int32)), .val (.ref a_BOTH), .val (.ref b274), .val (.int (1 : Int32))] [(.int (0 : Int32)), (.ref a_BOTH)])) _
          refine st287.trans ?_
          show Steps p.tables e below (T287.setTop (mkF m 109 #[.val (.int i0), .val (.int i1), .val (.int (3 : Int32)), .val (.int (0 : Int32)), .val (.int (1 : Int32)), .val (.ref a_BOTH), .val (.ref b274), .val (.int (1 : Int32))] [(.ref a_FROM)])) _
          refine st288.trans ?_
          show Steps p.tables e below (T288.setTop (mkF m 112 #[.val (.int i0), .val (.int i1), .val (.int (3 : Int32)), .val (.int (0 : Int32)), .val (.int (1 : Int32)), .val (.ref a_BOTH), .val (.ref b274), .val (.int (1 : Int32))] [(.int (0 : Int32))])) _
          refine XS.iloadN X288.here hx rfl (hb hby at_112) rfl ?_
          show Steps p.tables e below (T288.setTop (mkF m 113 #[.val (.int i0), .val (.int i1), .val (.int (3 : Int32)), .val (.int (0 : Int32)), .val (.int (1 : Int32)), .val (.ref a_BOTH), .val (.ref b274), .val (.int (1 : Int32))] [(.int (0 : Int32)), (.int (0 : Int32))])) _
          refine XS.icmpNo X288.here hx rfl (hb hby at_113) rfl (by decide) ?_
          show Steps p.tables e below (T288.setTop (mkF m 116 #[.val (.int i0), .val (.int i1), .val (.int (3 : Int32)), .val (.int (0 : Int32)), .val (.int (1 : Int32)), .val (.ref a_BOTH), .val (.ref b274), .val (.int (1 : Int32))] [])) _
          refine XS.aload X288.here hx rfl (hb hby at_116) rfl rfl ?_
          show Steps p.tables e below (T288.setTop (mkF m 118 #[.val (.int i0), .val (.int i1), .val (.int (3 : Int32)), .val (.int (0 : Int32)), .val (.int (1 : Int32)), .val (.ref a_BOTH), .val (.ref b274), .val (.int (1 : Int32))] [(.ref a_BOTH)])) _
          refine XS.iload X288.here hx rfl (hb hby at_118) rfl ?_
          show Steps p.tables e below (T288.setTop (mkF m 120 #[.val (.int i0), .val (.int i1), .val (.int (3 : Int32)), .val (.int (0 : Int32)), .val (.int (1 : Int32)), .val (.ref a_BOTH), .val (.ref b274), .val (.int (1 : Int32))] [(.int (1 : Int32)), (.ref a_BOTH)])) _
          refine st290.trans ?_
          show Steps p.tables e below (T290.setTop (mkF m 123 #[.val (.int i0), .val (.int i1), .val (.int (3 : Int32)), .val (.int (0 : Int32)), .val (.int (1 : Int32)), .val (.ref a_BOTH), .val (.ref b274), .val (.int (1 : Int32))] [(.ref a_BOTH)])) _
          refine st291.trans ?_
          show Steps p.tables e below (T291.setTop (mkF m 126 #[.val (.int i0), .val (.int i1), .val (.int (3 : Int32)), .val (.int (0 : Int32)), .val (.int (1 : Int32)), .val (.ref a_BOTH), .val (.ref b274), .val (.int (1 : Int32))] [(.int (1 : Int32))])) _
          refine XS.iload X291.here hx rfl (hb hby at_126) rfl ?_
          show Steps p.tables e below (T291.setTop (mkF m 128 #[.val (.int i0), .val (.int i1), .val (.int (3 : Int32)), .val (.int (0 : Int32)), .val (.int (1 : Int32)), .val (.ref a_BOTH), .val (.ref b274), .val (.int (1 : Int32))] [(.int (1 : Int32)), (.int (1 : Int32))])) _
          refine XS.icmpNo X291.here hx rfl (hb hby at_128) rfl (by decide) ?_
          show Steps p.tables e below (T291.setTop (mkF m 131 #[.val (.int i0), .val (.int i1), .val (.int (3 : Int32)), .val (.int (0 : Int32)), .val (.int (1 : Int32)), .val (.ref a_BOTH), .val (.ref b274), .val (.int (1 : Int32))] [])) _
          refine XS.iconst X291.here hx rfl (hb hby at_131) ?_
          show Steps p.tables e below (T291.setTop (mkF m 132 #[.val (.int i0), .val (.int i1), .val (.int (3 : Int32)), .val (.int (0 : Int32)), .val (.int (1 : Int32)), .val (.ref a_BOTH), .val (.ref b274), .val (.int (1 : Int32))] [(.int (1 : Int32))])) _
          refine XS.goto X291.here hx rfl (pc0 := 132) (pc' := 136) rfl (hb hby at_132) (by decide) (by decide) ?_
          show Steps p.tables e below (T291.setTop (mkF m 136 #[.val (.int i0), .val (.int i1), .val (.int (3 : Int32)), .val (.int (0 : Int32)), .val (.int (1 : Int32)), .val (.ref a_BOTH), .val (.ref b274), .val (.int (1 : Int32))] [(.int (1 : Int32))])) _
          exact retN X291 hx (t := .boolean) Bd.returns (by simp) (hb hby at_136) hr
        · show QL n0 _ T291.heap _
          rw [hh291]
          exact ⟨rfl, N291⟩
    · skip
      have pre292 : ∀ t, Steps p.tables e below (s₁.setTop (mkF m 19 #[.val (.int i0), .val (.int i1), .val (.int (3 : Int32)), .val (.int (1 : Int32)), .unset, .unset, .unset, .unset] [(.int (i1 &&& (2 : Int32)))])) t → Steps p.tables e below (s₁.setTop (entryFrame m #[(.int i0), (.int i1)] maxLocals)) t := fun t kt => pre249 t (by
          show Steps p.tables e below (s₁.setTop (mkF m 7 #[.val (.int i0), .val (.int i1), .val (.int (3 : Int32)), .unset, .unset, .unset, .unset, .unset] [(.int (i1 &&& (1 : Int32)))])) _
          rw [hk250]
          show Steps p.tables e below (s₁.setTop (mkF m 7 #[.val (.int i0), .val (.int i1), .val (.int (3 : Int32)), .unset, .unset, .unset, .unset, .unset] [(.int (1 : Int32))])) _
          refine XS.ifNo X0.here hx rfl (hb hby at_7) rfl (by decide) ?_
          show Steps p.tables e below (s₁.setTop (mkF m 10 #[.val (.int i0), .val (.int i1), .val (.int (3 : Int32)), .unset, .unset, .unset, .unset, .unset] [])) _
          refine XS.iconst X0.here hx rfl (hb hby at_10) ?_
          show Steps p.tables e below (s₁.setTop (mkF m 11 #[.val (.int i0), .val (.int i1), .val (.int (3 : Int32)), .unset, .unset, .unset, .unset, .unset] [(.int (1 : Int32))])) _
          refine XS.goto X0.here hx rfl (pc0 := 11) (pc' := 15) rfl (hb hby at_11) (by decide) (by decide) ?_
          show Steps p.tables e below (s₁.setTop (mkF m 15 #[.val (.int i0), .val (.int i1), .val (.int (3 : Int32)), .unset, .unset, .unset, .unset, .unset] [(.int (1 : Int32))])) _
          refine XS.istoreN X0.here hx rfl (hb hby at_15) rfl (l' := #[.val (.int i0), .val (.int i1), .val (.int (3 : Int32)), .val (.int (1 : Int32)), .unset, .unset, .unset, .unset]) rfl ?_
          show Steps p.tables e below (s₁.setTop (mkF m 16 #[.val (.int i0), .val (.int i1), .val (.int (3 : Int32)), .val (.int (1 : Int32)), .unset, .unset, .unset, .unset] [])) _
          refine XS.iloadN X0.here hx rfl (hb hby at_16) rfl ?_
          show Steps p.tables e below (s₁.setTop (mkF m 17 #[.val (.int i0), .val (.int i1), .val (.int (3 : Int32)), .val (.int (1 : Int32)), .unset, .unset, .unset, .unset] [(.int i1)])) _
          refine XS.iconst X0.here hx rfl (hb hby at_17) ?_
          show Steps p.tables e below (s₁.setTop (mkF m 18 #[.val (.int i0), .val (.int i1), .val (.int (3 : Int32)), .val (.int (1 : Int32)), .unset, .unset, .unset, .unset] [(.int (2 : Int32)), (.int i1)])) _
          refine XS.iand X0.here hx rfl (hb hby at_18) rfl ?_
          exact kt)
      rcases own_c i1 with hk293 | hk293
      · skip
        obtain ⟨T294, X294, e294, st294⟩ := getS2 X0 hx hZ hown (host := "") (Or.inl (hw _ (List.mem_of_getElem? (i := 37) rfl))) Via.refl e0 (Sta.ext O0.2 S_a_BOTH) (g := (mkF m 61 #[.val (.int i0), .val (.int i1), .val (.int (3 : Int32)), .val (.int (1 : Int32)), .val (.int (0 : Int32)), .unset, .unset, .unset] [])) rfl (hb hby at_61)
        obtain ⟨T295, h295, k295, X295, e295, E295, A295, st295⟩ := newP X294 hx hZ (hw _ (List.mem_of_getElem? (i := 3) rfl)) e294 (g := (mkF m 67 #[.val (.int i0), .val (.int i1), .val (.int (3 : Int32)), .val (.int (1 : Int32)), .val (.int (0 : Int32)), .val (.ref a_BOTH), .unset, .unset] [(.int (4 : Int32))])) rfl (hb hby at_67) rfl (by decide) (cap := 4) (by decide) (by decide) (by decide) (by decide)
        obtain ⟨b295, g295⟩ : ∃ z, z = h0.size := ⟨_, rfl⟩
        rw [← g295] at A295 st295
        have gb295 : n0 ≤ b295 := by rw [g295, ← O0.1]; exact O0.2.1
        have ne295_a_BOTH : a_BOTH ≠ b295 := by rw [g295]; exact Nat.ne_of_lt ((Exa.ext O0.2 X_a_BOTH)).lt
        have ne295_a_FROM : a_FROM ≠ b295 := by rw [g295]; exact Nat.ne_of_lt ((Exa.ext O0.2 X_a_FROM)).lt
        have ne295_a_NONE : a_NONE ≠ b295 := by rw [g295]; exact Nat.ne_of_lt ((Exa.ext O0.2 X_a_NONE)).lt
        have ne295_a_TO : a_TO ≠ b295 := by rw [g295]; exact Nat.ne_of_lt ((Exa.ext O0.2 X_a_TO)).lt
        have V295 : Arv Z h295 b295 k295 .boolean (4 : Int32) [(.int (0 : Int32)), (.int (0 : Int32)), (.int (0 : Int32)), (.int (0 : Int32))] (.int (0 : Int32)) := (Arv.new A295 (by decide)).pad (pad_rep [] (.int (0 : Int32)) 4)
        obtain ⟨cl296, Ar296, q296, S296, N296_, H296, G296⟩ := V295
        have hin296 : ¬ ((0 : Int32) < 0 ∨ cl296.slots.size ≤ ((0 : Int32)).toNatClampNeg) := inb_of S296 ⟨by decide, by decide⟩
        obtain ⟨T297, h297, X297, e297, W297, st297⟩ := stZ X295 hx hZ e295 Ar296 (j := (0 : Int32)) hin296 (g := (mkF m 72 #[.val (.int i0), .val (.int i1), .val (.int (3 : Int32)), .val (.int (1 : Int32)), .val (.int (0 : Int32)), .val (.ref a_BOTH), .unset, .unset] [(.int (0 : Int32)), (.int (0 : Int32)), (.ref b295), (.ref b295)])) rfl rfl (hb hby at_72)
        have V297 : Arv Z h297 b295 k295 .boolean (4 : Int32) [(.int (0 : Int32)), (.int (0 : Int32)), (.int (0 : Int32)), (.int (0 : Int32))] (.int (0 : Int32)) := Arv.set Ar296 q296 S296 N296_ H296 G296 (fits_nar_bool _) W297 0 rfl (Nat.le_of_ble_eq_true rfl)
        have N297 := Fr.snoc X297 N0 gb295
        obtain ⟨cl298, Ar298, q298, S298, N298_, H298, G298⟩ := V297
        have hin298 : ¬ ((1 : Int32) < 0 ∨ cl298.slots.size ≤ ((1 : Int32)).toNatClampNeg) := inb_of S298 ⟨by decide, by decide⟩
        obtain ⟨T299, h299, X299, e299, W299, st299⟩ := stZ X297 hx hZ e297 Ar298 (j := (1 : Int32)) hin298 (g := (mkF m 76 #[.val (.int i0), .val (.int i1), .val (.int (3 : Int32)), .val (.int (1 : Int32)), .val (.int (0 : Int32)), .val (.ref a_BOTH), .unset, .unset] [(.int (1 : Int32)), (.int (1 : Int32)), (.ref b295), (.ref b295)])) rfl rfl (hb hby at_76)
        have V299 : Arv Z h299 b295 k295 .boolean (4 : Int32) [(.int (0 : Int32)), (.int (1 : Int32)), (.int (0 : Int32)), (.int (0 : Int32))] (.int (0 : Int32)) := Arv.set Ar298 q298 S298 N298_ H298 G298 (fits_nar_bool _) W299 1 rfl (Nat.le_of_ble_eq_true rfl)
        have N299 := Fr.snoc X299 N297 gb295
        obtain ⟨cl300, Ar300, q300, S300, N300_, H300, G300⟩ := V299
        have hin300 : ¬ ((2 : Int32) < 0 ∨ cl300.slots.size ≤ ((2 : Int32)).toNatClampNeg) := inb_of S300 ⟨by decide, by decide⟩
        obtain ⟨T301, h301, X301, e301, W301, st301⟩ := stZ X299 hx hZ e299 Ar300 (j := (2 : Int32)) hin300 (g := (mkF m 80 #[.val (.int i0), .val (.int i1), .val (.int (3 : Int32)), .val (.int (1 : Int32)), .val (.int (0 : Int32)), .val (.ref a_BOTH), .unset, .unset] [(.int (0 : Int32)), (.int (2 : Int32)), (.ref b295), (.ref b295)])) rfl rfl (hb hby at_80)
        have V301 : Arv Z h301 b295 k295 .boolean (4 : Int32) [(.int (0 : Int32)), (.int (1 : Int32)), (.int (0 : Int32)), (.int (0 : Int32))] (.int (0 : Int32)) := Arv.set Ar300 q300 S300 N300_ H300 G300 (fits_nar_bool _) W301 2 rfl (Nat.le_of_ble_eq_true rfl)
        have N301 := Fr.snoc X301 N299 gb295
        obtain ⟨cl302, Ar302, q302, S302, N302_, H302, G302⟩ := V301
        have hin302 : ¬ ((3 : Int32) < 0 ∨ cl302.slots.size ≤ ((3 : Int32)).toNatClampNeg) := inb_of S302 ⟨by decide, by decide⟩
        obtain ⟨T303, h303, X303, e303, W303, st303⟩ := stZ X301 hx hZ e301 Ar302 (j := (3 : Int32)) hin302 (g := (mkF m 84 #[.val (.int i0), .val (.int i1), .val (.int (3 : Int32)), .val (.int (1 : Int32)), .val (.int (0 : Int32)), .val (.ref a_BOTH), .unset, .unset] [(.int (1 : Int32)), (.int (3 : Int32)), (.ref b295), (.ref b295)])) rfl rfl (hb hby at_84)
        have V303 : Arv Z h303 b295 k295 .boolean (4 : Int32) [(.int (0 : Int32)), (.int (1 : Int32)), (.int (0 : Int32)), (.int (1 : Int32))] (.int (0 : Int32)) := Arv.set Ar302 q302 S302 N302_ H302 G302 (fits_nar_bool _) W303 3 rfl (Nat.le_of_ble_eq_true rfl)
        have N303 := Fr.snoc X303 N301 gb295
        obtain ⟨cl304, Ar304, q304, S304, N304_, H304, G304⟩ := V303
        have hin304 : ¬ ((3 : Int32) < 0 ∨ cl304.slots.size ≤ ((3 : Int32)).toNatClampNeg) := inb_of S304 ⟨by decide, by decide⟩
        have hat304 : cl304.slots[((3 : Int32)).toNatClampNeg]? = some (.int (1 : Int32)) := H304.at hin304 rfl
        have O305 : Old Z n0 h303 := (((((O0.ext E295).wr W297 gb295).wr W299 gb295).wr W301 gb295).wr W303 gb295)
        have f307 := ((((((Exa.ext O0.2 X_a_BOTH).ext E295).wr W297).wr W299).wr W301).wr W303)
        obtain ⟨cq306, kq306, q306a, q306b, q306c⟩ := isOf hZ e303 f307
        obtain ⟨_, _, ⟨T306, L306, k306, n306⟩, -, X306, ⟨Lc306, hQ306, l306, y306, z306⟩, st306⟩ := X303.virtualBack hx (y := (⟨"com/example/carbonfold/carbonfold/model/RosterItem$Subscription", "hasTo", "()Z"⟩ : MethodName)) (z := (⟨"com/example/carbonfold/carbonfold/model/RosterItem$Subscription", "hasTo", "()Z"⟩ : MethodName)) hown (mvT hZ (hw _ (List.mem_of_getElem? (i := 4) rfl))) (mvT hZ (hw _ (List.mem_of_getElem? (i := 5) rfl))) (notFace_of_selects (args := #[]) (mvT hZ (hw _ (List.mem_of_getElem? (i := 7) rfl)))) (mvT hZ (hw _ (List.mem_of_getElem? (i := 7) rfl))) (mvT hZ (hw _ (List.mem_of_getElem? (i := 6) rfl))) (by decide) (backOf (W := 0) (rm_hasTo_17 l Z a0 hw [] a_NONE a_TO a_BOTH a_FROM h303 n0 O305 En) hZ (hw _ (List.mem_of_getElem? (i := 8) rfl)) (hw _ (List.mem_of_getElem? (i := 1) rfl)) (by decide) (by decide)) q306a q306c (g := (mkF m 95 #[.val (.int i0), .val (.int i1), .val (.int (3 : Int32)), .val (.int (1 : Int32)), .val (.int (0 : Int32)), .val (.ref a_BOTH), .val (.ref b295), .val (.int (1 : Int32))] [(.ref a_BOTH)])) rfl (by rw [hml]; rfl) (Steps.refl _) (argsL := []) (rest := []) (lenOf pd_0 rfl) rfl (by show 2 * 0 + _ ≤ _; exact Nat.le_of_eq rfl) (hb hby at_95) (fun _ _ => ⟨rfl, e303, (by decide : 1 + 0 ≤ _), (by decide : 4 + 0 ≤ _)⟩)
        dsimp only [Pt.U, Pt.locs, Pt.cells, Pt.slots] at X306 l306 y306 z306 st306 hQ306
        subst l306 y306 z306
        obtain ⟨rfl, N306q, hh306⟩ := hQ306
        have N306 := Fr.app N303 N306q
        obtain ⟨cq308, kq308, q308a, q308b, q308c⟩ := isOf hZ hh306 f307
        obtain ⟨_, _, ⟨T308, L308, k308, n308⟩, -, X308, ⟨Lc308, hQ308, l308, y308, z308⟩, st308⟩ := X306.virtualBack hx (y := (⟨"com/example/carbonfold/carbonfold/model/RosterItem$Subscription", "withTo", "(Z)Lcom/example/carbonfold/carbonfold/model/RosterItem$Subscription;"⟩ : MethodName)) (z := (⟨"com/example/carbonfold/carbonfold/model/RosterItem$Subscription", "withTo", "(Z)Lcom/example/carbonfold/carbonfold/model/RosterItem$Subscription;"⟩ : MethodName)) hown (mvT hZ (hw _ (List.mem_of_getElem? (i := 13) rfl))) (mvT hZ (hw _ (List.mem_of_getElem? (i := 14) rfl))) (notFace_of_selects (args := #[]) (mvT hZ (hw _ (List.mem_of_getElem? (i := 16) rfl)))) (mvT hZ (hw _ (List.mem_of_getElem? (i := 16) rfl))) (mvT hZ (hw _ (List.mem_of_getElem? (i := 15) rfl))) (by decide) (backOf (W := 0) (rm_withTo_28 l Z a0 hw [] a_NONE a_TO a_BOTH a_FROM h303 n0 O305 En) hZ (hw _ (List.mem_of_getElem? (i := 17) rfl)) (hw _ (List.mem_of_getElem? (i := 1) rfl)) (by decide) (by decide)) q308a q308c (g := (mkF m 106 #[.val (.int i0), .val (.int i1), .val (.int (3 : Int32)), .val (.int (1 : Int32)), .val (.int (0 : Int32)), .val (.ref a_BOTH), .val (.ref b295), .val (.int (1 : Int32))] [(.int (1 : Int32)), (.ref a_BOTH)])) rfl (by rw [hml]; rfl) (Steps.refl _) (argsL := [(.int (1 : Int32))]) (rest := []) (lenOf pd_2 rfl) rfl (by show 2 * 0 + _ ≤ _; exact Nat.le_of_eq rfl) (hb hby at_106) (fun _ _ => ⟨rfl, hh306, (by decide : 1 + 0 ≤ _), (by decide : 4 + 0 ≤ _)⟩)
        dsimp only [Pt.U, Pt.locs, Pt.cells, Pt.slots] at X308 l308 y308 z308 st308 hQ308
        subst l308 y308 z308
        obtain ⟨rfl, N308q, hh308⟩ := hQ308
        have N308 := Fr.app N306 N308q
        obtain ⟨cq309, kq309, q309a, q309b, q309c⟩ := isOf hZ hh308 f307
        obtain ⟨_, _, ⟨T309, L309, k309, n309⟩, -, X309, ⟨Lc309, hQ309, l309, y309, z309⟩, st309⟩ := X308.virtualBack hx (y := (⟨"com/example/carbonfold/carbonfold/model/RosterItem$Subscription", "hasTo", "()Z"⟩ : MethodName)) (z := (⟨"com/example/carbonfold/carbonfold/model/RosterItem$Subscription", "hasTo", "()Z"⟩ : MethodName)) hown (mvT hZ (hw _ (List.mem_of_getElem? (i := 4) rfl))) (mvT hZ (hw _ (List.mem_of_getElem? (i := 5) rfl))) (notFace_of_selects (args := #[]) (mvT hZ (hw _ (List.mem_of_getElem? (i := 7) rfl)))) (mvT hZ (hw _ (List.mem_of_getElem? (i := 7) rfl))) (mvT hZ (hw _ (List.mem_of_getElem? (i := 6) rfl))) (by decide) (backOf (W := 0) (rm_hasTo_17 l Z a0 hw [] a_NONE a_TO a_BOTH a_FROM h303 n0 O305 En) hZ (hw _ (List.mem_of_getElem? (i := 8) rfl)) (hw _ (List.mem_of_getElem? (i := 1) rfl)) (by decide) (by decide)) q309a q309c (g := (mkF m 109 #[.val (.int i0), .val (.int i1), .val (.int (3 : Int32)), .val (.int (1 : Int32)), .val (.int (0 : Int32)), .val (.ref a_BOTH), .val (.ref b295), .val (.int (1 : Int32))] [(.ref a_BOTH)])) rfl (by rw [hml]; rfl) (Steps.refl _) (argsL := []) (rest := []) (lenOf pd_0 rfl) rfl (by show 2 * 0 + _ ≤ _; exact Nat.le_of_eq rfl) (hb hby at_109) (fun _ _ => ⟨rfl, hh308, (by decide : 1 + 0 ≤ _), (by decide : 4 + 0 ≤ _)⟩)
        dsimp only [Pt.U, Pt.locs, Pt.cells, Pt.slots] at X309 l309 y309 z309 st309 hQ309
        subst l309 y309 z309
        obtain ⟨rfl, N309q, hh309⟩ := hQ309
        have N309 := Fr.app N308 N309q
        obtain ⟨cq310, kq310, q310a, q310b, q310c⟩ := isOf hZ hh309 f307
        obtain ⟨_, _, ⟨T310, L310, k310, n310⟩, -, X310, ⟨Lc310, hQ310, l310, y310, z310⟩, st310⟩ := X309.virtualBack hx (y := (⟨"com/example/carbonfold/carbonfold/model/RosterItem$Subscription", "withFrom", "(Z)Lcom/example/carbonfold/carbonfold/model/RosterItem$Subscription;"⟩ : MethodName)) (z := (⟨"com/example/carbonfold/carbonfold/model/RosterItem$Subscription", "withFrom", "(Z)Lcom/example/carbonfold/carbonfold/model/RosterItem$Subscription;"⟩ : MethodName)) hown (mvT hZ (hw _ (List.mem_of_getElem? (i := 28) rfl))) (mvT hZ (hw _ (List.mem_of_getElem? (i := 29) rfl))) (notFace_of_selects (args := #[]) (mvT hZ (hw _ (List.mem_of_getElem? (i := 31) rfl)))) (mvT hZ (hw _ (List.mem_of_getElem? (i := 31) rfl))) (mvT hZ (hw _ (List.mem_of_getElem? (i := 30) rfl))) (by decide) (backOf (W := 0) (rm_withFrom_26 l Z a0 hw [] a_NONE a_TO a_BOTH a_FROM h303 n0 O305 En) hZ (hw _ (List.mem_of_getElem? (i := 32) rfl)) (hw _ (List.mem_of_getElem? (i := 1) rfl)) (by decide) (by decide)) q310a q310c (g := (mkF m 120 #[.val (.int i0), .val (.int i1), .val (.int (3 : Int32)), .val (.int (1 : Int32)), .val (.int (0 : Int32)), .val (.ref a_BOTH), .val (.ref b295), .val (.int (1 : Int32))] [(.int (0 : Int32)), (.ref a_BOTH)])) rfl (by rw [hml]; rfl) (Steps.refl _) (argsL := [(.int (0 : Int32))]) (rest := []) (lenOf pd_2 rfl) rfl (by show 2 * 0 + _ ≤ _; exact Nat.le_of_eq rfl) (hb hby at_120) (fun _ _ => ⟨rfl, hh309, (by decide : 1 + 0 ≤ _), (by decide : 4 + 0 ≤ _)⟩)
        dsimp only [Pt.U, Pt.locs, Pt.cells, Pt.slots] at X310 l310 y310 z310 st310 hQ310
        subst l310 y310 z310
        obtain ⟨rfl, N310q, hh310⟩ := hQ310
        have N310 := Fr.app N309 N310q
        have f312 := ((((((Exa.ext O0.2 X_a_TO).ext E295).wr W297).wr W299).wr W301).wr W303)
        obtain ⟨cq311, kq311, q311a, q311b, q311c⟩ := isOf hZ hh310 f312
        obtain ⟨_, _, ⟨T311, L311, k311, n311⟩, -, X311, ⟨Lc311, hQ311, l311, y311, z311⟩, st311⟩ := X310.virtualBack hx (y := (⟨"com/example/carbonfold/carbonfold/model/RosterItem$Subscription", "hasTo", "()Z"⟩ : MethodName)) (z := (⟨"com/example/carbonfold/carbonfold/model/RosterItem$Subscription", "hasTo", "()Z"⟩ : MethodName)) hown (mvT hZ (hw _ (List.mem_of_getElem? (i := 4) rfl))) (mvT hZ (hw _ (List.mem_of_getElem? (i := 5) rfl))) (notFace_of_selects (args := #[]) (mvT hZ (hw _ (List.mem_of_getElem? (i := 7) rfl)))) (mvT hZ (hw _ (List.mem_of_getElem? (i := 7) rfl))) (mvT hZ (hw _ (List.mem_of_getElem? (i := 6) rfl))) (by decide) (backOf (W := 0) (rm_hasTo_11 l Z a0 hw [] a_NONE a_TO a_BOTH a_FROM h303 n0 O305 En) hZ (hw _ (List.mem_of_getElem? (i := 8) rfl)) (hw _ (List.mem_of_getElem? (i := 1) rfl)) (by decide) (by decide)) q311a q311c (g := (mkF m 123 #[.val (.int i0), .val (.int i1), .val (.int (3 : Int32)), .val (.int (1 : Int32)), .val (.int (0 : Int32)), .val (.ref a_BOTH), .val (.ref b295), .val (.int (1 : Int32))] [(.ref a_TO)])) rfl (by rw [hml]; rfl) (Steps.refl _) (argsL := []) (rest := []) (lenOf pd_0 rfl) rfl (by show 2 * 0 + _ ≤ _; exact Nat.le_of_eq rfl) (hb hby at_123) (fun _ _ => ⟨rfl, hh310, (by decide : 1 + 0 ≤ _), (by decide : 4 + 0 ≤ _)⟩)
        dsimp only [Pt.U, Pt.locs, Pt.cells, Pt.slots] at X311 l311 y311 z311 st311 hQ311
        subst l311 y311 z311
        obtain ⟨rfl, N311q, hh311⟩ := hQ311
        have N311 := Fr.app N310 N311q
        obtain ⟨fs, hr, hrun, hended, hW, hsame⟩ := X311.leave (v := some (.int (1 : Int32))) (fun h => by rw [Bd.returns] at h; cases h)
        refine ⟨_, _, pre292 _ ?_, hrun, hended, _, _, rfl, ?_, ⟨_, rfl⟩, hW, hsame.mono (by decide) (by decide)⟩
        · skip
          show Steps p.tables e below (s₁.setTop (mkF m 19 #[.val (.int i0), .val (.int i1), .val (.int (3 : Int32)), .val (.int (1 : Int32)), .unset, .unset, .unset, .unset] [(.int (i1 &&& (2 : Int32)))])) _
          rw [hk293]
          show Steps p.tables e below (s₁.setTop (mkF m 19 #[.val (.int i0), .val (.int i1), .val (.int (3 : Int32)), .val (.int (1 : Int32)), .unset, .unset, .unset, .unset] [(.int (0 : Int32))])) _
          refine XS.ifYes X0.here hx rfl (pc0 := 19) (pc' := 26) rfl (hb hby at_19) rfl (by decide) (by decide) (by decide) ?_
          show Steps p.tables e below (s₁.setTop (mkF m 26 #[.val (.int i0), .val (.int i1), .val (.int (3 : Int32)), .val (.int (1 : Int32)), .unset, .unset, .unset, .unset] [])) _
          refine XS.iconst X0.here hx rfl (hb hby at_26) ?_
          show Steps p.tables e below (s₁.setTop (mkF m 27 #[.val (.int i0), .val (.int i1), .val (.int (3 : Int32)), .val (.int (1 : Int32)), .unset, .unset, .unset, .unset] [(.int (0 : Int32))])) _
          refine XS.istore X0.here hx rfl (hb hby at_27) rfl (l' := #[.val (.int i0), .val (.int i1), .val (.int (3 : Int32)), .val (.int (1 : Int32)), .val (.int (0 : Int32)), .unset, .unset, .unset]) rfl ?_
          show Steps p.tables e below (s₁.setTop (mkF m 29 #[.val (.int i0), .val (.int i1), .val (.int (3 : Int32)), .val (.int (1 : Int32)), .val (.int (0 : Int32)), .unset, .unset, .unset] [])) _
          refine XS.iloadN X0.here hx rfl (hb hby at_29) rfl ?_
          show Steps p.tables e below (s₁.setTop (mkF m 30 #[.val (.int i0), .val (.int i1), .val (.int (3 : Int32)), .val (.int (1 : Int32)), .val (.int (0 : Int32)), .unset, .unset, .unset] [(.int (3 : Int32))])) _
          refine XS.ifYes X0.here hx rfl (pc0 := 30) (pc' := 39) rfl (hb hby at_30) rfl (by decide) (by decide) (by decide) ?_
          show Steps p.tables e below (s₁.setTop (mkF m 39 #[.val (.int i0), .val (.int i1), .val (.int (3 : Int32)), .val (.int (1 : Int32)), .val (.int (0 : Int32)), .unset, .unset, .unset] [])) _
          refine XS.iloadN X0.here hx rfl (hb hby at_39) rfl ?_
          show Steps p.tables e below (s₁.setTop (mkF m 40 #[.val (.int i0), .val (.int i1), .val (.int (3 : Int32)), .val (.int (1 : Int32)), .val (.int (0 : Int32)), .unset, .unset, .unset] [(.int (3 : Int32))])) _
          refine XS.iconst X0.here hx rfl (hb hby at_40) ?_
          show Steps p.tables e below (s₁.setTop (mkF m 41 #[.val (.int i0), .val (.int i1), .val (.int (3 : Int32)), .val (.int (1 : Int32)), .val (.int (0 : Int32)), .unset, .unset, .unset] [(.int (1 : Int32)), (.int (3 : Int32))])) _
          refine XS.icmpYes X0.here hx rfl (pc0 := 41) (pc' := 50) rfl (hb hby at_41) rfl (by decide) (by decide) (by decide) ?_
          show Steps p.tables e below (s₁.setTop (mkF m 50 #[.val (.int i0), .val (.int i1), .val (.int (3 : Int32)), .val (.int (1 : Int32)), .val (.int (0 : Int32)), .unset, .unset, .unset] [])) _
          refine XS.iloadN X0.here hx rfl (hb hby at_50) rfl ?_
          show Steps p.tables e below (s₁.setTop (mkF m 51 #[.val (.int i0), .val (.int i1), .val (.int (3 : Int32)), .val (.int (1 : Int32)), .val (.int (0 : Int32)), .unset, .unset, .unset] [(.int (3 : Int32))])) _
          refine XS.iconst X0.here hx rfl (hb hby at_51) ?_
          show Steps p.tables e below (s₁.setTop (mkF m 52 #[.val (.int i0), .val (.int i1), .val (.int (3 : Int32)), .val (.int (1 : Int32)), .val (.int (0 : Int32)), .unset, .unset, .unset] [(.int (2 : Int32)), (.int (3 : Int32))])) _
          refine XS.icmpYes X0.here hx rfl (pc0 := 52) (pc' := 61) rfl (hb hby at_52) rfl (by decide) (by decide) (by decide) ?_
          show Steps p.tables e below (s₁.setTop (mkF m 61 #[.val (.int i0), .val (.int i1), .val (.int (3 : Int32)), .val (.int (1 : Int32)), .val (.int (0 : Int32)), .unset, .unset, .unset] [])) _
          refine st294 _ ?_
          show Steps p.tables e below (T294.setTop (mkF m 64 #[.val (.int i0), .val (.int i1), .val (.int (3 : Int32)), .val (.int (1 : Int32)), .val (.int (0 : Int32)), .unset, .unset, .unset] [(.ref a_BOTH)])) _
          refine XS.astore X294.here hx rfl (hb hby at_64) rfl rfl (l' := #[.val (.int i0), .val (.int i1), .val (.int (3 : Int32)), .val (.int (1 : Int32)), .val (.int (0 : Int32)), .val (.ref a_BOTH), .unset, .unset]) rfl ?_
          show Steps p.tables e below (T294.setTop (mkF m 66 #[.val (.int i0), .val (.int i1), .val (.int (3 : Int32)), .val (.int (1 : Int32)), .val (.int (0 : Int32)), .val (.ref a_BOTH), .unset, .unset] [])) _
          refine XS.iconst X294.here hx rfl (hb hby at_66) ?_
          show Steps p.tables e below (T294.setTop (mkF m 67 #[.val (.int i0), .val (.int i1), .val (.int (3 : Int32)), .val (.int (1 : Int32)), .val (.int (0 : Int32)), .val (.ref a_BOTH), .unset, .unset] [(.int (4 : Int32))])) _
          refine st295 _ ?_
          show Steps p.tables e below (T295.setTop (mkF m 69 #[.val (.int i0), .val (.int i1), .val (.int (3 : Int32)), .val (.int (1 : Int32)), .val (.int (0 : Int32)), .val (.ref a_BOTH), .unset, .unset] [(.ref b295)])) _
          refine XS.dup X295.here hx rfl (hb hby at_69) rfl rfl ?_
          show Steps p.tables e below (T295.setTop (mkF m 70 #[.val (.int i0), .val (.int i1), .val (.int (3 : Int32)), .val (.int (1 : Int32)), .val (.int (0 : Int32)), .val (.ref a_BOTH), .unset, .unset] [(.ref b295), (.ref b295)])) _
          refine XS.iconst X295.here hx rfl (hb hby at_70) ?_
          show Steps p.tables e below (T295.setTop (mkF m 71 #[.val (.int i0), .val (.int i1), .val (.int (3 : Int32)), .val (.int (1 : Int32)), .val (.int (0 : Int32)), .val (.ref a_BOTH), .unset, .unset] [(.int (0 : Int32)), (.ref b295), (.ref b295)])) _
          refine XS.iconst X295.here hx rfl (hb hby at_71) ?_
          show Steps p.tables e below (T295.setTop (mkF m 72 #[.val (.int i0), .val (.int i1), .val (.int (3 : Int32)), .val (.int (1 : Int32)), .val (.int (0 : Int32)), .val (.ref a_BOTH), .unset, .unset] [(.int (0 : Int32)), (.int (0 : Int32)), (.ref b295), (.ref b295)])) _
          refine st297 _ ?_
          show Steps p.tables e below (T297.setTop (mkF m 73 #[.val (.int i0), .val (.int i1), .val (.int (3 : Int32)), .val (.int (1 : Int32)), .val (.int (0 : Int32)), .val (.ref a_BOTH), .unset, .unset] [(.ref b295)])) _
          refine XS.dup X297.here hx rfl (hb hby at_73) rfl rfl ?_
          show Steps p.tables e below (T297.setTop (mkF m 74 #[.val (.int i0), .val (.int i1), .val (.int (3 : Int32)), .val (.int (1 : Int32)), .val (.int (0 : Int32)), .val (.ref a_BOTH), .unset, .unset] [(.ref b295), (.ref b295)])) _
          refine XS.iconst X297.here hx rfl (hb hby at_74) ?_
          show Steps p.tables e below (T297.setTop (mkF m 75 #[.val (.int i0), .val (.int i1), .val (.int (3 : Int32)), .val (.int (1 : Int32)), .val (.int (0 : Int32)), .val (.ref a_BOTH), .unset, .unset] [(.int (1 : Int32)), (.ref b295), (.ref b295)])) _
          refine XS.iconst X297.here hx rfl (hb hby at_75) ?_
          show Steps p.tables e below (T297.setTop (mkF m 76 #[.val (.int i0), .val (.int i1), .val (.int (3 : Int32)), .val (.int (1 : Int32)), .val (.int (0 : Int32)), .val (.ref a_BOTH), .unset, .unset] [(.int (1 : Int32)), (.int (1 : Int32)), (.ref b295), (.ref b295)])) _
          refine st299 _ ?_
          show Steps p.tables e below (T299.setTop (mkF m 77 #[.val (.int i0), .val (.int i1), .val (.int (3 : Int32)), .val (.int (1 : Int32)), .val (.int (0 : Int32)), .val (.ref a_BOTH), .unset, .unset] [(.ref b295)])) _
          refine XS.dup X299.here hx rfl (hb hby at_77) rfl rfl ?_
          show Steps p.tables e below (T299.setTop (mkF m 78 #[.val (.int i0), .val (.int i1), .val (.int (3 : Int32)), .val (.int (1 : Int32)), .val (.int (0 : Int32)), .val (.ref a_BOTH), .unset, .unset] [(.ref b295), (.ref b295)])) _
          refine XS.iconst X299.here hx rfl (hb hby at_78) ?_
          show Steps p.tables e below (T299.setTop (mkF m 79 #[.val (.int i0), .val (.int i1), .val (.int (3 : Int32)), .val (.int (1 : Int32)), .val (.int (0 : Int32)), .val (.ref a_BOTH), .unset, .unset] [(.int (2 : Int32)), (.ref b295), (.ref b295)])) _
          refine XS.iconst X299.here hx rfl (hb hby at_79) ?_
          show Steps p.tables e below (T299.setTop (mkF m 80 #[.val (.int i0), .val (.int i1), .val (.int (3 : Int32)), .val (.int (1 : Int32)), .val (.int (0 : Int32)), .val (.ref a_BOTH), .unset, .unset] [(.int (0 : Int32)), (.int (2 : Int32)), (.ref b295), (.ref b295)])) _
          refine st301 _ ?_
          show Steps p.tables e below (T301.setTop (mkF m 81 #[.val (.int i0), .val (.int i1), .val (.int (3 : Int32)), .val (.int (1 : Int32)), .val (.int (0 : Int32)), .val (.ref a_BOTH), .unset, .unset] [(.ref b295)])) _
          refine XS.dup X301.here hx rfl (hb hby at_81) rfl rfl ?_
          show Steps p.tables e below (T301.setTop (mkF m 82 #[.val (.int i0), .val (.int i1), .val (.int (3 : Int32)), .val (.int (1 : Int32)), .val (.int (0 : Int32)), .val (.ref a_BOTH), .unset, .unset] [(.ref b295), (.ref b295)])) _
          refine XS.iconst X301.here hx rfl (hb hby at_82) ?_
          show Steps p.tables e below (T301.setTop (mkF m 83 #[.val (.int i0), .val (.int i1), .val (.int (3 : Int32)), .val (.int (1 : Int32)), .val (.int (0 : Int32)), .val (.ref a_BOTH), .unset, .unset] [(.int (3 : Int32)), (.ref b295), (.ref b295)])) _
          refine XS.iconst X301.here hx rfl (hb hby at_83) ?_
          show Steps p.tables e below (T301.setTop (mkF m 84 #[.val (.int i0), .val (.int i1), .val (.int (3 : Int32)), .val (.int (1 : Int32)), .val (.int (0 : Int32)), .val (.ref a_BOTH), .unset, .unset] [(.int (1 : Int32)), (.int (3 : Int32)), (.ref b295), (.ref b295)])) _
          refine st303 _ ?_
          show Steps p.tables e below (T303.setTop (mkF m 85 #[.val (.int i0), .val (.int i1), .val (.int (3 : Int32)), .val (.int (1 : Int32)), .val (.int (0 : Int32)), .val (.ref a_BOTH), .unset, .unset] [(.ref b295)])) _
          refine XS.astore X303.here hx rfl (hb hby at_85) rfl rfl (l' := #[.val (.int i0), .val (.int i1), .val (.int (3 : Int32)), .val (.int (1 : Int32)), .val (.int (0 : Int32)), .val (.ref a_BOTH), .val (.ref b295), .unset]) rfl ?_
          show Steps p.tables e below (T303.setTop (mkF m 87 #[.val (.int i0), .val (.int i1), .val (.int (3 : Int32)), .val (.int (1 : Int32)), .val (.int (0 : Int32)), .val (.ref a_BOTH), .val (.ref b295), .unset] [])) _
          refine XS.aload X303.here hx rfl (hb hby at_87) rfl rfl ?_
          show Steps p.tables e below (T303.setTop (mkF m 89 #[.val (.int i0), .val (.int i1), .val (.int (3 : Int32)), .val (.int (1 : Int32)), .val (.int (0 : Int32)), .val (.ref a_BOTH), .val (.ref b295), .unset] [(.ref b295)])) _
          refine XS.iloadN X303.here hx rfl (hb hby at_89) rfl ?_
          show Steps p.tables e below (T303.setTop (mkF m 90 #[.val (.int i0), .val (.int i1), .val (.int (3 : Int32)), .val (.int (1 : Int32)), .val (.int (0 : Int32)), .val (.ref a_BOTH), .val (.ref b295), .unset] [(.int (3 : Int32)), (.ref b295)])) _
          refine X303.baloadBooleans hx (j := (3 : Int32)) (v := (.int (1 : Int32))) (by rw [e303]; exact Ar304.1) (State.isArrayOf_alike hZ.alike Ar304.2.1) Ar304.2.2 hin304 hat304 (g := (mkF m 90 #[.val (.int i0), .val (.int i1), .val (.int (3 : Int32)), .val (.int (1 : Int32)), .val (.int (0 : Int32)), .val (.ref a_BOTH), .val (.ref b295), .unset] [(.int (3 : Int32)), (.ref b295)])) rfl rfl (hb hby at_90) _ ?_
          show Steps p.tables e below (T303.setTop (mkF m 91 #[.val (.int i0), .val (.int i1), .val (.int (3 : Int32)), .val (.int (1 : Int32)), .val (.int (0 : Int32)), .val (.ref a_BOTH), .val (.ref b295), .unset] [(.int (1 : Int32))])) _
          refine XS.istore X303.here hx rfl (hb hby at_91) rfl (l' := #[.val (.int i0), .val (.int i1), .val (.int (3 : Int32)), .val (.int (1 : Int32)), .val (.int (0 : Int32)), .val (.ref a_BOTH), .val (.ref b295), .val (.int (1 : Int32))]) rfl ?_
          show Steps p.tables e below (T303.setTop (mkF m 93 #[.val (.int i0), .val (.int i1), .val (.int (3 : Int32)), .val (.int (1 : Int32)), .val (.int (0 : Int32)), .val (.ref a_BOTH), .val (.ref b295), .val (.int (1 : Int32))] [])) _
          refine XS.aload X303.here hx rfl (hb hby at_93) rfl rfl ?_
          show Steps p.tables e below (T303.setTop (mkF m 95 #[.val (.int i0), .val (.int i1), .val (.int (3 : Int32)), .val (.int (1 : Int32)), .val (.int (0 : Int32)), .val (.ref a_BOTH), .val (.ref b295), .val (.int (1 : Int32))] [(.ref a_BOTH)])) _
          refine st306.trans ?_
          show Steps p.tables e below (T306.setTop (mkF m 98 #[.val (.int i0), .val (.int i1), .val (.int (3 : Int32)), .val (.int (1 : Int32)), .val (.int (0 : Int32)), .val (.ref a_BOTH), .val (.ref b295), .val (.int (1 : Int32))] [(.int (1 : Int32))])) _
          refine XS.iload X306.here hx rfl (hb hby at_98) rfl ?_
          show Steps p.tables e below (T306.setTop (mkF m 100 #[.val (.int i0), .val (.int i1), .val (.int (3 : Int32)), .val (.int (1 : Int32)), .val (.int (0 : Int32)), .val (.ref a_BOTH), .val (.ref b295), .val (.int (1 : Int32))] [(.int (1 : Int32)), (.int (1 : Int32))])) _
          refine XS.icmpNo X306.here hx rfl (hb hby at_100) rfl (by decide) ?_
          show Steps p.tables e below (T306.setTop (mkF m 103 #[.val (.int i0), .val (.int i1), .val (.int (3 : Int32)), .val (.int (1 : Int32)), .val (.int (0 : Int32)), .val (.ref a_BOTH), .val (.ref b295), .val (.int (1 : Int32))] [])) _
          refine XS.aload X306.here hx rfl (hb hby at_103) rfl rfl ?_
          show Steps p.tables e below (T306.setTop (mkF m 105 #[.val (.int i0), .val (.int i1), .val (.int (3 : Int32)), .val (.int (1 : Int32)), .val (.int (0 : Int32)), .val (.ref a_BOTH), .val (.ref b295), .val (.int (1 : Int32))] [(.ref a_BOTH)])) _
          refine XS.iloadN X306.here hx rfl (hb hby at_105) rfl ?_
          show Steps p.tables e below (T306.setTop (mkF m 106 #[.val (.int i0), .val (.int i1), .val (.int (3 : Int32)), .val (.int (1 : Int32)), .val (.int (0 : Int32)), .val (.ref a_BOTH), .val (.ref b295), .val (.int (1 : Int32))] [(.int (1 : Int32)), (.ref a_BOTH)])) _
          refine st308.trans ?_
          show Steps p.tables e below (T308.setTop (mkF m 109 #[.val (.int i0), .val (.int i1), .val (.int (3 : Int32)), .val (.int (1 : Int32)), .val (.int (0 : Int32)), .val (.ref a_BOTH), .val (.ref b295), .val (.int (1 : Int32))] [(.ref a_BOTH)])) _
          refine st309.trans ?_
          show Steps p.tables e below (T309.setTop (mkF m 112 #[.val (.int i0), .val (.int i1), .val (.int (3 : Int32)), .val (.int (1 : Int32)), .val (.int (0 : Int32)), .val (.ref a_BOTH), .val (.ref b295), .val (.int (1 : Int32))] [(.int (1 : Int32))])) _
          refine XS.iloadN X309.here hx rfl (hb hby at_112) rfl ?_
          show Steps p.tables e below (T309.setTop (mkF m 113 #[.val (.int i0), .val (.int i1), .val (.int (3 : Int32)), .val (.int (1 : Int32)), .val (.int (0 : Int32)), .val (.ref a_BOTH), .val (.ref b295), .val (.int (1 : Int32))] [(.int (1 : Int32)), (.int (1 : Int32))])) _
          refine XS.icmpNo X309.here hx rfl (hb hby at_113) rfl (by decide) ?_
          show Steps p.tables e below (T309.setTop (mkF m 116 #[.val (.int i0), .val (.int i1), .val (.int (3 : Int32)), .val (.int (1 : Int32)), .val (.int (0 : Int32)), .val (.ref a_BOTH), .val (.ref b295), .val (.int (1 : Int32))] [])) _
          refine XS.aload X309.here hx rfl (hb hby at_116) rfl rfl ?_
          show Steps p.tables e below (T309.setTop (mkF m 118 #[.val (.int i0), .val (.int i1), .val (.int (3 : Int32)), .val (.int (1 : Int32)), .val (.int (0 : Int32)), .val (.ref a_BOTH), .val (.ref b295), .val (.int (1 : Int32))] [(.ref a_BOTH)])) _
          refine XS.iload X309.here hx rfl (hb hby at_118) rfl ?_
          show Steps p.tables e below (T309.setTop (mkF m 120 #[.val (.int i0), .val (.int i1), .val (.int (3 : Int32)), .val (.int (1 : Int32)), .val (.int (0 : Int32)), .val (.ref a_BOTH), .val (.ref b295), .val (.int (1 : Int32))] [(.int (0 : Int32)), (.ref a_BOTH)])) _
          refine st310.trans ?_
          show Steps p.tables e below (T310.setTop (mkF m 123 #[.val (.int i0), .val (.int i1), .val (.int (3 : Int32)), .val (.int (1 : Int32)), .val (.int (0 : Int32)), .val (.ref a_BOTH), .val (.ref b295), .val (.int (1 : Int32))] [(.ref a_TO)])) _
          refine st311.trans ?_
          show Steps p.tables e below (T311.setTop (mkF m 126 #[.val (.int i0), .val (.int i1), .val (.int (3 : Int32)), .val (.int (1 : Int32)), .val (.int (0 : Int32)), .val (.ref a_BOTH), .val (.ref b295), .val (.int (1 : Int32))] [(.int (1 : Int32))])) _
          refine XS.iload X311.here hx rfl (hb hby at_126) rfl ?_
          show Steps p.tables e below (T311.setTop (mkF m 128 #[.val (.int i0), .val (.int i1), .val (.int (3 : Int32)), .val (.int (1 : Int32)), .val (.int (0 : Int32)), .val (.ref a_BOTH), .val (.ref b295), .val (.int (1 : Int32))] [(.int (1 : Int32)), (.int (1 : Int32))])) _
          refine XS.icmpNo X311.here hx rfl (hb hby at_128) rfl (by decide) ?_
          show Steps p.tables e below (T311.setTop (mkF m 131 #[.val (.int i0), .val (.int i1), .val (.int (3 : Int32)), .val (.int (1 : Int32)), .val (.int (0 : Int32)), .val (.ref a_BOTH), .val (.ref b295), .val (.int (1 : Int32))] [])) _
          refine XS.iconst X311.here hx rfl (hb hby at_131) ?_
          show Steps p.tables e below (T311.setTop (mkF m 132 #[.val (.int i0), .val (.int i1), .val (.int (3 : Int32)), .val (.int (1 : Int32)), .val (.int (0 : Int32)), .val (.ref a_BOTH), .val (.ref b295), .val (.int (1 : Int32))] [(.int (1 : Int32))])) _
          refine XS.goto X311.here hx rfl (pc0 := 132) (pc' := 136) rfl (hb hby at_132) (by decide) (by decide) ?_
          show Steps p.tables e below (T311.setTop (mkF m 136 #[.val (.int i0), .val (.int i1), .val (.int (3 : Int32)), .val (.int (1 : Int32)), .val (.int (0 : Int32)), .val (.ref a_BOTH), .val (.ref b295), .val (.int (1 : Int32))] [(.int (1 : Int32))])) _
          exact retN X311 hx (t := .boolean) Bd.returns (by simp) (hb hby at_136) hr
        · show QL n0 _ T311.heap _
          rw [hh311]
          exact ⟨rfl, N311⟩
      · skip
        obtain ⟨T313, X313, e313, st313⟩ := getS2 X0 hx hZ hown (host := "") (Or.inl (hw _ (List.mem_of_getElem? (i := 37) rfl))) Via.refl e0 (Sta.ext O0.2 S_a_BOTH) (g := (mkF m 61 #[.val (.int i0), .val (.int i1), .val (.int (3 : Int32)), .val (.int (1 : Int32)), .val (.int (1 : Int32)), .unset, .unset, .unset] [])) rfl (hb hby at_61)
        obtain ⟨T314, h314, k314, X314, e314, E314, A314, st314⟩ := newP X313 hx hZ (hw _ (List.mem_of_getElem? (i := 3) rfl)) e313 (g := (mkF m 67 #[.val (.int i0), .val (.int i1), .val (.int (3 : Int32)), .val (.int (1 : Int32)), .val (.int (1 : Int32)), .val (.ref a_BOTH), .unset, .unset] [(.int (4 : Int32))])) rfl (hb hby at_67) rfl (by decide) (cap := 4) (by decide) (by decide) (by decide) (by decide)
        obtain ⟨b314, g314⟩ : ∃ z, z = h0.size := ⟨_, rfl⟩
        rw [← g314] at A314 st314
        have gb314 : n0 ≤ b314 := by rw [g314, ← O0.1]; exact O0.2.1
        have ne314_a_BOTH : a_BOTH ≠ b314 := by rw [g314]; exact Nat.ne_of_lt ((Exa.ext O0.2 X_a_BOTH)).lt
        have ne314_a_FROM : a_FROM ≠ b314 := by rw [g314]; exact Nat.ne_of_lt ((Exa.ext O0.2 X_a_FROM)).lt
        have ne314_a_NONE : a_NONE ≠ b314 := by rw [g314]; exact Nat.ne_of_lt ((Exa.ext O0.2 X_a_NONE)).lt
        have ne314_a_TO : a_TO ≠ b314 := by rw [g314]; exact Nat.ne_of_lt ((Exa.ext O0.2 X_a_TO)).lt
        have V314 : Arv Z h314 b314 k314 .boolean (4 : Int32) [(.int (0 : Int32)), (.int (0 : Int32)), (.int (0 : Int32)), (.int (0 : Int32))] (.int (0 : Int32)) := (Arv.new A314 (by decide)).pad (pad_rep [] (.int (0 : Int32)) 4)
        obtain ⟨cl315, Ar315, q315, S315, N315_, H315, G315⟩ := V314
        have hin315 : ¬ ((0 : Int32) < 0 ∨ cl315.slots.size ≤ ((0 : Int32)).toNatClampNeg) := inb_of S315 ⟨by decide, by decide⟩
        obtain ⟨T316, h316, X316, e316, W316, st316⟩ := stZ X314 hx hZ e314 Ar315 (j := (0 : Int32)) hin315 (g := (mkF m 72 #[.val (.int i0), .val (.int i1), .val (.int (3 : Int32)), .val (.int (1 : Int32)), .val (.int (1 : Int32)), .val (.ref a_BOTH), .unset, .unset] [(.int (0 : Int32)), (.int (0 : Int32)), (.ref b314), (.ref b314)])) rfl rfl (hb hby at_72)
        have V316 : Arv Z h316 b314 k314 .boolean (4 : Int32) [(.int (0 : Int32)), (.int (0 : Int32)), (.int (0 : Int32)), (.int (0 : Int32))] (.int (0 : Int32)) := Arv.set Ar315 q315 S315 N315_ H315 G315 (fits_nar_bool _) W316 0 rfl (Nat.le_of_ble_eq_true rfl)
        have N316 := Fr.snoc X316 N0 gb314
        obtain ⟨cl317, Ar317, q317, S317, N317_, H317, G317⟩ := V316
        have hin317 : ¬ ((1 : Int32) < 0 ∨ cl317.slots.size ≤ ((1 : Int32)).toNatClampNeg) := inb_of S317 ⟨by decide, by decide⟩
        obtain ⟨T318, h318, X318, e318, W318, st318⟩ := stZ X316 hx hZ e316 Ar317 (j := (1 : Int32)) hin317 (g := (mkF m 76 #[.val (.int i0), .val (.int i1), .val (.int (3 : Int32)), .val (.int (1 : Int32)), .val (.int (1 : Int32)), .val (.ref a_BOTH), .unset, .unset] [(.int (1 : Int32)), (.int (1 : Int32)), (.ref b314), (.ref b314)])) rfl rfl (hb hby at_76)
        have V318 : Arv Z h318 b314 k314 .boolean (4 : Int32) [(.int (0 : Int32)), (.int (1 : Int32)), (.int (0 : Int32)), (.int (0 : Int32))] (.int (0 : Int32)) := Arv.set Ar317 q317 S317 N317_ H317 G317 (fits_nar_bool _) W318 1 rfl (Nat.le_of_ble_eq_true rfl)
        have N318 := Fr.snoc X318 N316 gb314
        obtain ⟨cl319, Ar319, q319, S319, N319_, H319, G319⟩ := V318
        have hin319 : ¬ ((2 : Int32) < 0 ∨ cl319.slots.size ≤ ((2 : Int32)).toNatClampNeg) := inb_of S319 ⟨by decide, by decide⟩
        obtain ⟨T320, h320, X320, e320, W320, st320⟩ := stZ X318 hx hZ e318 Ar319 (j := (2 : Int32)) hin319 (g := (mkF m 80 #[.val (.int i0), .val (.int i1), .val (.int (3 : Int32)), .val (.int (1 : Int32)), .val (.int (1 : Int32)), .val (.ref a_BOTH), .unset, .unset] [(.int (0 : Int32)), (.int (2 : Int32)), (.ref b314), (.ref b314)])) rfl rfl (hb hby at_80)
        have V320 : Arv Z h320 b314 k314 .boolean (4 : Int32) [(.int (0 : Int32)), (.int (1 : Int32)), (.int (0 : Int32)), (.int (0 : Int32))] (.int (0 : Int32)) := Arv.set Ar319 q319 S319 N319_ H319 G319 (fits_nar_bool _) W320 2 rfl (Nat.le_of_ble_eq_true rfl)
        have N320 := Fr.snoc X320 N318 gb314
        obtain ⟨cl321, Ar321, q321, S321, N321_, H321, G321⟩ := V320
        have hin321 : ¬ ((3 : Int32) < 0 ∨ cl321.slots.size ≤ ((3 : Int32)).toNatClampNeg) := inb_of S321 ⟨by decide, by decide⟩
        obtain ⟨T322, h322, X322, e322, W322, st322⟩ := stZ X320 hx hZ e320 Ar321 (j := (3 : Int32)) hin321 (g := (mkF m 84 #[.val (.int i0), .val (.int i1), .val (.int (3 : Int32)), .val (.int (1 : Int32)), .val (.int (1 : Int32)), .val (.ref a_BOTH), .unset, .unset] [(.int (1 : Int32)), (.int (3 : Int32)), (.ref b314), (.ref b314)])) rfl rfl (hb hby at_84)
        have V322 : Arv Z h322 b314 k314 .boolean (4 : Int32) [(.int (0 : Int32)), (.int (1 : Int32)), (.int (0 : Int32)), (.int (1 : Int32))] (.int (0 : Int32)) := Arv.set Ar321 q321 S321 N321_ H321 G321 (fits_nar_bool _) W322 3 rfl (Nat.le_of_ble_eq_true rfl)
        have N322 := Fr.snoc X322 N320 gb314
        obtain ⟨cl323, Ar323, q323, S323, N323_, H323, G323⟩ := V322
        have hin323 : ¬ ((3 : Int32) < 0 ∨ cl323.slots.size ≤ ((3 : Int32)).toNatClampNeg) := inb_of S323 ⟨by decide, by decide⟩
        have hat323 : cl323.slots[((3 : Int32)).toNatClampNeg]? = some (.int (1 : Int32)) := H323.at hin323 rfl
        have O324 : Old Z n0 h322 := (((((O0.ext E314).wr W316 gb314).wr W318 gb314).wr W320 gb314).wr W322 gb314)
        have f326 := ((((((Exa.ext O0.2 X_a_BOTH).ext E314).wr W316).wr W318).wr W320).wr W322)
        obtain ⟨cq325, kq325, q325a, q325b, q325c⟩ := isOf hZ e322 f326
        obtain ⟨_, _, ⟨T325, L325, k325, n325⟩, -, X325, ⟨Lc325, hQ325, l325, y325, z325⟩, st325⟩ := X322.virtualBack hx (y := (⟨"com/example/carbonfold/carbonfold/model/RosterItem$Subscription", "hasTo", "()Z"⟩ : MethodName)) (z := (⟨"com/example/carbonfold/carbonfold/model/RosterItem$Subscription", "hasTo", "()Z"⟩ : MethodName)) hown (mvT hZ (hw _ (List.mem_of_getElem? (i := 4) rfl))) (mvT hZ (hw _ (List.mem_of_getElem? (i := 5) rfl))) (notFace_of_selects (args := #[]) (mvT hZ (hw _ (List.mem_of_getElem? (i := 7) rfl)))) (mvT hZ (hw _ (List.mem_of_getElem? (i := 7) rfl))) (mvT hZ (hw _ (List.mem_of_getElem? (i := 6) rfl))) (by decide) (backOf (W := 0) (rm_hasTo_17 l Z a0 hw [] a_NONE a_TO a_BOTH a_FROM h322 n0 O324 En) hZ (hw _ (List.mem_of_getElem? (i := 8) rfl)) (hw _ (List.mem_of_getElem? (i := 1) rfl)) (by decide) (by decide)) q325a q325c (g := (mkF m 95 #[.val (.int i0), .val (.int i1), .val (.int (3 : Int32)), .val (.int (1 : Int32)), .val (.int (1 : Int32)), .val (.ref a_BOTH), .val (.ref b314), .val (.int (1 : Int32))] [(.ref a_BOTH)])) rfl (by rw [hml]; rfl) (Steps.refl _) (argsL := []) (rest := []) (lenOf pd_0 rfl) rfl (by show 2 * 0 + _ ≤ _; exact Nat.le_of_eq rfl) (hb hby at_95) (fun _ _ => ⟨rfl, e322, (by decide : 1 + 0 ≤ _), (by decide : 4 + 0 ≤ _)⟩)
        dsimp only [Pt.U, Pt.locs, Pt.cells, Pt.slots] at X325 l325 y325 z325 st325 hQ325
        subst l325 y325 z325
        obtain ⟨rfl, N325q, hh325⟩ := hQ325
        have N325 := Fr.app N322 N325q
        obtain ⟨cq327, kq327, q327a, q327b, q327c⟩ := isOf hZ hh325 f326
        obtain ⟨_, _, ⟨T327, L327, k327, n327⟩, -, X327, ⟨Lc327, hQ327, l327, y327, z327⟩, st327⟩ := X325.virtualBack hx (y := (⟨"com/example/carbonfold/carbonfold/model/RosterItem$Subscription", "withTo", "(Z)Lcom/example/carbonfold/carbonfold/model/RosterItem$Subscription;"⟩ : MethodName)) (z := (⟨"com/example/carbonfold/carbonfold/model/RosterItem$Subscription", "withTo", "(Z)Lcom/example/carbonfold/carbonfold/model/RosterItem$Subscription;"⟩ : MethodName)) hown (mvT hZ (hw _ (List.mem_of_getElem? (i := 13) rfl))) (mvT hZ (hw _ (List.mem_of_getElem? (i := 14) rfl))) (notFace_of_selects (args := #[]) (mvT hZ (hw _ (List.mem_of_getElem? (i := 16) rfl)))) (mvT hZ (hw _ (List.mem_of_getElem? (i := 16) rfl))) (mvT hZ (hw _ (List.mem_of_getElem? (i := 15) rfl))) (by decide) (backOf (W := 0) (rm_withTo_28 l Z a0 hw [] a_NONE a_TO a_BOTH a_FROM h322 n0 O324 En) hZ (hw _ (List.mem_of_getElem? (i := 17) rfl)) (hw _ (List.mem_of_getElem? (i := 1) rfl)) (by decide) (by decide)) q327a q327c (g := (mkF m 106 #[.val (.int i0), .val (.int i1), .val (.int (3 : Int32)), .val (.int (1 : Int32)), .val (.int (1 : Int32)), .val (.ref a_BOTH), .val (.ref b314), .val (.int (1 : Int32))] [(.int (1 : Int32)), (.ref a_BOTH)])) rfl (by rw [hml]; rfl) (Steps.refl _) (argsL := [(.int (1 : Int32))]) (rest := []) (lenOf pd_2 rfl) rfl (by show 2 * 0 + _ ≤ _; exact Nat.le_of_eq rfl) (hb hby at_106) (fun _ _ => ⟨rfl, hh325, (by decide : 1 + 0 ≤ _), (by decide : 4 + 0 ≤ _)⟩)
        dsimp only [Pt.U, Pt.locs, Pt.cells, Pt.slots] at X327 l327 y327 z327 st327 hQ327
        subst l327 y327 z327
        obtain ⟨rfl, N327q, hh327⟩ := hQ327
        have N327 := Fr.app N325 N327q
        obtain ⟨cq328, kq328, q328a, q328b, q328c⟩ := isOf hZ hh327 f326
        obtain ⟨_, _, ⟨T328, L328, k328, n328⟩, -, X328, ⟨Lc328, hQ328, l328, y328, z328⟩, st328⟩ := X327.virtualBack hx (y := (⟨"com/example/carbonfold/carbonfold/model/RosterItem$Subscription", "hasTo", "()Z"⟩ : MethodName)) (z := (⟨"com/example/carbonfold/carbonfold/model/RosterItem$Subscription", "hasTo", "()Z"⟩ : MethodName)) hown (mvT hZ (hw _ (List.mem_of_getElem? (i := 4) rfl))) (mvT hZ (hw _ (List.mem_of_getElem? (i := 5) rfl))) (notFace_of_selects (args := #[]) (mvT hZ (hw _ (List.mem_of_getElem? (i := 7) rfl)))) (mvT hZ (hw _ (List.mem_of_getElem? (i := 7) rfl))) (mvT hZ (hw _ (List.mem_of_getElem? (i := 6) rfl))) (by decide) (backOf (W := 0) (rm_hasTo_17 l Z a0 hw [] a_NONE a_TO a_BOTH a_FROM h322 n0 O324 En) hZ (hw _ (List.mem_of_getElem? (i := 8) rfl)) (hw _ (List.mem_of_getElem? (i := 1) rfl)) (by decide) (by decide)) q328a q328c (g := (mkF m 109 #[.val (.int i0), .val (.int i1), .val (.int (3 : Int32)), .val (.int (1 : Int32)), .val (.int (1 : Int32)), .val (.ref a_BOTH), .val (.ref b314), .val (.int (1 : Int32))] [(.ref a_BOTH)])) rfl (by rw [hml]; rfl) (Steps.refl _) (argsL := []) (rest := []) (lenOf pd_0 rfl) rfl (by show 2 * 0 + _ ≤ _; exact Nat.le_of_eq rfl) (hb hby at_109) (fun _ _ => ⟨rfl, hh327, (by decide : 1 + 0 ≤ _), (by decide : 4 + 0 ≤ _)⟩)
        dsimp only [Pt.U, Pt.locs, Pt.cells, Pt.slots] at X328 l328 y328 z328 st328 hQ328
        subst l328 y328 z328
        obtain ⟨rfl, N328q, hh328⟩ := hQ328
        have N328 := Fr.app N327 N328q
        obtain ⟨cq329, kq329, q329a, q329b, q329c⟩ := isOf hZ hh328 f326
        obtain ⟨_, _, ⟨T329, L329, k329, n329⟩, -, X329, ⟨Lc329, hQ329, l329, y329, z329⟩, st329⟩ := X328.virtualBack hx (y := (⟨"com/example/carbonfold/carbonfold/model/RosterItem$Subscription", "withFrom", "(Z)Lcom/example/carbonfold/carbonfold/model/RosterItem$Subscription;"⟩ : MethodName)) (z := (⟨"com/example/carbonfold/carbonfold/model/RosterItem$Subscription", "withFrom", "(Z)Lcom/example/carbonfold/carbonfold/model/RosterItem$Subscription;"⟩ : MethodName)) hown (mvT hZ (hw _ (List.mem_of_getElem? (i := 28) rfl))) (mvT hZ (hw _ (List.mem_of_getElem? (i := 29) rfl))) (notFace_of_selects (args := #[]) (mvT hZ (hw _ (List.mem_of_getElem? (i := 31) rfl)))) (mvT hZ (hw _ (List.mem_of_getElem? (i := 31) rfl))) (mvT hZ (hw _ (List.mem_of_getElem? (i := 30) rfl))) (by decide) (backOf (W := 0) (rm_withFrom_27 l Z a0 hw [] a_NONE a_TO a_BOTH a_FROM h322 n0 O324 En) hZ (hw _ (List.mem_of_getElem? (i := 32) rfl)) (hw _ (List.mem_of_getElem? (i := 1) rfl)) (by decide) (by decide)) q329a q329c (g := (mkF m 120 #[.val (.int i0), .val (.int i1), .val (.int (3 : Int32)), .val (.int (1 : Int32)), .val (.int (1 : Int32)), .val (.ref a_BOTH), .val (.ref b314), .val (.int (1 : Int32))] [(.int (1 : Int32)), (.ref a_BOTH)])) rfl (by rw [hml]; rfl) (Steps.refl _) (argsL := [(.int (1 : Int32))]) (rest := []) (lenOf pd_2 rfl) rfl (by show 2 * 0 + _ ≤ _; exact Nat.le_of_eq rfl) (hb hby at_120) (fun _ _ => ⟨rfl, hh328, (by decide : 1 + 0 ≤ _), (by decide : 4 + 0 ≤ _)⟩)
        dsimp only [Pt.U, Pt.locs, Pt.cells, Pt.slots] at X329 l329 y329 z329 st329 hQ329
        subst l329 y329 z329
        obtain ⟨rfl, N329q, hh329⟩ := hQ329
        have N329 := Fr.app N328 N329q
        obtain ⟨cq330, kq330, q330a, q330b, q330c⟩ := isOf hZ hh329 f326
        obtain ⟨_, _, ⟨T330, L330, k330, n330⟩, -, X330, ⟨Lc330, hQ330, l330, y330, z330⟩, st330⟩ := X329.virtualBack hx (y := (⟨"com/example/carbonfold/carbonfold/model/RosterItem$Subscription", "hasTo", "()Z"⟩ : MethodName)) (z := (⟨"com/example/carbonfold/carbonfold/model/RosterItem$Subscription", "hasTo", "()Z"⟩ : MethodName)) hown (mvT hZ (hw _ (List.mem_of_getElem? (i := 4) rfl))) (mvT hZ (hw _ (List.mem_of_getElem? (i := 5) rfl))) (notFace_of_selects (args := #[]) (mvT hZ (hw _ (List.mem_of_getElem? (i := 7) rfl)))) (mvT hZ (hw _ (List.mem_of_getElem? (i := 7) rfl))) (mvT hZ (hw _ (List.mem_of_getElem? (i := 6) rfl))) (by decide) (backOf (W := 0) (rm_hasTo_17 l Z a0 hw [] a_NONE a_TO a_BOTH a_FROM h322 n0 O324 En) hZ (hw _ (List.mem_of_getElem? (i := 8) rfl)) (hw _ (List.mem_of_getElem? (i := 1) rfl)) (by decide) (by decide)) q330a q330c (g := (mkF m 123 #[.val (.int i0), .val (.int i1), .val (.int (3 : Int32)), .val (.int (1 : Int32)), .val (.int (1 : Int32)), .val (.ref a_BOTH), .val (.ref b314), .val (.int (1 : Int32))] [(.ref a_BOTH)])) rfl (by rw [hml]; rfl) (Steps.refl _) (argsL := []) (rest := []) (lenOf pd_0 rfl) rfl (by show 2 * 0 + _ ≤ _; exact Nat.le_of_eq rfl) (hb hby at_123) (fun _ _ => ⟨rfl, hh329, (by decide : 1 + 0 ≤ _), (by decide : 4 + 0 ≤ _)⟩)
        dsimp only [Pt.U, Pt.locs, Pt.cells, Pt.slots] at X330 l330 y330 z330 st330 hQ330
        subst l330 y330 z330
        obtain ⟨rfl, N330q, hh330⟩ := hQ330
        have N330 := Fr.app N329 N330q
        obtain ⟨fs, hr, hrun, hended, hW, hsame⟩ := X330.leave (v := some (.int (1 : Int32))) (fun h => by rw [Bd.returns] at h; cases h)
        refine ⟨_, _, pre292 _ ?_, hrun, hended, _, _, rfl, ?_, ⟨_, rfl⟩, hW, hsame.mono (by decide) (by decide)⟩
        · skip
          show Steps p.tables e below (s₁.setTop (mkF m 19 #[.val (.int i0), .val (.int i1), .val (.int (3 : Int32)), .val (.int (1 : Int32)), .unset, .unset, .unset, .unset] [(.int (i1 &&& (2 : Int32)))])) _
          rw [hk293]
          show Steps p.tables e below (s₁.setTop (mkF m 19 #[.val (.int i0), .val (.int i1), .val (.int (3 : Int32)), .val (.int (1 : Int32)), .unset, .unset, .unset, .unset] [(.int (2 : Int32))])) _
          refine XS.ifNo X0.here hx rfl (hb hby at_19) rfl (by decide) ?_
          show Steps p.tables e below (s₁.setTop (mkF m 22 #[.val (.int i0), .val (.int i1), .val (.int (3 : Int32)), .val (.int (1 : Int32)), .unset, .unset, .unset, .unset] [])) _
          refine XS.iconst X0.here hx rfl (hb hby at_22) ?_
          show Steps p.tables e below (s₁.setTop (mkF m 23 #[.val (.int i0), .val (.int i1), .val (.int (3 : Int32)), .val (.int (1 : Int32)), .unset, .unset, .unset, .unset] [(.int (1 : Int32))])) _
          refine XS.goto X0.here hx rfl (pc0 := 23) (pc' := 27) rfl (hb hby at_23) (by decide) (by decide) ?_
          show Steps p.tables e below (s₁.setTop (mkF m 27 #[.val (.int i0), .val (.int i1), .val (.int (3 : Int32)), .val (.int (1 : Int32)), .unset, .unset, .unset, .unset] [(.int (1 : Int32))])) _
          refine XS.istore X0.here hx rfl (hb hby at_27) rfl (l' := #[.val (.int i0), .val (.int i1), .val (.int (3 : Int32)), .val (.int (1 : Int32)), .val (.int (1 : Int32)), .unset, .unset, .unset]) rfl ?_
          show Steps p.tables e below (s₁.setTop (mkF m 29 #[.val (.int i0), .val (.int i1), .val (.int (3 : Int32)), .val (.int (1 : Int32)), .val (.int (1 : Int32)), .unset, .unset, .unset] [])) _
          refine XS.iloadN X0.here hx rfl (hb hby at_29) rfl ?_
          show Steps p.tables e below (s₁.setTop (mkF m 30 #[.val (.int i0), .val (.int i1), .val (.int (3 : Int32)), .val (.int (1 : Int32)), .val (.int (1 : Int32)), .unset, .unset, .unset] [(.int (3 : Int32))])) _
          refine XS.ifYes X0.here hx rfl (pc0 := 30) (pc' := 39) rfl (hb hby at_30) rfl (by decide) (by decide) (by decide) ?_
          show Steps p.tables e below (s₁.setTop (mkF m 39 #[.val (.int i0), .val (.int i1), .val (.int (3 : Int32)), .val (.int (1 : Int32)), .val (.int (1 : Int32)), .unset, .unset, .unset] [])) _
          refine XS.iloadN X0.here hx rfl (hb hby at_39) rfl ?_
          show Steps p.tables e below (s₁.setTop (mkF m 40 #[.val (.int i0), .val (.int i1), .val (.int (3 : Int32)), .val (.int (1 : Int32)), .val (.int (1 : Int32)), .unset, .unset, .unset] [(.int (3 : Int32))])) _
          refine XS.iconst X0.here hx rfl (hb hby at_40) ?_
          show Steps p.tables e below (s₁.setTop (mkF m 41 #[.val (.int i0), .val (.int i1), .val (.int (3 : Int32)), .val (.int (1 : Int32)), .val (.int (1 : Int32)), .unset, .unset, .unset] [(.int (1 : Int32)), (.int (3 : Int32))])) _
          refine XS.icmpYes X0.here hx rfl (pc0 := 41) (pc' := 50) rfl (hb hby at_41) rfl (by decide) (by decide) (by decide) ?_
          show Steps p.tables e below (s₁.setTop (mkF m 50 #[.val (.int i0), .val (.int i1), .val (.int (3 : Int32)), .val (.int (1 : Int32)), .val (.int (1 : Int32)), .unset, .unset, .unset] [])) _
          refine XS.iloadN X0.here hx rfl (hb hby at_50) rfl ?_
          show Steps p.tables e below (s₁.setTop (mkF m 51 #[.val (.int i0), .val (.int i1), .val (.int (3 : Int32)), .val (.int (1 : Int32)), .val (.int (1 : Int32)), .unset, .unset, .unset] [(.int (3 : Int32))])) _
          refine XS.iconst X0.here hx rfl (hb hby at_51) ?_
          show Steps p.tables e below (s₁.setTop (mkF m 52 #[.val (.int i0), .val (.int i1), .val (.int (3 : Int32)), .val (.int (1 : Int32)), .val (.int (1 : Int32)), .unset, .unset, .unset] [(.int (2 : Int32)), (.int (3 : Int32))])) _
          refine XS.icmpYes X0.here hx rfl (pc0 := 52) (pc' := 61) rfl (hb hby at_52) rfl (by decide) (by decide) (by decide) ?_
          show Steps p.tables e below (s₁.setTop (mkF m 61 #[.val (.int i0), .val (.int i1), .val (.int (3 : Int32)), .val (.int (1 : Int32)), .val (.int (1 : Int32)), .unset, .unset, .unset] [])) _
          refine st313 _ ?_
          show Steps p.tables e below (T313.setTop (mkF m 64 #[.val (.int i0), .val (.int i1), .val (.int (3 : Int32)), .val (.int (1 : Int32)), .val (.int (1 : Int32)), .unset, .unset, .unset] [(.ref a_BOTH)])) _
          refine XS.astore X313.here hx rfl (hb hby at_64) rfl rfl (l' := #[.val (.int i0), .val (.int i1), .val (.int (3 : Int32)), .val (.int (1 : Int32)), .val (.int (1 : Int32)), .val (.ref a_BOTH), .unset, .unset]) rfl ?_
          show Steps p.tables e below (T313.setTop (mkF m 66 #[.val (.int i0), .val (.int i1), .val (.int (3 : Int32)), .val (.int (1 : Int32)), .val (.int (1 : Int32)), .val (.ref a_BOTH), .unset, .unset] [])) _
          refine XS.iconst X313.here hx rfl (hb hby at_66) ?_
          show Steps p.tables e below (T313.setTop (mkF m 67 #[.val (.int i0), .val (.int i1), .val (.int (3 : Int32)), .val (.int (1 : Int32)), .val (.int (1 : Int32)), .val (.ref a_BOTH), .unset, .unset] [(.int (4 : Int32))])) _
          refine st314 _ ?_
          show Steps p.tables e below (T314.setTop (mkF m 69 #[.val (.int i0), .val (.int i1), .val (.int (3 : Int32)), .val (.int (1 : Int32)), .val (.int (1 : Int32)), .val (.ref a_BOTH), .unset, .unset] [(.ref b314)])) _
          refine XS.dup X314.here hx rfl (hb hby at_69) rfl rfl ?_
          show Steps p.tables e below (T314.setTop (mkF m 70 #[.val (.int i0), .val (.int i1), .val (.int (3 : Int32)), .val (.int (1 : Int32)), .val (.int (1 : Int32)), .val (.ref a_BOTH), .unset, .unset] [(.ref b314), (.ref b314)])) _
          refine XS.iconst X314.here hx rfl (hb hby at_70) ?_
          show Steps p.tables e below (T314.setTop (mkF m 71 #[.val (.int i0), .val (.int i1), .val (.int (3 : Int32)), .val (.int (1 : Int32)), .val (.int (1 : Int32)), .val (.ref a_BOTH), .unset, .unset] [(.int (0 : Int32)), (.ref b314), (.ref b314)])) _
          refine XS.iconst X314.here hx rfl (hb hby at_71) ?_
          show Steps p.tables e below (T314.setTop (mkF m 72 #[.val (.int i0), .val (.int i1), .val (.int (3 : Int32)), .val (.int (1 : Int32)), .val (.int (1 : Int32)), .val (.ref a_BOTH), .unset, .unset] [(.int (0 : Int32)), (.int (0 : Int32)), (.ref b314), (.ref b314)])) _
          refine st316 _ ?_
          show Steps p.tables e below (T316.setTop (mkF m 73 #[.val (.int i0), .val (.int i1), .val (.int (3 : Int32)), .val (.int (1 : Int32)), .val (.int (1 : Int32)), .val (.ref a_BOTH), .unset, .unset] [(.ref b314)])) _
          refine XS.dup X316.here hx rfl (hb hby at_73) rfl rfl ?_
          show Steps p.tables e below (T316.setTop (mkF m 74 #[.val (.int i0), .val (.int i1), .val (.int (3 : Int32)), .val (.int (1 : Int32)), .val (.int (1 : Int32)), .val (.ref a_BOTH), .unset, .unset] [(.ref b314), (.ref b314)])) _
          refine XS.iconst X316.here hx rfl (hb hby at_74) ?_
          show Steps p.tables e below (T316.setTop (mkF m 75 #[.val (.int i0), .val (.int i1), .val (.int (3 : Int32)), .val (.int (1 : Int32)), .val (.int (1 : Int32)), .val (.ref a_BOTH), .unset, .unset] [(.int (1 : Int32)), (.ref b314), (.ref b314)])) _
          refine XS.iconst X316.here hx rfl (hb hby at_75) ?_
          show Steps p.tables e below (T316.setTop (mkF m 76 #[.val (.int i0), .val (.int i1), .val (.int (3 : Int32)), .val (.int (1 : Int32)), .val (.int (1 : Int32)), .val (.ref a_BOTH), .unset, .unset] [(.int (1 : Int32)), (.int (1 : Int32)), (.ref b314), (.ref b314)])) _
          refine st318 _ ?_
          show Steps p.tables e below (T318.setTop (mkF m 77 #[.val (.int i0), .val (.int i1), .val (.int (3 : Int32)), .val (.int (1 : Int32)), .val (.int (1 : Int32)), .val (.ref a_BOTH), .unset, .unset] [(.ref b314)])) _
          refine XS.dup X318.here hx rfl (hb hby at_77) rfl rfl ?_
          show Steps p.tables e below (T318.setTop (mkF m 78 #[.val (.int i0), .val (.int i1), .val (.int (3 : Int32)), .val (.int (1 : Int32)), .val (.int (1 : Int32)), .val (.ref a_BOTH), .unset, .unset] [(.ref b314), (.ref b314)])) _
          refine XS.iconst X318.here hx rfl (hb hby at_78) ?_
          show Steps p.tables e below (T318.setTop (mkF m 79 #[.val (.int i0), .val (.int i1), .val (.int (3 : Int32)), .val (.int (1 : Int32)), .val (.int (1 : Int32)), .val (.ref a_BOTH), .unset, .unset] [(.int (2 : Int32)), (.ref b314), (.ref b314)])) _
          refine XS.iconst X318.here hx rfl (hb hby at_79) ?_
          show Steps p.tables e below (T318.setTop (mkF m 80 #[.val (.int i0), .val (.int i1), .val (.int (3 : Int32)), .val (.int (1 : Int32)), .val (.int (1 : Int32)), .val (.ref a_BOTH), .unset, .unset] [(.int (0 : Int32)), (.int (2 : Int32)), (.ref b314), (.ref b314)])) _
          refine st320 _ ?_
          show Steps p.tables e below (T320.setTop (mkF m 81 #[.val (.int i0), .val (.int i1), .val (.int (3 : Int32)), .val (.int (1 : Int32)), .val (.int (1 : Int32)), .val (.ref a_BOTH), .unset, .unset] [(.ref b314)])) _
          refine XS.dup X320.here hx rfl (hb hby at_81) rfl rfl ?_
          show Steps p.tables e below (T320.setTop (mkF m 82 #[.val (.int i0), .val (.int i1), .val (.int (3 : Int32)), .val (.int (1 : Int32)), .val (.int (1 : Int32)), .val (.ref a_BOTH), .unset, .unset] [(.ref b314), (.ref b314)])) _
          refine XS.iconst X320.here hx rfl (hb hby at_82) ?_
          show Steps p.tables e below (T320.setTop (mkF m 83 #[.val (.int i0), .val (.int i1), .val (.int (3 : Int32)), .val (.int (1 : Int32)), .val (.int (1 : Int32)), .val (.ref a_BOTH), .unset, .unset] [(.int (3 : Int32)), (.ref b314), (.ref b314)])) _
          refine XS.iconst X320.here hx rfl (hb hby at_83) ?_
          show Steps p.tables e below (T320.setTop (mkF m 84 #[.val (.int i0), .val (.int i1), .val (.int (3 : Int32)), .val (.int (1 : Int32)), .val (.int (1 : Int32)), .val (.ref a_BOTH), .unset, .unset] [(.int (1 : Int32)), (.int (3 : Int32)), (.ref b314), (.ref b314)])) _
          refine st322 _ ?_
          show Steps p.tables e below (T322.setTop (mkF m 85 #[.val (.int i0), .val (.int i1), .val (.int (3 : Int32)), .val (.int (1 : Int32)), .val (.int (1 : Int32)), .val (.ref a_BOTH), .unset, .unset] [(.ref b314)])) _
          refine XS.astore X322.here hx rfl (hb hby at_85) rfl rfl (l' := #[.val (.int i0), .val (.int i1), .val (.int (3 : Int32)), .val (.int (1 : Int32)), .val (.int (1 : Int32)), .val (.ref a_BOTH), .val (.ref b314), .unset]) rfl ?_
          show Steps p.tables e below (T322.setTop (mkF m 87 #[.val (.int i0), .val (.int i1), .val (.int (3 : Int32)), .val (.int (1 : Int32)), .val (.int (1 : Int32)), .val (.ref a_BOTH), .val (.ref b314), .unset] [])) _
          refine XS.aload X322.here hx rfl (hb hby at_87) rfl rfl ?_
          show Steps p.tables e below (T322.setTop (mkF m 89 #[.val (.int i0), .val (.int i1), .val (.int (3 : Int32)), .val (.int (1 : Int32)), .val (.int (1 : Int32)), .val (.ref a_BOTH), .val (.ref b314), .unset] [(.ref b314)])) _
          refine XS.iloadN X322.here hx rfl (hb hby at_89) rfl ?_
          show Steps p.tables e below (T322.setTop (mkF m 90 #[.val (.int i0), .val (.int i1), .val (.int (3 : Int32)), .val (.int (1 : Int32)), .val (.int (1 : Int32)), .val (.ref a_BOTH), .val (.ref b314), .unset] [(.int (3 : Int32)), (.ref b314)])) _
          refine X322.baloadBooleans hx (j := (3 : Int32)) (v := (.int (1 : Int32))) (by rw [e322]; exact Ar323.1) (State.isArrayOf_alike hZ.alike Ar323.2.1) Ar323.2.2 hin323 hat323 (g := (mkF m 90 #[.val (.int i0), .val (.int i1), .val (.int (3 : Int32)), .val (.int (1 : Int32)), .val (.int (1 : Int32)), .val (.ref a_BOTH), .val (.ref b314), .unset] [(.int (3 : Int32)), (.ref b314)])) rfl rfl (hb hby at_90) _ ?_
          show Steps p.tables e below (T322.setTop (mkF m 91 #[.val (.int i0), .val (.int i1), .val (.int (3 : Int32)), .val (.int (1 : Int32)), .val (.int (1 : Int32)), .val (.ref a_BOTH), .val (.ref b314), .unset] [(.int (1 : Int32))])) _
          refine XS.istore X322.here hx rfl (hb hby at_91) rfl (l' := #[.val (.int i0), .val (.int i1), .val (.int (3 : Int32)), .val (.int (1 : Int32)), .val (.int (1 : Int32)), .val (.ref a_BOTH), .val (.ref b314), .val (.int (1 : Int32))]) rfl ?_
          show Steps p.tables e below (T322.setTop (mkF m 93 #[.val (.int i0), .val (.int i1), .val (.int (3 : Int32)), .val (.int (1 : Int32)), .val (.int (1 : Int32)), .val (.ref a_BOTH), .val (.ref b314), .val (.int (1 : Int32))] [])) _
          refine XS.aload X322.here hx rfl (hb hby at_93) rfl rfl ?_
          show Steps p.tables e below (T322.setTop (mkF m 95 #[.val (.int i0), .val (.int i1), .val (.int (3 : Int32)), .val (.int (1 : Int32)), .val (.int (1 : Int32)), .val (.ref a_BOTH), .val (.ref b314), .val (.int (1 : Int32))] [(.ref a_BOTH)])) _
          refine st325.trans ?_
          show Steps p.tables e below (T325.setTop (mkF m 98 #[.val (.int i0), .val (.int i1), .val (.int (3 : Int32)), .val (.int (1 : Int32)), .val (.int (1 : Int32)), .val (.ref a_BOTH), .val (.ref b314), .val (.int (1 : Int32))] [(.int (1 : Int32))])) _
          refine XS.iload X325.here hx rfl (hb hby at_98) rfl ?_
          show Steps p.tables e below (T325.setTop (mkF m 100 #[.val (.int i0), .val (.int i1), .val (.int (3 : Int32)), .val (.int (1 : Int32)), .val (.int (1 : Int32)), .val (.ref a_BOTH), .val (.ref b314), .val (.int (1 : Int32))] [(.int (1 : Int32)), (.int (1 : Int32))])) _
          refine XS.icmpNo X325.here hx rfl (hb hby at_100) rfl (by decide) ?_
          show Steps p.tables e below (T325.setTop (mkF m 103 #[.val (.int i0), .val (.int i1), .val (.int (3 : Int32)), .val (.int (1 : Int32)), .val (.int (1 : Int32)), .val (.ref a_BOTH), .val (.ref b314), .val (.int (1 : Int32))] [])) _
          refine XS.aload X325.here hx rfl (hb hby at_103) rfl rfl ?_
          show Steps p.tables e below (T325.setTop (mkF m 105 #[.val (.int i0), .val (.int i1), .val (.int (3 : Int32)), .val (.int (1 : Int32)), .val (.int (1 : Int32)), .val (.ref a_BOTH), .val (.ref b314), .val (.int (1 : Int32))] [(.ref a_BOTH)])) _
          refine XS.iloadN X325.here hx rfl (hb hby at_105) rfl ?_
          show Steps p.tables e below (T325.setTop (mkF m 106 #[.val (.int i0), .val (.int i1), .val (.int (3 : Int32)), .val (.int (1 : Int32)), .val (.int (1 : Int32)), .val (.ref a_BOTH), .val (.ref b314), .val (.int (1 : Int32))] [(.int (1 : Int32)), (.ref a_BOTH)])) _
          refine st327.trans ?_
          show Steps p.tables e below (T327.setTop (mkF m 109 #[.val (.int i0), .val (.int i1), .val (.int (3 : Int32)), .val (.int (1 : Int32)), .val (.int (1 : Int32)), .val (.ref a_BOTH), .val (.ref b314), .val (.int (1 : Int32))] [(.ref a_BOTH)])) _
          refine st328.trans ?_
          show Steps p.tables e below (T328.setTop (mkF m 112 #[.val (.int i0), .val (.int i1), .val (.int (3 : Int32)), .val (.int (1 : Int32)), .val (.int (1 : Int32)), .val (.ref a_BOTH), .val (.ref b314), .val (.int (1 : Int32))] [(.int (1 : Int32))])) _
          refine XS.iloadN X328.here hx rfl (hb hby at_112) rfl ?_
          show Steps p.tables e below (T328.setTop (mkF m 113 #[.val (.int i0), .val (.int i1), .val (.int (3 : Int32)), .val (.int (1 : Int32)), .val (.int (1 : Int32)), .val (.ref a_BOTH), .val (.ref b314), .val (.int (1 : Int32))] [(.int (1 : Int32)), (.int (1 : Int32))])) _
          refine XS.icmpNo X328.here hx rfl (hb hby at_113) rfl (by decide) ?_
          show Steps p.tables e below (T328.setTop (mkF m 116 #[.val (.int i0), .val (.int i1), .val (.int (3 : Int32)), .val (.int (1 : Int32)), .val (.int (1 : Int32)), .val (.ref a_BOTH), .val (.ref b314), .val (.int (1 : Int32))] [])) _
          refine XS.aload X328.here hx rfl (hb hby at_116) rfl rfl ?_
          show Steps p.tables e below (T328.setTop (mkF m 118 #[.val (.int i0), .val (.int i1), .val (.int (3 : Int32)), .val (.int (1 : Int32)), .val (.int (1 : Int32)), .val (.ref a_BOTH), .val (.ref b314), .val (.int (1 : Int32))] [(.ref a_BOTH)])) _
          refine XS.iload X328.here hx rfl (hb hby at_118) rfl ?_
          show Steps p.tables e below (T328.setTop (mkF m 120 #[.val (.int i0), .val (.int i1), .val (.int (3 : Int32)), .val (.int (1 : Int32)), .val (.int (1 : Int32)), .val (.ref a_BOTH), .val (.ref b314), .val (.int (1 : Int32))] [(.int (1 : Int32)), (.ref a_BOTH)])) _
          refine st329.trans ?_
          show Steps p.tables e below (T329.setTop (mkF m 123 #[.val (.int i0), .val (.int i1), .val (.int (3 : Int32)), .val (.int (1 : Int32)), .val (.int (1 : Int32)), .val (.ref a_BOTH), .val (.ref b314), .val (.int (1 : Int32))] [(.ref a_BOTH)])) _
          refine st330.trans ?_
          show Steps p.tables e below (T330.setTop (mkF m 126 #[.val (.int i0), .val (.int i1), .val (.int (3 : Int32)), .val (.int (1 : Int32)), .val (.int (1 : Int32)), .val (.ref a_BOTH), .val (.ref b314), .val (.int (1 : Int32))] [(.int (1 : Int32))])) _
          refine XS.iload X330.here hx rfl (hb hby at_126) rfl ?_
          show Steps p.tables e below (T330.setTop (mkF m 128 #[.val (.int i0), .val (.int i1), .val (.int (3 : Int32)), .val (.int (1 : Int32)), .val (.int (1 : Int32)), .val (.ref a_BOTH), .val (.ref b314), .val (.int (1 : Int32))] [(.int (1 : Int32)), (.int (1 : Int32))])) _
          refine XS.icmpNo X330.here hx rfl (hb hby at_128) rfl (by decide) ?_
          show Steps p.tables e below (T330.setTop (mkF m 131 #[.val (.int i0), .val (.int i1), .val (.int (3 : Int32)), .val (.int (1 : Int32)), .val (.int (1 : Int32)), .val (.ref a_BOTH), .val (.ref b314), .val (.int (1 : Int32))] [])) _
          refine XS.iconst X330.here hx rfl (hb hby at_131) ?_
          show Steps p.tables e below (T330.setTop (mkF m 132 #[.val (.int i0), .val (.int i1), .val (.int (3 : Int32)), .val (.int (1 : Int32)), .val (.int (1 : Int32)), .val (.ref a_BOTH), .val (.ref b314), .val (.int (1 : Int32))] [(.int (1 : Int32))])) _
          refine XS.goto X330.here hx rfl (pc0 := 132) (pc' := 136) rfl (hb hby at_132) (by decide) (by decide) ?_
          show Steps p.tables e below (T330.setTop (mkF m 136 #[.val (.int i0), .val (.int i1), .val (.int (3 : Int32)), .val (.int (1 : Int32)), .val (.int (1 : Int32)), .val (.ref a_BOTH), .val (.ref b314), .val (.int (1 : Int32))] [(.int (1 : Int32))])) _
          exact retN X330 hx (t := .boolean) Bd.returns (by simp) (hb hby at_136) hr
        · show QL n0 _ T330.heap _
          rw [hh330]
          exact ⟨rfl, N330⟩
set_option maxRecDepth 65536 in
set_option maxHeartbeats 40000000 in
theorem comes_1 {Post : Tables → Env → Array Value → State → Outcome → State → Prop} (hpost : ∀ tb e args s v u, (limb_1_1.after args s (.returned v) u = true ∧ limb_1_2.after args s (.returned v) u = true ∧ True) → FrameEnd s (.returned v) u (Jvm.fieldLocs frame_1_writes args s ++ Jvm.arrayLocs frame_1_arrays args s ++ Jvm.staticLocs frame_1_statics s) 16 128 → Post tb e args s (.returned v) u) :
    ArmFor flags0 classFile x code maxLocals ret World_1 tables_1 room_1 Calls_1 rest_1 Pre_1 Post := by
  intro l hfl _ _ p e ha hc hk s m args below hf hA hF happ hP
  obtain ⟨hcalls, hrest, hpre⟩ := hP
  obtain ⟨-, -, -, hnamed, -, -, -, hat⟩ := (Spec.applies_iff hf).mp happ
  obtain ⟨hg, hn⟩ := and_e (Cond.before_iff.mp (show (Jvm.Cond.and given_1 narrow_1).before args s = true from hpre))
  obtain ⟨g0, r0⟩ := and_e hg
  obtain ⟨g1, r1⟩ := and_e r0
  obtain ⟨w0, w1, rfl⟩ : ∃ w0 w1 : Value, args = #[w0, w1] := by
    have hs : args.size = 2 := by simpa [Cond.value, given_1] using g0
    obtain ⟨L⟩ := args
    match L, hs with
    | [w0, w1], _ => exact ⟨w0, w1, rfl⟩
  have hw := fun d (hd : d ∈ tables_1) => atoms_spec (ws := Jvm.Cond.code x code maxLocals ret :: tables_1) hat d (List.mem_cons_of_mem _ hd)
  have hfit : Fit s := fun {y c} hc i hi => by
    obtain ⟨ha, rfl⟩ := Array.getElem?_eq_some_iff.mp hc
    have q := List.all_eq_true.mp ((Array.all_eq_true_iff_forall_mem.mp hF) _ (Array.getElem_mem ha)) i (List.mem_range.mpr hi)
    simpa [Array.getElem?_eq_getElem hi] using q
  obtain ⟨i0, ei0⟩ := is_v g1
  obtain rfl : w0 = (.int i0) := Option.some.inj ei0
  obtain ⟨i1, ei1⟩ := is_v r1
  obtain rfl : w1 = (.int i1) := Option.some.inj ei1
  obtain ⟨n0, m0⟩ := and_e hn
  obtain ⟨a_NONE, ev_a_NONE⟩ := exa_v n0
  have X_a_NONE := Exa.start ev_a_NONE n0
  have S_a_NONE := Sta.start ev_a_NONE (Or.inr ⟨(hw _ (List.mem_of_getElem? (i := 1) rfl)), (hw _ (List.mem_of_getElem? (i := 2) rfl))⟩)
  obtain ⟨n1, m1⟩ := and_e m0
  obtain ⟨a_TO, ev_a_TO⟩ := exa_v n1
  have X_a_TO := Exa.start ev_a_TO n1
  have S_a_TO := Sta.start ev_a_TO (Or.inr ⟨(hw _ (List.mem_of_getElem? (i := 1) rfl)), (hw _ (List.mem_of_getElem? (i := 10) rfl))⟩)
  obtain ⟨n2, m2⟩ := and_e m1
  have F_a_NONE_ordinal := own_fldI ev_a_NONE n2
  obtain ⟨n3, m3⟩ := and_e m2
  have F_a_TO_ordinal := own_fldI ev_a_TO n3
  obtain ⟨n4, m4⟩ := and_e m3
  obtain ⟨a_BOTH, ev_a_BOTH⟩ := exa_v n4
  have X_a_BOTH := Exa.start ev_a_BOTH n4
  have S_a_BOTH := Sta.start ev_a_BOTH (Or.inr ⟨(hw _ (List.mem_of_getElem? (i := 1) rfl)), (hw _ (List.mem_of_getElem? (i := 12) rfl))⟩)
  obtain ⟨n5, m5⟩ := and_e m4
  have F_a_BOTH_ordinal := own_fldI ev_a_BOTH n5
  obtain ⟨n6, m6⟩ := and_e m5
  obtain ⟨a_FROM, ev_a_FROM⟩ := exa_v n6
  have X_a_FROM := Exa.start ev_a_FROM n6
  have S_a_FROM := Sta.start ev_a_FROM (Or.inr ⟨(hw _ (List.mem_of_getElem? (i := 1) rfl)), (hw _ (List.mem_of_getElem? (i := 24) rfl))⟩)
  have F_a_FROM_ordinal := own_fldI ev_a_FROM m6
  obtain ⟨n, o, h1, h2, h3, _, L, rfl, ⟨rfl, N⟩, hq⟩ := rm0 l s _ hw tables_1 i0 i1 a_NONE a_TO a_BOTH a_FROM s.heap s.heap.size (Old.start s) ⟨S_a_NONE, X_a_NONE, S_a_TO, X_a_TO, S_a_BOTH, X_a_BOTH, S_a_FROM, X_a_FROM, F_a_NONE_ordinal, F_a_TO_ordinal, F_a_BOTH_ordinal, F_a_FROM_ordinal⟩ p e ha hc hk s m _ below hf ((Spec.applies_iff_loose hf).mp happ).1 ⟨rfl, State.Warmed39.refl s, rfl⟩ trivial
  refine ⟨n, _, h1, h2, h3, hpost _ _ _ _ _ _ ⟨Cond.after_iff.mpr rfl, Cond.after_iff.mpr (eq_i res_at (Term.int_eval (1)) rfl), trivial⟩ ⟨hq.1, hq.2.1, (hq.2.2.sift fun y hy => Or.inr (N y hy)).mono (by decide) (by decide)⟩⟩
theorem main_1_1 : Claimed_1_1 := comes_1 fun _ _ _ _ _ _ h hF => ⟨h.1, hF⟩
theorem main_1_2 : Claimed_1_2 := comes_1 fun _ _ _ _ _ _ h hF => ⟨h.2.1, hF⟩
end Jvm.Pilot.@@N@@
namespace Jvm.Pilot.@@N@@
open Jvm Jvm.ClassFile Sem Op Lib Jvm.Free Jvm.Stand Jvm.Pilot.@@N@@.Jvm.D
/-! MADE BY PROGRAM (witnessworld.py) out of the Statement's table words and the real class files: 14 classes; the members and pool entries that the words name. The judged class is class 1, her method 1. -/
namespace start1
open Jvm.ClassFile
def u (s : String) : CpInfo := .utf8 (stringToUtf16 s)
/-- a pool by its gaps: so many unusable entries, then the entry; so many at the end -/
def gap : Nat → List CpInfo → List CpInfo
  | 0, r => r
  | n + 1, r => .unusable :: gap n r
def poolList (es : List (Nat × CpInfo)) (last : Nat) : List CpInfo := es.foldr (fun e r => gap e.1 (e.2 :: r)) (gap last [])
def pool (es : List (Nat × CpInfo)) (last : Nat) : Array CpInfo := ⟨poolList es last⟩
def fileOf (pool : Array CpInfo) (this : Nat) (attrs : Array Attribute := #[]) (ms : Array MethodInfo := #[]) (fl : Nat := 33) (sup : Nat := 0) (ifs : Array Nat := #[]) (fds : Array FieldInfo := #[]) : ClassFile where
  minorVersion := 0
  majorVersion := 65
  constantPool := pool
  accessFlags := fl
  thisClass := this
  superClass := sup
  interfaces := ifs
  fields := fds
  methods := ms
  attributes := attrs
def plain (name : String) (sup : Option ClassId) : Class where
  name := name
  kind := .ordinary
  loader := none
  accessFlags := 33
  super := sup
  interfaces := #[]
  cf := none
  fields := #[]
  methods := #[]
  instanceTypes := #[]
  staticTypes := #[]
  resolved := #[]
  callSites := []
  init := .initialized
  statics := none
  mirror := none

def pool0 : Array CpInfo := pool [(5, u "<init>"), (0, u "()V"), (1, .class_ 10), (1, u "java/lang/Object")] 113

def k0m0 : Method := { name := "<init>", desc := "()V", sig := { parameters := [], returnType := none }, accessFlags := 1, code := none }
/-- java/lang/Object -/
def k0 : Class := { plain "java/lang/Object" none with
  accessFlags := 33
  interfaces := #[]
  cf := some (fileOf pool0 8 #[] #[{ accessFlags := 1, nameIndex := 5, descriptorIndex := 6, attributes := #[] }] 33 0 #[] #[])
  fields := #[]
  methods := #[k0m0]
  instanceTypes := #[]
  staticTypes := #[]
  resolved := Array.replicate 124 none
  statics := none }

def pool1 : Array CpInfo := pool [(2, .class_ 4), (1, u "java/lang/Object"), (0, u "<init>"), (0, u "()V"), (0, .fieldref 8 9), (0, .class_ 10), (0, .nameAndType 11 12), (0, u "com/example/carbonfold/carbonfold/model/RosterItem$Subscription"), (0, u "NONE"), (0, u "Lcom/example/carbonfold/carbonfold/model/RosterItem$Subscription;"), (0, .fieldref 8 14), (0, .nameAndType 15 12), (0, u "TO"), (0, .fieldref 8 17), (0, .nameAndType 18 12), (0, u "FROM"), (0, .fieldref 8 20), (0, .nameAndType 21 12), (0, u "BOTH"), (0, .methodref 8 23), (0, .nameAndType 24 25), (0, u "hasTo"), (0, u "()Z"), (0, .methodref 8 27), (0, .nameAndType 28 29), (0, u "withTo"), (0, u "(Z)Lcom/example/carbonfold/carbonfold/model/RosterItem$Subscription;"), (0, .methodref 8 31), (0, .nameAndType 32 29), (0, u "withFrom"), (0, .class_ 34), (0, u "com/example/carbonfold/carbonfold/model/SubscriptionHasToPinLaw"), (2, u "law"), (0, u "(II)Z")] 9

def k1m0 : Method := { name := "<init>", desc := "()V", sig := { parameters := [], returnType := none }, accessFlags := 1, code := none }
def k1c1 : Code := { maxStack := 4, maxLocals := 8, code := code, exceptionTable := #[], attributes := #[] }
def k1m1 : Method := { name := "law", desc := "(II)Z", sig := { parameters := [.int, .int], returnType := some .boolean }, accessFlags := 9, code := some k1c1 }
/-- com/example/carbonfold/carbonfold/model/SubscriptionHasToPinLaw -/
def k1 : Class := { plain "com/example/carbonfold/carbonfold/model/SubscriptionHasToPinLaw" (some 0) with
  accessFlags := 49
  interfaces := #[]
  cf := some (fileOf pool1 33 #[] #[{ accessFlags := 1, nameIndex := 5, descriptorIndex := 6, attributes := #[] }, { accessFlags := 9, nameIndex := 37, descriptorIndex := 38, attributes := #[] }] 49 2 #[] #[])
  fields := #[]
  methods := #[k1m0, k1m1]
  instanceTypes := #[]
  staticTypes := #[]
  resolved := Array.replicate 48 none
  statics := none }

def pool2 : Array CpInfo := pool [(1, .class_ 2), (0, u "java/lang/constant/Constable"), (0, .class_ 4), (0, u "java/lang/Object")] 6

/-- java/lang/constant/Constable -/
def k2 : Class := { plain "java/lang/constant/Constable" (some 0) with
  accessFlags := 1537
  interfaces := #[]
  cf := some (fileOf pool2 1 #[] #[] 1537 3 #[] #[])
  fields := #[]
  methods := #[]
  instanceTypes := #[]
  staticTypes := #[]
  resolved := Array.replicate 11 none
  statics := none }

def pool3 : Array CpInfo := pool [(1, .class_ 2), (0, u "java/lang/Comparable"), (0, .class_ 4), (0, u "java/lang/Object")] 7

/-- java/lang/Comparable -/
def k3 : Class := { plain "java/lang/Comparable" (some 0) with
  accessFlags := 1537
  interfaces := #[]
  cf := some (fileOf pool3 1 #[] #[] 1537 3 #[] #[])
  fields := #[]
  methods := #[]
  instanceTypes := #[]
  staticTypes := #[]
  resolved := Array.replicate 12 none
  statics := none }

def pool4 : Array CpInfo := pool [(1, .class_ 2), (0, u "java/io/Serializable"), (0, .class_ 4), (0, u "java/lang/Object")] 2

/-- java/io/Serializable -/
def k4 : Class := { plain "java/io/Serializable" (some 0) with
  accessFlags := 1537
  interfaces := #[]
  cf := some (fileOf pool4 1 #[] #[] 1537 3 #[] #[])
  fields := #[]
  methods := #[]
  instanceTypes := #[]
  staticTypes := #[]
  resolved := Array.replicate 7 none
  statics := none }

def pool5 : Array CpInfo := pool [(2, .class_ 4), (1, u "java/lang/Enum"), (0, u "name"), (0, u "Ljava/lang/String;"), (2, u "ordinal"), (0, u "I"), (1, .class_ 14), (1, u "java/lang/Object"), (4, u "hash"), (86, .class_ 108), (1, u "java/lang/Enum$EnumDesc"), (2, .class_ 112), (0, u "java/lang/constant/Constable"), (0, .class_ 114), (0, u "java/lang/Comparable"), (0, .class_ 116), (0, u "java/io/Serializable")] 87

/-- java/lang/Enum -/
def k5 : Class := { plain "java/lang/Enum" (some 0) with
  accessFlags := 1057
  interfaces := #[2, 3, 4]
  cf := some (fileOf pool5 2 #[.nestMembers #[106]] #[] 1057 12 #[111, 113, 115] #[{ accessFlags := 18, nameIndex := 5, descriptorIndex := 6, attributes := #[] }, { accessFlags := 18, nameIndex := 9, descriptorIndex := 10, attributes := #[] }, { accessFlags := 2, nameIndex := 19, descriptorIndex := 10, attributes := #[] }])
  fields := #[{ name := "name", type := (.object "java/lang/String"), accessFlags := 18, slot := 0, constantValue := 0 }, { name := "ordinal", type := .int, accessFlags := 18, slot := 1, constantValue := 0 }, { name := "hash", type := .int, accessFlags := 2, slot := 2, constantValue := 0 }]
  methods := #[]
  instanceTypes := #[(.object "java/lang/String"), .int, .int]
  staticTypes := #[]
  resolved := Array.replicate 204 none
  statics := none }

def pool6 : Array CpInfo := pool [(1, .class_ 2), (0, u "com/example/carbonfold/carbonfold/model/RosterItem$Subscription"), (0, .fieldref 1 4), (0, .nameAndType 5 6), (0, u "NONE"), (0, u "Lcom/example/carbonfold/carbonfold/model/RosterItem$Subscription;"), (0, .fieldref 1 8), (0, .nameAndType 9 6), (0, u "TO"), (0, .fieldref 1 11), (0, .nameAndType 12 6), (0, u "FROM"), (0, .fieldref 1 14), (0, .nameAndType 15 6), (0, u "BOTH"), (2, u "$VALUES"), (0, u "[Lcom/example/carbonfold/carbonfold/model/RosterItem$Subscription;"), (6, .class_ 28), (1, u "java/lang/Enum"), (22, .methodref 1 52), (0, .nameAndType 53 54), (0, u "hasFrom"), (0, u "()Z"), (0, .methodref 1 56), (0, .nameAndType 57 58), (0, u "combined"), (0, u "(ZZ)Lcom/example/carbonfold/carbonfold/model/RosterItem$Subscription;"), (0, .methodref 1 60), (0, .nameAndType 61 54), (0, u "hasTo"), (35, u "withTo"), (0, u "(Z)Lcom/example/carbonfold/carbonfold/model/RosterItem$Subscription;"), (0, u "withFrom"), (6, .class_ 107), (0, u "com/example/carbonfold/carbonfold/model/RosterItem")] 16

def k6c0 : Code := { maxStack := 2, maxLocals := 1, code := prog_67_method_5_code, exceptionTable := #[], attributes := #[] }
def k6m0 : Method := { name := "hasTo", desc := "()Z", sig := { parameters := [], returnType := some .boolean }, accessFlags := 1, code := some k6c0 }
def k6c1 : Code := { maxStack := 2, maxLocals := 1, code := prog_67_method_6_code, exceptionTable := #[], attributes := #[] }
def k6m1 : Method := { name := "hasFrom", desc := "()Z", sig := { parameters := [], returnType := some .boolean }, accessFlags := 1, code := some k6c1 }
def k6c2 : Code := { maxStack := 2, maxLocals := 2, code := prog_67_method_7_code, exceptionTable := #[], attributes := #[] }
def k6m2 : Method := { name := "withTo", desc := "(Z)Lcom/example/carbonfold/carbonfold/model/RosterItem$Subscription;", sig := { parameters := [.boolean], returnType := some (.object "com/example/carbonfold/carbonfold/model/RosterItem$Subscription") }, accessFlags := 1, code := some k6c2 }
def k6c3 : Code := { maxStack := 2, maxLocals := 2, code := prog_67_method_8_code, exceptionTable := #[], attributes := #[] }
def k6m3 : Method := { name := "withFrom", desc := "(Z)Lcom/example/carbonfold/carbonfold/model/RosterItem$Subscription;", sig := { parameters := [.boolean], returnType := some (.object "com/example/carbonfold/carbonfold/model/RosterItem$Subscription") }, accessFlags := 1, code := some k6c3 }
def k6c4 : Code := { maxStack := 1, maxLocals := 2, code := prog_67_method_9_code, exceptionTable := #[], attributes := #[] }
def k6m4 : Method := { name := "combined", desc := "(ZZ)Lcom/example/carbonfold/carbonfold/model/RosterItem$Subscription;", sig := { parameters := [.boolean, .boolean], returnType := some (.object "com/example/carbonfold/carbonfold/model/RosterItem$Subscription") }, accessFlags := 10, code := some k6c4 }
/-- com/example/carbonfold/carbonfold/model/RosterItem$Subscription -/
def k6 : Class := { plain "com/example/carbonfold/carbonfold/model/RosterItem$Subscription" (some 5) with
  accessFlags := 16433
  interfaces := #[]
  cf := some (fileOf pool6 1 #[.nestHost 106] #[{ accessFlags := 1, nameIndex := 61, descriptorIndex := 54, attributes := #[] }, { accessFlags := 1, nameIndex := 53, descriptorIndex := 54, attributes := #[] }, { accessFlags := 1, nameIndex := 97, descriptorIndex := 98, attributes := #[] }, { accessFlags := 1, nameIndex := 99, descriptorIndex := 98, attributes := #[] }, { accessFlags := 10, nameIndex := 57, descriptorIndex := 58, attributes := #[] }] 16433 26 #[] #[{ accessFlags := 16409, nameIndex := 5, descriptorIndex := 6, attributes := #[] }, { accessFlags := 16409, nameIndex := 9, descriptorIndex := 6, attributes := #[] }, { accessFlags := 16409, nameIndex := 12, descriptorIndex := 6, attributes := #[] }, { accessFlags := 16409, nameIndex := 15, descriptorIndex := 6, attributes := #[] }, { accessFlags := 4122, nameIndex := 18, descriptorIndex := 19, attributes := #[] }])
  fields := #[{ name := "NONE", type := (.object "com/example/carbonfold/carbonfold/model/RosterItem$Subscription"), accessFlags := 16409, slot := 0, constantValue := 0 }, { name := "TO", type := (.object "com/example/carbonfold/carbonfold/model/RosterItem$Subscription"), accessFlags := 16409, slot := 1, constantValue := 0 }, { name := "FROM", type := (.object "com/example/carbonfold/carbonfold/model/RosterItem$Subscription"), accessFlags := 16409, slot := 2, constantValue := 0 }, { name := "BOTH", type := (.object "com/example/carbonfold/carbonfold/model/RosterItem$Subscription"), accessFlags := 16409, slot := 3, constantValue := 0 }, { name := "$VALUES", type := (.array (.object "com/example/carbonfold/carbonfold/model/RosterItem$Subscription")), accessFlags := 4122, slot := 4, constantValue := 0 }]
  methods := #[k6m0, k6m1, k6m2, k6m3, k6m4]
  instanceTypes := #[(.object "java/lang/String"), .int, .int]
  staticTypes := #[(.object "com/example/carbonfold/carbonfold/model/RosterItem$Subscription"), (.object "com/example/carbonfold/carbonfold/model/RosterItem$Subscription"), (.object "com/example/carbonfold/carbonfold/model/RosterItem$Subscription"), (.object "com/example/carbonfold/carbonfold/model/RosterItem$Subscription"), (.array (.object "com/example/carbonfold/carbonfold/model/RosterItem$Subscription"))]
  resolved := Array.replicate 124 none
  statics := some 0 }

def pool7 : Array CpInfo := pool [(1, u "java/lang/Cloneable"), (0, .class_ 1), (0, u "java/lang/Object"), (0, .class_ 3)] 3

/-- java/lang/Cloneable -/
def k7 : Class := { plain "java/lang/Cloneable" (some 0) with
  accessFlags := 1537
  interfaces := #[]
  cf := some (fileOf pool7 2 #[] #[] 1537 4 #[] #[])
  fields := #[]
  methods := #[]
  instanceTypes := #[]
  staticTypes := #[]
  resolved := Array.replicate 8 none
  statics := none }

/-- the primitive boolean -/
def k8 : Class := { plain "boolean" none with kind := .primitive 'Z', accessFlags := 0x411 }
/-- [Z -/
def k9 : Class := { plain "[Z" (some 0) with kind := .array 8 .boolean, interfaces := #[7, 4], accessFlags := 1041 }

/-- the primitive byte -/
def k10 : Class := { plain "byte" none with kind := .primitive 'B', accessFlags := 0x411 }
/-- [B -/
def k11 : Class := { plain "[B" (some 0) with kind := .array 10 .byte, interfaces := #[7, 4], accessFlags := 1041 }

/-- the primitive int -/
def k12 : Class := { plain "int" none with kind := .primitive 'I', accessFlags := 0x411 }
/-- [I -/
def k13 : Class := { plain "[I" (some 0) with kind := .array 12 .int, interfaces := #[7, 4], accessFlags := 1041 }

def heap : Heap := #[{ cls := 6, slots := #[.ref 1, .ref 2, .ref 4, .ref 3, .null], vm := .statics 6 },
  { cls := 6, slots := #[.null, .int 0, .int 0], vm := .none },
  { cls := 6, slots := #[.null, .int 1, .int 0], vm := .none },
  { cls := 6, slots := #[.null, .int 3, .int 0], vm := .none },
  { cls := 6, slots := #[.null, .int 2, .int 0], vm := .none }]
def classes : Array Class := #[k0, k1, k2, k3, k4, k5, k6, k7, k8, k9, k10, k11, k12, k13]
def interned : List (Array UInt16 × Addr) := []
def slotsUsed : Nat := 17
def theMethod : MethodId := ⟨1, 1⟩
def args0 : Array Value := #[.int 5, .int 1]
def aboutOver (below : List Frame) : State where
  vm := { classes := classes, interned := interned.toArray }
  heap := heap
  slotsUsed := slotsUsed
  threads := #[{ frames := .invoking theMethod args0 :: below }]
def below0 : List Frame := [.native { method := ⟨0, 0⟩, args := #[] }]
def about1 : State := aboutOver below0
def p0 : Program := .bare "" "" ""
def e0 : Env := launch0.env 0 0 0
theorem w_frames : about1.frames = Frame.invoking theMethod args0 :: below0 := rfl
set_option maxRecDepth 65536 in
theorem w_args : argsFit about1.vm theMethod args0 = true := by decide +kernel
set_option maxRecDepth 65536 in
theorem w_heap : heapFits about1 = true := by decide +kernel
set_option maxRecDepth 65536 in
theorem w_runnable : about1.curStatus? = some .runnable := by decide +kernel
set_option maxRecDepth 65536 in
theorem w_alone : about1.alone = true := by decide +kernel
set_option maxRecDepth 65536 in
theorem w_named : about1.methodNamed? x = some theMethod := by decide +kernel
set_option maxRecDepth 65536 in
theorem w_hears : about1.hears theMethod below0 = true := by decide +kernel
set_option maxRecDepth 65536 in
theorem w_ripe : about1.ripe theMethod args0 below0 = true := by decide +kernel
theorem w_running : about1.status = .running := rfl
set_option maxRecDepth 65536 in
theorem w_room : about1.hasRoom e0.platform room_1 = true :=
  launch0.hasRoom_least _ room_1 (by decide +kernel) (by decide +kernel) (by decide +kernel) (by decide +kernel) (by decide +kernel) (by decide +kernel)
theorem allAtoms_all (ts : List Jvm.Cond) (a : Array Jvm.Value) (st : Jvm.State) : (allAtoms ts).before a st = ts.all (fun c => c.before a st) := by
  induction ts with
  | nil => rfl
  | cons c t ih =>
    show (Jvm.Cond.and c (allAtoms t)).before a st = _
    rw [Jvm.Cond.before_and, ih, List.all_cons]
def words1 : List Jvm.Cond := Jvm.Cond.code x code maxLocals ret :: tables_1
/-- a 'code' word, met by the world's own term for the bytes: nothing is compared byte by byte -/
theorem code_word {y : MethodName} {bytes : ByteArray} {mx : Nat} {rt : Option FieldType} {a : Array Value} {s : State} {m : MethodId} {meth : Method} {c : Code} (h1 : s.methodNamed? y = some m) (h2 : s.vm.method? m = some meth) (h3 : meth.code = some c) (h4 : c.code = bytes)
    (h5 : (c.maxLocals == mx && c.exceptionTable.isEmpty && decide (c.maxStack ≤ mostOperands) && decide (meth.sig.returnType = rt) && !meth.locks && decide (parseMethodDescriptor y.desc = some meth.sig)) = true) : (Jvm.Cond.code y bytes mx rt).before a s = true := by
  simp only [Bool.and_eq_true, beq_iff_eq, Bool.not_eq_true', decide_eq_true_eq] at h5
  obtain ⟨⟨⟨⟨⟨g1, g2⟩, g3⟩, g4⟩, g5⟩, g6⟩ := h5
  simp [Cond.before, Cond.holds, Cond.value, h1, h2, h3, h4, g1, g2, g3, g4, g5, g6]
def isCode : Jvm.Cond → Bool
  | .code _ _ _ _ => true
  | _ => false
theorem all_split {L : List Jvm.Cond} {P : Jvm.Cond → Bool} (h1 : L.all (fun c => isCode c || P c) = true) (h2 : ∀ c ∈ L.filter isCode, P c = true) : L.all P = true := by
  refine List.all_eq_true.mpr fun c hc => ?_
  have h := List.all_eq_true.mp h1 c hc
  rcases Bool.eq_false_or_eq_true (isCode c) with hi | hi
  · exact h2 c (List.mem_filter.mpr ⟨hc, hi⟩)
  · simpa [hi] using h
set_option maxRecDepth 65536 in
theorem w_c0 : (Jvm.Cond.code x code maxLocals ret).before args0 about1 = true := code_word (m := ⟨1, 1⟩) (meth := k1m1) (c := k1c1) (by decide +kernel) rfl rfl rfl (by decide +kernel)
set_option maxRecDepth 65536 in
theorem w_c1 : (Jvm.Cond.code ({ cls := "com/example/carbonfold/carbonfold/model/RosterItem$Subscription", name := "hasTo", desc := "()Z" } : Jvm.MethodName) prog_67_method_5_code (1 : Nat) (Option.some Jvm.ClassFile.FieldType.boolean)).before args0 about1 = true := code_word (m := ⟨6, 0⟩) (meth := k6m0) (c := k6c0) (by decide +kernel) rfl rfl rfl (by decide +kernel)
set_option maxRecDepth 65536 in
theorem w_c2 : (Jvm.Cond.code ({ cls := "com/example/carbonfold/carbonfold/model/RosterItem$Subscription", name := "withTo", desc := "(Z)Lcom/example/carbonfold/carbonfold/model/RosterItem$Subscription;" } : Jvm.MethodName) prog_67_method_7_code (2 : Nat) (Option.some (Jvm.ClassFile.FieldType.object "com/example/carbonfold/carbonfold/model/RosterItem$Subscription"))).before args0 about1 = true := code_word (m := ⟨6, 2⟩) (meth := k6m2) (c := k6c2) (by decide +kernel) rfl rfl rfl (by decide +kernel)
set_option maxRecDepth 65536 in
theorem w_c3 : (Jvm.Cond.code ({ cls := "com/example/carbonfold/carbonfold/model/RosterItem$Subscription", name := "hasFrom", desc := "()Z" } : Jvm.MethodName) prog_67_method_6_code (1 : Nat) (Option.some Jvm.ClassFile.FieldType.boolean)).before args0 about1 = true := code_word (m := ⟨6, 1⟩) (meth := k6m1) (c := k6c1) (by decide +kernel) rfl rfl rfl (by decide +kernel)
set_option maxRecDepth 65536 in
theorem w_c4 : (Jvm.Cond.code ({ cls := "com/example/carbonfold/carbonfold/model/RosterItem$Subscription", name := "combined", desc := "(ZZ)Lcom/example/carbonfold/carbonfold/model/RosterItem$Subscription;" } : Jvm.MethodName) prog_67_method_9_code (2 : Nat) (Option.some (Jvm.ClassFile.FieldType.object "com/example/carbonfold/carbonfold/model/RosterItem$Subscription"))).before args0 about1 = true := code_word (m := ⟨6, 4⟩) (meth := k6m4) (c := k6c4) (by decide +kernel) rfl rfl rfl (by decide +kernel)
set_option maxRecDepth 65536 in
theorem w_c5 : (Jvm.Cond.code ({ cls := "com/example/carbonfold/carbonfold/model/RosterItem$Subscription", name := "withFrom", desc := "(Z)Lcom/example/carbonfold/carbonfold/model/RosterItem$Subscription;" } : Jvm.MethodName) prog_67_method_8_code (2 : Nat) (Option.some (Jvm.ClassFile.FieldType.object "com/example/carbonfold/carbonfold/model/RosterItem$Subscription"))).before args0 about1 = true := code_word (m := ⟨6, 3⟩) (meth := k6m3) (c := k6c3) (by decide +kernel) rfl rfl rfl (by decide +kernel)
def codes1 : List Jvm.Cond := [Jvm.Cond.code x code maxLocals ret, Jvm.Cond.code ({ cls := "com/example/carbonfold/carbonfold/model/RosterItem$Subscription", name := "hasTo", desc := "()Z" } : Jvm.MethodName) prog_67_method_5_code (1 : Nat) (Option.some Jvm.ClassFile.FieldType.boolean), Jvm.Cond.code ({ cls := "com/example/carbonfold/carbonfold/model/RosterItem$Subscription", name := "withTo", desc := "(Z)Lcom/example/carbonfold/carbonfold/model/RosterItem$Subscription;" } : Jvm.MethodName) prog_67_method_7_code (2 : Nat) (Option.some (Jvm.ClassFile.FieldType.object "com/example/carbonfold/carbonfold/model/RosterItem$Subscription")), Jvm.Cond.code ({ cls := "com/example/carbonfold/carbonfold/model/RosterItem$Subscription", name := "hasFrom", desc := "()Z" } : Jvm.MethodName) prog_67_method_6_code (1 : Nat) (Option.some Jvm.ClassFile.FieldType.boolean), Jvm.Cond.code ({ cls := "com/example/carbonfold/carbonfold/model/RosterItem$Subscription", name := "combined", desc := "(ZZ)Lcom/example/carbonfold/carbonfold/model/RosterItem$Subscription;" } : Jvm.MethodName) prog_67_method_9_code (2 : Nat) (Option.some (Jvm.ClassFile.FieldType.object "com/example/carbonfold/carbonfold/model/RosterItem$Subscription")), Jvm.Cond.code ({ cls := "com/example/carbonfold/carbonfold/model/RosterItem$Subscription", name := "withFrom", desc := "(Z)Lcom/example/carbonfold/carbonfold/model/RosterItem$Subscription;" } : Jvm.MethodName) prog_67_method_8_code (2 : Nat) (Option.some (Jvm.ClassFile.FieldType.object "com/example/carbonfold/carbonfold/model/RosterItem$Subscription"))]
set_option maxRecDepth 65536 in
theorem codes_eq : words1.filter isCode = codes1 := rfl
theorem w_codes : ∀ c ∈ words1.filter isCode, c.before args0 about1 = true := by
  rw [codes_eq]
  intro c hc
  simp only [codes1, List.mem_cons, List.not_mem_nil, or_false] at hc
  rcases hc with rfl | rfl | rfl | rfl | rfl | rfl
  · exact w_c0
  · exact w_c1
  · exact w_c2
  · exact w_c3
  · exact w_c4
  · exact w_c5
set_option maxRecDepth 65536 in
theorem w_t1 : (words1.take 24).all (fun c => isCode c || c.before args0 about1) = true := by decide +kernel
set_option maxRecDepth 65536 in
theorem w_t2 : (words1.drop 24).all (fun c => isCode c || c.before args0 about1) = true := by decide +kernel
theorem w_tables : (allAtoms (Jvm.Cond.code x code maxLocals ret :: tables_1)).before args0 about1 = true := by
  rw [allAtoms_all]
  show words1.all (fun c => c.before args0 about1) = true
  refine all_split ?_ w_codes
  rw [← List.take_append_drop 24 words1, List.all_append, w_t1, w_t2]
  rfl
set_option maxRecDepth 65536 in
theorem w_case : (Jvm.Cond.and given_1 narrow_1).before args0 about1 = true := by decide +kernel
theorem w_applies : (headSpec (Jvm.Cond.code x code maxLocals ret :: tables_1) room_1).applies x e0.platform about1 = true :=
  (Spec.applies_iff w_frames).mpr ⟨w_running, w_runnable, w_alone, w_named, w_hears, w_ripe, w_room, w_tables⟩
theorem atStart : AtStart classFile x code maxLocals ret World_1 tables_1 room_1 Calls_1 rest_1 Pre_1 launch0 p0 e0 about1 theMethod args0 below0 :=
  ⟨lists_1, trivial, launch0.admits_env _ _ _, launch0.least_env, fairChoices_fair.cas, fairChoices_fair.clock, w_frames, w_args, w_heap, w_applies, trivial, trivial, w_case⟩
end start1
theorem witness_1 : WitnessClaimed_1 := ⟨start1.p0, start1.e0, start1.about1, start1.theMethod, start1.args0, start1.below0, start1.atStart⟩
end Jvm.Pilot.@@N@@
