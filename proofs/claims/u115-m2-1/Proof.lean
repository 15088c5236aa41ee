import JvmDerived
import JvmDerived.Pilot.@@N@@Statement
import JvmDerived.Pilot.@@N@@Code
set_option linter.unusedVariables false
set_option linter.unusedSimpArgs false
namespace Jvm.RoadKit
open Sem ClassFile Op Lib Jvm.Stand Jvm.Free Jvm.LawKit
section New
variable {p : Program} {l : Launch} {e : Env} {R : Room} {s : State} {m : MethodId} {args : Array Value} {below : List Frame} {meth : Method} {c : Code} {T : State} {locs : List Loc} {cells slots : Nat}
theorem retI (X : Stand p l e R s m args below meth c T locs cells slots) (hx : p.tables.exec = Jvm.exec) {pc : Nat} {Ls : Array Slot} {z : Int32} {rest : List Value} (hret : meth.sig.returnType = some .int) (hd : decode c.code pc = .ok (.ireturn, 1)) {fs : List Frame}
    (hl : ∀ (f : JFrame) (acts : List Action), f.method = m → f.locked = none → f.entered = [] → (doReturn e (T.setTop f) acts (some (.int z))).1 = T.setFrames fs) : Steps p.tables e below (T.setTop (mkF m pc Ls (.int z :: rest))) (T.setFrames fs) := by
  have hm' : T.vm.method? m = some meth := X.method'
  have hn : narrow .int (.int z) = .int z := rfl
  show Steps p.tables e below (T.setTop { method := m, pc := pc, locals := Ls, stack := _ :: rest, locked := none }) _
  jvm_step X.here [X.here.top, hx, hd, hm', hret, hn]
  first | (intro acts; rw [hl _ acts rfl rfl rfl]) | rw [hl _ _ rfl rfl rfl]
  exact Steps.refl _
end New
end Jvm.RoadKit
namespace Jvm.Pilot.@@N@@
open Jvm Jvm.ClassFile Sem Op Lib Jvm.Free Jvm.Stand Jvm.LawKit Jvm.RoadKit Bundle Jvm.Pilot.@@N@@.Jvm.D
def QL (n0 : Nat) (v : Option Value) (h : Heap) (L : List Loc) : Prop := v = some (.int 1) ∧ Fr n0 L
theorem own_fldI {s : State} {args : Array Value} {t : Term} {C n d : String} {a : Addr} {k : Int32} (ht : t.eval args s none [] s = some (.ref a)) (h : (Jvm.Cond.eq (.field t C n d) (.int k)).value args s none s [] = some true) : Fld s s.heap a C n d (.int k) := by
  obtain ⟨x, y, e1, e2, k1, k2⟩ := cmp_v (Or.inl h)
  cases (Term.int_eval k).symm.trans e2
  obtain ⟨z, rfl⟩ := k2
  have e3 := e1
  rw [fld_at ht] at e3
  have q : (Jvm.Cond.eq (.field t C n d) (.int k)).value args s none s [] = some (decide (z = k)) := by simp [Cond.value, e1, Term.int_eval]
  rw [q] at h
  have hz : z = k := by simpa using h
  subst hz; exact Fld.start e3
theorem own_fldN {s : State} {args : Array Value} {t : Term} {C n d : String} {a : Addr} (ht : t.eval args s none [] s = some (.ref a)) (h : (Jvm.Cond.eq (.field t C n d) .null).value args s none s [] = some true) : Fld s s.heap a C n d .null :=
  Fld.start ((fld_at ht).symm.trans (null_v h))
theorem own_fldR {s : State} {args : Array Value} {t u : Term} {C n d : String} {a b : Addr} (ht : t.eval args s none [] s = some (.ref a)) (hu : u.eval args s none [] s = some (.ref b)) (h : (Jvm.Cond.eq (.field t C n d) u).value args s none s [] = some true) : Fld s s.heap a C n d (.ref b) := by
  obtain ⟨x, y, e1, e2, k1, k2⟩ := cmp_v (Or.inl h)
  cases hu.symm.trans e2
  have e3 := e1
  rw [fld_at ht] at e3
  have hx : x.isRef = true := k2.2
  have q := eq_R e1 hu hx rfl
  rw [q] at h
  have hz : x = .ref b := by simpa using h
  subst hz; exact Fld.start e3
def OwnEnv (Z : State) (a_NONE a_FROM a_BOTH a_TO : Addr) : Prop := Sta Z Z.heap "com/example/carbonfold/carbonfold/model/RosterItem$Subscription" "NONE" "Lcom/example/carbonfold/carbonfold/model/RosterItem$Subscription;" (.ref a_NONE) ∧ Exa Z Z.heap a_NONE "com/example/carbonfold/carbonfold/model/RosterItem$Subscription" ∧ Sta Z Z.heap "com/example/carbonfold/carbonfold/model/RosterItem$Subscription" "FROM" "Lcom/example/carbonfold/carbonfold/model/RosterItem$Subscription;" (.ref a_FROM) ∧ Exa Z Z.heap a_FROM "com/example/carbonfold/carbonfold/model/RosterItem$Subscription" ∧ Sta Z Z.heap "com/example/carbonfold/carbonfold/model/RosterItem$Subscription" "BOTH" "Lcom/example/carbonfold/carbonfold/model/RosterItem$Subscription;" (.ref a_BOTH) ∧ Exa Z Z.heap a_BOTH "com/example/carbonfold/carbonfold/model/RosterItem$Subscription" ∧ Sta Z Z.heap "com/example/carbonfold/carbonfold/model/RosterItem$Subscription" "TO" "Lcom/example/carbonfold/carbonfold/model/RosterItem$Subscription;" (.ref a_TO) ∧ Exa Z Z.heap a_TO "com/example/carbonfold/carbonfold/model/RosterItem$Subscription" ∧ Fld Z Z.heap a_NONE "java/lang/Enum" "ordinal" "I" (.int (0 : Int32)) ∧ Fld Z Z.heap a_FROM "java/lang/Enum" "ordinal" "I" (.int (2 : Int32)) ∧ Fld Z Z.heap a_BOTH "java/lang/Enum" "ordinal" "I" (.int (3 : Int32)) ∧ Fld Z Z.heap a_TO "java/lang/Enum" "ordinal" "I" (.int (1 : Int32))
theorem own_b (x : Int32) : (x &&& (1 : Int32)) = (0 : Int32) ∨ (x &&& (1 : Int32)) = (1 : Int32) := by
  have h1 := c_mask x 1 1 (by decide) (by decide)
  simp only [← Int32.toInt_inj]
  have e0 : (0 : Int32).toInt = 0 := rfl
  have e1 : (1 : Int32).toInt = 1 := rfl
  omega
theorem own_k (x : Int32) : (x &&& (3 : Int32)) = (0 : Int32) ∨ (x &&& (3 : Int32)) = (1 : Int32) ∨ (x &&& (3 : Int32)) = (2 : Int32) ∨ (x &&& (3 : Int32)) = (3 : Int32) := by
  have h1 := c_mask x 3 2 (by decide) (by decide)
  simp only [← Int32.toInt_inj]
  have e0 : (0 : Int32).toInt = 0 := rfl
  have e1 : (1 : Int32).toInt = 1 := rfl
  have e2 : (2 : Int32).toInt = 2 := rfl
  have e3 : (3 : Int32).toInt = 3 := rfl
  omega
theorem own_k2 {x c d : Int32} (h : (x &&& (3 : Int32)) = c) (hd : (c &&& (2 : Int32)) = d) : (x &&& (2 : Int32)) = d := by
  rw [← hd, ← h, Int32.and_assoc]; rfl
theorem own_c (x : Int32) : (x &&& (2 : Int32)) = (0 : Int32) ∨ (x &&& (2 : Int32)) = (2 : Int32) := by
  rcases own_k x with h | h | h | h
  · exact Or.inl (own_k2 h rfl)
  · exact Or.inl (own_k2 h rfl)
  · exact Or.inr (own_k2 h rfl)
  · exact Or.inr (own_k2 h rfl)
def Q_rm_pick0 (a_NONE a_FROM a_BOTH a_TO : Addr) (h0 : Heap) (n0 : Nat) (v : Option Value) (h : Heap) (L : List Loc) : Prop := v = some (.ref a_NONE) ∧ Fr n0 L ∧ h = h0
theorem pn_0 : plainName "com/example/carbonfold/carbonfold/model/SubscriptionHasFromPinLaw" = true := by first | (simp [plainName, overriddenIn]; done) | decide +kernel
theorem ef_0 (m : MethodId) (x0 : Int32) (x1 : Int32) (x2 : Int32) : entryFrame m #[(.int x0), (.int x1), (.int x2)] maxLocals = mkF m 0 #[.val (.int x0), .val (.int x1), .val (.int x2), .unset, .unset, .unset, .unset, .unset, .unset, .unset] [] := by first | (simp [entryFrame, mkF, argsToLocals, Value.category, maxLocals]; done) | rfl
theorem ef_1 (m : MethodId) (x0 : Int32) : entryFrame m #[(.int x0)] 2 = mkF m 0 #[.val (.int x0), .unset] [] := by first | (simp [entryFrame, mkF, argsToLocals, Value.category]; done) | rfl
theorem dc0_0 : decode method_2_code 0 = .ok (.iload_n 0, 1) := by decide +kernel
theorem dc0_1 : decode method_2_code 1 = .ok (.iconst 3, 1) := by decide +kernel
theorem dc0_2 : decode method_2_code 2 = .ok (.iand, 1) := by decide +kernel
theorem dc0_3 : decode method_2_code 3 = .ok (.istore_n 1, 1) := by decide +kernel
theorem dc0_4 : decode method_2_code 4 = .ok (.iload_n 1, 1) := by decide +kernel
theorem dc0_5 : decode method_2_code 5 = .ok (.ifCond .ne 7, 3) := by decide +kernel
theorem dc0_8 : decode method_2_code 8 = .ok (.getstatic 7, 3) := by decide +kernel
theorem dc0_11 : decode method_2_code 11 = .ok (.areturn, 1) := by decide +kernel
set_option maxRecDepth 65536 in
set_option maxHeartbeats 40000000 in
theorem rm_pick0 (l : Launch) (Z : State) (a0 : Array Value) (hw : ∀ d ∈ tables_1, d.before a0 Z = true) (ws : List Jvm.Cond) (i0 : Int32) (a_NONE a_FROM a_BOTH a_TO : Addr) (h0 : Heap) (n0 : Nat) (O0 : Old Z n0 h0) (En : OwnEnv Z a_NONE a_FROM a_BOTH a_TO) (hk : (i0 &&& (3 : Int32)) = (0 : Int32)) :
    MetFree l (⟨"com/example/carbonfold/carbonfold/model/SubscriptionHasFromPinLaw", "pick", "(I)Lcom/example/carbonfold/carbonfold/model/RosterItem$Subscription;"⟩ : MethodName) (head1 (Jvm.Cond.code (⟨"com/example/carbonfold/carbonfold/model/SubscriptionHasFromPinLaw", "pick", "(I)Lcom/example/carbonfold/carbonfold/model/RosterItem$Subscription;"⟩ : MethodName) method_2_code 2 (some (.object "com/example/carbonfold/carbonfold/model/RosterItem$Subscription")) :: ws) ({ frames := 0, cells := 0, slots := 0, locals := 0 } : Room)) (fun a U => a = #[(.int i0)] ∧ Z.Warmed39 U.vm ∧ U.heap = h0) (fun _ _ _ _ _ => True) (fun _ U o U' => ∃ v L, o = .returned v ∧ Q_rm_pick0 a_NONE a_FROM a_BOTH a_TO h0 n0 v U'.heap L ∧ FrameEnd U o U' L ({ frames := 0, cells := 0, slots := 0, locals := 0 } : Room).cells ({ frames := 0, cells := 0, slots := 0, locals := 0 } : Room).slots) := by
  refine MetFree.of_bodySF (plainFor_of_name pn_0) hisR ?_
  intro p e s m args below meth c s₁ Bd hml0 hP hK
  obtain ⟨rfl, hZ, hh⟩ := hP
  have hx := Bd.exec
  have hby := Bd.bytes
  have hml : c.maxLocals = 2 := hml0
  have hown : s.vm.findClass "com/example/carbonfold/carbonfold/model/SubscriptionHasFromPinLaw" = some m.cls := findClass_of_methodNamed Bd.named
  have hnm := (name_of_methodNamed Bd.named Bd.method).1
  have X0 : Stand p l e ({ frames := 0, cells := 0, slots := 0, locals := 0 } : Room) s m #[(.int i0)] below meth c s₁ [] 0 0 := Stand.of_body Bd
  have e0 : s₁.heap = h0 := by rw [← hh, Bd.state]; rfl
  have N0 := Fr.nil n0
  have pre0 : ∀ t, Steps p.tables e below (s₁.setTop (mkF m 0 #[.val (.int i0), .unset] [])) t → Steps p.tables e below (s₁.setTop (entryFrame m #[(.int i0)] 2)) t := fun t k => castTop (ef_1 m i0) k
  obtain ⟨S_a_NONE, X_a_NONE, S_a_FROM, X_a_FROM, S_a_BOTH, X_a_BOTH, S_a_TO, X_a_TO, F_a_NONE_ordinal, F_a_FROM_ordinal, F_a_BOTH_ordinal, F_a_TO_ordinal⟩ := id En
  obtain ⟨T1, X1, e1, st1⟩ := getS2 X0 hx hZ hown (host := "") (Or.inl (hw _ (List.mem_of_getElem? (i := 4) rfl))) Via.refl e0 (Sta.ext O0.2 S_a_NONE) (g := (mkF m 8 #[.val (.int i0), .val (.int (0 : Int32))] [])) rfl (hb hby dc0_8)
  obtain ⟨fs, hr, hrun, hended, hW, hsame⟩ := X1.leave (v := some (.ref a_NONE)) (fun h => by rw [Bd.returns] at h; cases h)
  refine ⟨_, _, pre0 _ ?_, hrun, hended, _, _, rfl, ?_, ⟨_, rfl⟩, hW, hsame.mono (by decide) (by decide)⟩
  · skip
    show Steps p.tables e below (s₁.setTop (mkF m 0 #[.val (.int i0), .unset] [])) _
    refine XS.iloadN X0.here hx rfl (hb hby dc0_0) rfl ?_
    show Steps p.tables e below (s₁.setTop (mkF m 1 #[.val (.int i0), .unset] [(.int i0)])) _
    refine XS.iconst X0.here hx rfl (hb hby dc0_1) ?_
    show Steps p.tables e below (s₁.setTop (mkF m 2 #[.val (.int i0), .unset] [(.int (3 : Int32)), (.int i0)])) _
    refine XS.iand X0.here hx rfl (hb hby dc0_2) rfl ?_
    show Steps p.tables e below (s₁.setTop (mkF m 3 #[.val (.int i0), .unset] [(.int (i0 &&& (3 : Int32)))])) _
    rw [hk]
    show Steps p.tables e below (s₁.setTop (mkF m 3 #[.val (.int i0), .unset] [(.int (0 : Int32))])) _
    refine XS.istoreN X0.here hx rfl (hb hby dc0_3) rfl (l' := #[.val (.int i0), .val (.int (0 : Int32))]) rfl ?_
    show Steps p.tables e below (s₁.setTop (mkF m 4 #[.val (.int i0), .val (.int (0 : Int32))] [])) _
    refine XS.iloadN X0.here hx rfl (hb hby dc0_4) rfl ?_
    show Steps p.tables e below (s₁.setTop (mkF m 5 #[.val (.int i0), .val (.int (0 : Int32))] [(.int (0 : Int32))])) _
    refine XS.ifNo X0.here hx rfl (hb hby dc0_5) rfl (by decide) ?_
    show Steps p.tables e below (s₁.setTop (mkF m 8 #[.val (.int i0), .val (.int (0 : Int32))] [])) _
    refine st1 _ ?_
    show Steps p.tables e below (T1.setTop (mkF m 11 #[.val (.int i0), .val (.int (0 : Int32))] [(.ref a_NONE)])) _
    exact retOut X1 hx (t := (.object "com/example/carbonfold/carbonfold/model/RosterItem$Subscription")) Bd.returns rfl (Or.inr (Or.inr (Or.inr (Or.inr ⟨rfl, rfl, rfl⟩)))) (hb hby dc0_11) hr
  · show Q_rm_pick0 a_NONE a_FROM a_BOTH a_TO h0 n0 _ T1.heap _
    rw [e1]
    exact ⟨rfl, N0, rfl⟩
def Q_rm_hasFrom_1 (a_NONE a_FROM a_BOTH a_TO : Addr) (h0 : Heap) (n0 : Nat) (v : Option Value) (h : Heap) (L : List Loc) : Prop := v = some (.int (0 : Int32)) ∧ Fr n0 L ∧ h = h0
theorem pd_0 : parseMethodDescriptor "(I)Lcom/example/carbonfold/carbonfold/model/RosterItem$Subscription;" = some ⟨[.int], some (.object "com/example/carbonfold/carbonfold/model/RosterItem$Subscription")⟩ := by decide +kernel
theorem pn_1 : plainName "com/example/carbonfold/carbonfold/model/RosterItem$Subscription" = true := by first | (simp [plainName, overriddenIn]; done) | decide +kernel
theorem ef_2 (m : MethodId) (x0 : Addr) : entryFrame m #[(.ref x0)] 1 = mkF m 0 #[.val (.ref x0)] [] := by first | (simp [entryFrame, mkF, argsToLocals, Value.category]; done) | rfl
theorem dc1_0 : decode prog_67_method_6_code 0 = .ok (.aload_n 0, 1) := by decide +kernel
theorem dc1_1 : decode prog_67_method_6_code 1 = .ok (.getstatic 10, 3) := by decide +kernel
theorem dc1_4 : decode prog_67_method_6_code 4 = .ok (.if_acmp .eq 10, 3) := by decide +kernel
theorem dc1_7 : decode prog_67_method_6_code 7 = .ok (.aload_n 0, 1) := by decide +kernel
theorem dc1_8 : decode prog_67_method_6_code 8 = .ok (.getstatic 13, 3) := by decide +kernel
theorem dc1_11 : decode prog_67_method_6_code 11 = .ok (.if_acmp .ne 7, 3) := by decide +kernel
theorem dc1_18 : decode prog_67_method_6_code 18 = .ok (.iconst 0, 1) := by decide +kernel
theorem dc1_19 : decode prog_67_method_6_code 19 = .ok (.ireturn, 1) := by decide +kernel
set_option maxRecDepth 65536 in
set_option maxHeartbeats 40000000 in
theorem rm_hasFrom_1 (l : Launch) (Z : State) (a0 : Array Value) (hw : ∀ d ∈ tables_1, d.before a0 Z = true) (ws : List Jvm.Cond) (a_NONE a_FROM a_BOTH a_TO : Addr) (h0 : Heap) (n0 : Nat) (O0 : Old Z n0 h0) (En : OwnEnv Z a_NONE a_FROM a_BOTH a_TO) :
    MetFree l (⟨"com/example/carbonfold/carbonfold/model/RosterItem$Subscription", "hasFrom", "()Z"⟩ : MethodName) (head1 (Jvm.Cond.code (⟨"com/example/carbonfold/carbonfold/model/RosterItem$Subscription", "hasFrom", "()Z"⟩ : MethodName) prog_67_method_6_code 1 (some .boolean) :: ws) ({ frames := 0, cells := 0, slots := 0, locals := 0 } : Room)) (fun a U => a = #[(.ref a_NONE)] ∧ Z.Warmed39 U.vm ∧ U.heap = h0) (fun _ _ _ _ _ => True) (fun _ U o U' => ∃ v L, o = .returned v ∧ Q_rm_hasFrom_1 a_NONE a_FROM a_BOTH a_TO h0 n0 v U'.heap L ∧ FrameEnd U o U' L ({ frames := 0, cells := 0, slots := 0, locals := 0 } : Room).cells ({ frames := 0, cells := 0, slots := 0, locals := 0 } : Room).slots) := by
  refine MetFree.of_bodySF (plainFor_of_name pn_1) hisR ?_
  intro p e s m args below meth c s₁ Bd hml0 hP hK
  obtain ⟨rfl, hZ, hh⟩ := hP
  have hx := Bd.exec
  have hby := Bd.bytes
  have hml : c.maxLocals = 1 := hml0
  have hown : s.vm.findClass "com/example/carbonfold/carbonfold/model/RosterItem$Subscription" = some m.cls := findClass_of_methodNamed Bd.named
  have hnm := (name_of_methodNamed Bd.named Bd.method).1
  have X0 : Stand p l e ({ frames := 0, cells := 0, slots := 0, locals := 0 } : Room) s m #[(.ref a_NONE)] below meth c s₁ [] 0 0 := Stand.of_body Bd
  have e0 : s₁.heap = h0 := by rw [← hh, Bd.state]; rfl
  have N0 := Fr.nil n0
  have pre0 : ∀ t, Steps p.tables e below (s₁.setTop (mkF m 0 #[.val (.ref a_NONE)] [])) t → Steps p.tables e below (s₁.setTop (entryFrame m #[(.ref a_NONE)] 1)) t := fun t k => castTop (ef_2 m a_NONE) k
  obtain ⟨S_a_NONE, X_a_NONE, S_a_FROM, X_a_FROM, S_a_BOTH, X_a_BOTH, S_a_TO, X_a_TO, F_a_NONE_ordinal, F_a_FROM_ordinal, F_a_BOTH_ordinal, F_a_TO_ordinal⟩ := id En
  obtain ⟨T1, X1, e1, st1⟩ := getS2 X0 hx hZ hown (host := "") (Or.inl (hw _ (List.mem_of_getElem? (i := 12) rfl))) Via.refl e0 (Sta.ext O0.2 S_a_FROM) (g := (mkF m 1 #[.val (.ref a_NONE)] [(.ref a_NONE)])) rfl (hb hby dc1_1)
  obtain ⟨T2, X2, e2, st2⟩ := getS2 X1 hx hZ hown (host := "") (Or.inl (hw _ (List.mem_of_getElem? (i := 14) rfl))) Via.refl e1 (Sta.ext O0.2 S_a_BOTH) (g := (mkF m 8 #[.val (.ref a_NONE)] [(.ref a_NONE)])) rfl (hb hby dc1_8)
  obtain ⟨fs, hr, hrun, hended, hW, hsame⟩ := X2.leave (v := some (.int (0 : Int32))) (fun h => by rw [Bd.returns] at h; cases h)
  refine ⟨_, _, pre0 _ ?_, hrun, hended, _, _, rfl, ?_, ⟨_, rfl⟩, hW, hsame.mono (by decide) (by decide)⟩
  · skip
    show Steps p.tables e below (s₁.setTop (mkF m 0 #[.val (.ref a_NONE)] [])) _
    refine XS.aloadN X0.here hx rfl (hb hby dc1_0) rfl rfl ?_
    show Steps p.tables e below (s₁.setTop (mkF m 1 #[.val (.ref a_NONE)] [(.ref a_NONE)])) _
    refine st1 _ ?_
    show Steps p.tables e below (T1.setTop (mkF m 4 #[.val (.ref a_NONE)] [(.ref a_FROM), (.ref a_NONE)])) _
    refine Jvm.RoadKit.acmp (g := (mkF m 4 #[.val (.ref a_NONE)] [(.ref a_FROM), (.ref a_NONE)])) X1 hx rfl rfl rfl (pc0 := 4) (pc' := 7) (same := false) rfl (hb hby dc1_4) rfl (decide_eq_false fun q => (Fld.ne F_a_NONE_ordinal F_a_FROM_ordinal (by simp)) (Value.ref.inj q)) (by decide) (by decide) ?_
    show Steps p.tables e below (T1.setTop (mkF m 7 #[.val (.ref a_NONE)] [])) _
    refine XS.aloadN X1.here hx rfl (hb hby dc1_7) rfl rfl ?_
    show Steps p.tables e below (T1.setTop (mkF m 8 #[.val (.ref a_NONE)] [(.ref a_NONE)])) _
    refine st2 _ ?_
    show Steps p.tables e below (T2.setTop (mkF m 11 #[.val (.ref a_NONE)] [(.ref a_BOTH), (.ref a_NONE)])) _
    refine Jvm.RoadKit.acmp (g := (mkF m 11 #[.val (.ref a_NONE)] [(.ref a_BOTH), (.ref a_NONE)])) X2 hx rfl rfl rfl (pc0 := 11) (pc' := 18) (same := false) rfl (hb hby dc1_11) rfl (decide_eq_false fun q => (Fld.ne F_a_NONE_ordinal F_a_BOTH_ordinal (by simp)) (Value.ref.inj q)) (by decide) (by decide) ?_
    show Steps p.tables e below (T2.setTop (mkF m 18 #[.val (.ref a_NONE)] [])) _
    refine XS.iconst X2.here hx rfl (hb hby dc1_18) ?_
    show Steps p.tables e below (T2.setTop (mkF m 19 #[.val (.ref a_NONE)] [(.int (0 : Int32))])) _
    exact retN X2 hx (t := .boolean) Bd.returns (by simp) (hb hby dc1_19) hr
  · show Q_rm_hasFrom_1 a_NONE a_FROM a_BOTH a_TO h0 n0 _ T2.heap _
    rw [e2]
    exact ⟨rfl, N0, rfl⟩
def Q_rm_hasTo_3 (a_NONE a_FROM a_BOTH a_TO : Addr) (h0 : Heap) (n0 : Nat) (v : Option Value) (h : Heap) (L : List Loc) : Prop := v = some (.int (0 : Int32)) ∧ Fr n0 L ∧ h = h0
theorem pd_1 : parseMethodDescriptor "()Z" = some ⟨[], some .boolean⟩ := by decide +kernel
theorem ef_3 (m : MethodId) (x0 : Addr) (x1 : Int32) : entryFrame m #[(.ref x0), (.int x1)] 2 = mkF m 0 #[.val (.ref x0), .val (.int x1)] [] := by first | (simp [entryFrame, mkF, argsToLocals, Value.category]; done) | rfl
theorem dc2_0 : decode prog_67_method_8_code 0 = .ok (.aload_n 0, 1) := by decide +kernel
theorem dc2_1 : decode prog_67_method_8_code 1 = .ok (.invokevirtual 59, 3) := by decide +kernel
theorem dc3_0 : decode prog_67_method_5_code 0 = .ok (.aload_n 0, 1) := by decide +kernel
theorem dc3_1 : decode prog_67_method_5_code 1 = .ok (.getstatic 7, 3) := by decide +kernel
theorem dc3_4 : decode prog_67_method_5_code 4 = .ok (.if_acmp .eq 10, 3) := by decide +kernel
theorem dc3_7 : decode prog_67_method_5_code 7 = .ok (.aload_n 0, 1) := by decide +kernel
theorem dc3_8 : decode prog_67_method_5_code 8 = .ok (.getstatic 13, 3) := by decide +kernel
theorem dc3_11 : decode prog_67_method_5_code 11 = .ok (.if_acmp .ne 7, 3) := by decide +kernel
theorem dc3_18 : decode prog_67_method_5_code 18 = .ok (.iconst 0, 1) := by decide +kernel
theorem dc3_19 : decode prog_67_method_5_code 19 = .ok (.ireturn, 1) := by decide +kernel
set_option maxRecDepth 65536 in
set_option maxHeartbeats 40000000 in
theorem rm_hasTo_3 (l : Launch) (Z : State) (a0 : Array Value) (hw : ∀ d ∈ tables_1, d.before a0 Z = true) (ws : List Jvm.Cond) (a_NONE a_FROM a_BOTH a_TO : Addr) (h0 : Heap) (n0 : Nat) (O0 : Old Z n0 h0) (En : OwnEnv Z a_NONE a_FROM a_BOTH a_TO) :
    MetFree l (⟨"com/example/carbonfold/carbonfold/model/RosterItem$Subscription", "hasTo", "()Z"⟩ : MethodName) (head1 (Jvm.Cond.code (⟨"com/example/carbonfold/carbonfold/model/RosterItem$Subscription", "hasTo", "()Z"⟩ : MethodName) prog_67_method_5_code 1 (some .boolean) :: ws) ({ frames := 0, cells := 0, slots := 0, locals := 0 } : Room)) (fun a U => a = #[(.ref a_NONE)] ∧ Z.Warmed39 U.vm ∧ U.heap = h0) (fun _ _ _ _ _ => True) (fun _ U o U' => ∃ v L, o = .returned v ∧ Q_rm_hasTo_3 a_NONE a_FROM a_BOTH a_TO h0 n0 v U'.heap L ∧ FrameEnd U o U' L ({ frames := 0, cells := 0, slots := 0, locals := 0 } : Room).cells ({ frames := 0, cells := 0, slots := 0, locals := 0 } : Room).slots) := by
  refine MetFree.of_bodySF (plainFor_of_name pn_1) hisR ?_
  intro p e s m args below meth c s₁ Bd hml0 hP hK
  obtain ⟨rfl, hZ, hh⟩ := hP
  have hx := Bd.exec
  have hby := Bd.bytes
  have hml : c.maxLocals = 1 := hml0
  have hown : s.vm.findClass "com/example/carbonfold/carbonfold/model/RosterItem$Subscription" = some m.cls := findClass_of_methodNamed Bd.named
  have hnm := (name_of_methodNamed Bd.named Bd.method).1
  have X0 : Stand p l e ({ frames := 0, cells := 0, slots := 0, locals := 0 } : Room) s m #[(.ref a_NONE)] below meth c s₁ [] 0 0 := Stand.of_body Bd
  have e0 : s₁.heap = h0 := by rw [← hh, Bd.state]; rfl
  have N0 := Fr.nil n0
  have pre0 : ∀ t, Steps p.tables e below (s₁.setTop (mkF m 0 #[.val (.ref a_NONE)] [])) t → Steps p.tables e below (s₁.setTop (entryFrame m #[(.ref a_NONE)] 1)) t := fun t k => castTop (ef_2 m a_NONE) k
  obtain ⟨S_a_NONE, X_a_NONE, S_a_FROM, X_a_FROM, S_a_BOTH, X_a_BOTH, S_a_TO, X_a_TO, F_a_NONE_ordinal, F_a_FROM_ordinal, F_a_BOTH_ordinal, F_a_TO_ordinal⟩ := id En
  obtain ⟨T1, X1, e1, st1⟩ := getS2 X0 hx hZ hown (host := "") (Or.inl (hw _ (List.mem_of_getElem? (i := 26) rfl))) Via.refl e0 (Sta.ext O0.2 S_a_TO) (g := (mkF m 1 #[.val (.ref a_NONE)] [(.ref a_NONE)])) rfl (hb hby dc3_1)
  obtain ⟨T2, X2, e2, st2⟩ := getS2 X1 hx hZ hown (host := "") (Or.inl (hw _ (List.mem_of_getElem? (i := 14) rfl))) Via.refl e1 (Sta.ext O0.2 S_a_BOTH) (g := (mkF m 8 #[.val (.ref a_NONE)] [(.ref a_NONE)])) rfl (hb hby dc3_8)
  obtain ⟨fs, hr, hrun, hended, hW, hsame⟩ := X2.leave (v := some (.int (0 : Int32))) (fun h => by rw [Bd.returns] at h; cases h)
  refine ⟨_, _, pre0 _ ?_, hrun, hended, _, _, rfl, ?_, ⟨_, rfl⟩, hW, hsame.mono (by decide) (by decide)⟩
  · skip
    show Steps p.tables e below (s₁.setTop (mkF m 0 #[.val (.ref a_NONE)] [])) _
    refine XS.aloadN X0.here hx rfl (hb hby dc3_0) rfl rfl ?_
    show Steps p.tables e below (s₁.setTop (mkF m 1 #[.val (.ref a_NONE)] [(.ref a_NONE)])) _
    refine st1 _ ?_
    show Steps p.tables e below (T1.setTop (mkF m 4 #[.val (.ref a_NONE)] [(.ref a_TO), (.ref a_NONE)])) _
    refine Jvm.RoadKit.acmp (g := (mkF m 4 #[.val (.ref a_NONE)] [(.ref a_TO), (.ref a_NONE)])) X1 hx rfl rfl rfl (pc0 := 4) (pc' := 7) (same := false) rfl (hb hby dc3_4) rfl (decide_eq_false fun q => (Fld.ne F_a_NONE_ordinal F_a_TO_ordinal (by simp)) (Value.ref.inj q)) (by decide) (by decide) ?_
    show Steps p.tables e below (T1.setTop (mkF m 7 #[.val (.ref a_NONE)] [])) _
    refine XS.aloadN X1.here hx rfl (hb hby dc3_7) rfl rfl ?_
    show Steps p.tables e below (T1.setTop (mkF m 8 #[.val (.ref a_NONE)] [(.ref a_NONE)])) _
    refine st2 _ ?_
    show Steps p.tables e below (T2.setTop (mkF m 11 #[.val (.ref a_NONE)] [(.ref a_BOTH), (.ref a_NONE)])) _
    refine Jvm.RoadKit.acmp (g := (mkF m 11 #[.val (.ref a_NONE)] [(.ref a_BOTH), (.ref a_NONE)])) X2 hx rfl rfl rfl (pc0 := 11) (pc' := 18) (same := false) rfl (hb hby dc3_11) rfl (decide_eq_false fun q => (Fld.ne F_a_NONE_ordinal F_a_BOTH_ordinal (by simp)) (Value.ref.inj q)) (by decide) (by decide) ?_
    show Steps p.tables e below (T2.setTop (mkF m 18 #[.val (.ref a_NONE)] [])) _
    refine XS.iconst X2.here hx rfl (hb hby dc3_18) ?_
    show Steps p.tables e below (T2.setTop (mkF m 19 #[.val (.ref a_NONE)] [(.int (0 : Int32))])) _
    exact retN X2 hx (t := .boolean) Bd.returns (by simp) (hb hby dc3_19) hr
  · show Q_rm_hasTo_3 a_NONE a_FROM a_BOTH a_TO h0 n0 _ T2.heap _
    rw [e2]
    exact ⟨rfl, N0, rfl⟩
def Q_rm_combined_4 (a_NONE a_FROM a_BOTH a_TO : Addr) (h0 : Heap) (n0 : Nat) (v : Option Value) (h : Heap) (L : List Loc) : Prop := v = some (.ref a_NONE) ∧ Fr n0 L ∧ h = h0
theorem dc2_4 : decode prog_67_method_8_code 4 = .ok (.iload_n 1, 1) := by decide +kernel
theorem dc2_5 : decode prog_67_method_8_code 5 = .ok (.invokestatic 55, 3) := by decide +kernel
theorem ef_4 (m : MethodId) (x0 : Int32) (x1 : Int32) : entryFrame m #[(.int x0), (.int x1)] 2 = mkF m 0 #[.val (.int x0), .val (.int x1)] [] := by first | (simp [entryFrame, mkF, argsToLocals, Value.category]; done) | rfl
theorem dc4_0 : decode prog_67_method_9_code 0 = .ok (.iload_n 0, 1) := by decide +kernel
theorem dc4_1 : decode prog_67_method_9_code 1 = .ok (.ifCond .eq 17, 3) := by decide +kernel
theorem dc4_18 : decode prog_67_method_9_code 18 = .ok (.iload_n 1, 1) := by decide +kernel
theorem dc4_19 : decode prog_67_method_9_code 19 = .ok (.ifCond .eq 9, 3) := by decide +kernel
theorem dc4_28 : decode prog_67_method_9_code 28 = .ok (.getstatic 3, 3) := by decide +kernel
theorem dc4_31 : decode prog_67_method_9_code 31 = .ok (.areturn, 1) := by decide +kernel
set_option maxRecDepth 65536 in
set_option maxHeartbeats 40000000 in
theorem rm_combined_4 (l : Launch) (Z : State) (a0 : Array Value) (hw : ∀ d ∈ tables_1, d.before a0 Z = true) (ws : List Jvm.Cond) (a_NONE a_FROM a_BOTH a_TO : Addr) (h0 : Heap) (n0 : Nat) (O0 : Old Z n0 h0) (En : OwnEnv Z a_NONE a_FROM a_BOTH a_TO) :
    MetFree l (⟨"com/example/carbonfold/carbonfold/model/RosterItem$Subscription", "combined", "(ZZ)Lcom/example/carbonfold/carbonfold/model/RosterItem$Subscription;"⟩ : MethodName) (head1 (Jvm.Cond.code (⟨"com/example/carbonfold/carbonfold/model/RosterItem$Subscription", "combined", "(ZZ)Lcom/example/carbonfold/carbonfold/model/RosterItem$Subscription;"⟩ : MethodName) prog_67_method_9_code 2 (some (.object "com/example/carbonfold/carbonfold/model/RosterItem$Subscription")) :: ws) ({ frames := 0, cells := 0, slots := 0, locals := 0 } : Room)) (fun a U => a = #[(.int (0 : Int32)), (.int (0 : Int32))] ∧ Z.Warmed39 U.vm ∧ U.heap = h0) (fun _ _ _ _ _ => True) (fun _ U o U' => ∃ v L, o = .returned v ∧ Q_rm_combined_4 a_NONE a_FROM a_BOTH a_TO h0 n0 v U'.heap L ∧ FrameEnd U o U' L ({ frames := 0, cells := 0, slots := 0, locals := 0 } : Room).cells ({ frames := 0, cells := 0, slots := 0, locals := 0 } : Room).slots) := by
  refine MetFree.of_bodySF (plainFor_of_name pn_1) hisR ?_
  intro p e s m args below meth c s₁ Bd hml0 hP hK
  obtain ⟨rfl, hZ, hh⟩ := hP
  have hx := Bd.exec
  have hby := Bd.bytes
  have hml : c.maxLocals = 2 := hml0
  have hown : s.vm.findClass "com/example/carbonfold/carbonfold/model/RosterItem$Subscription" = some m.cls := findClass_of_methodNamed Bd.named
  have hnm := (name_of_methodNamed Bd.named Bd.method).1
  have X0 : Stand p l e ({ frames := 0, cells := 0, slots := 0, locals := 0 } : Room) s m #[(.int (0 : Int32)), (.int (0 : Int32))] below meth c s₁ [] 0 0 := Stand.of_body Bd
  have e0 : s₁.heap = h0 := by rw [← hh, Bd.state]; rfl
  have N0 := Fr.nil n0
  have pre0 : ∀ t, Steps p.tables e below (s₁.setTop (mkF m 0 #[.val (.int (0 : Int32)), .val (.int (0 : Int32))] [])) t → Steps p.tables e below (s₁.setTop (entryFrame m #[(.int (0 : Int32)), (.int (0 : Int32))] 2)) t := fun t k => castTop (ef_4 m (0 : Int32) (0 : Int32)) k
  obtain ⟨S_a_NONE, X_a_NONE, S_a_FROM, X_a_FROM, S_a_BOTH, X_a_BOTH, S_a_TO, X_a_TO, F_a_NONE_ordinal, F_a_FROM_ordinal, F_a_BOTH_ordinal, F_a_TO_ordinal⟩ := id En
  obtain ⟨T1, X1, e1, st1⟩ := getS2 X0 hx hZ hown (host := "") (Or.inl (hw _ (List.mem_of_getElem? (i := 37) rfl))) Via.refl e0 (Sta.ext O0.2 S_a_NONE) (g := (mkF m 28 #[.val (.int (0 : Int32)), .val (.int (0 : Int32))] [])) rfl (hb hby dc4_28)
  obtain ⟨fs, hr, hrun, hended, hW, hsame⟩ := X1.leave (v := some (.ref a_NONE)) (fun h => by rw [Bd.returns] at h; cases h)
  refine ⟨_, _, pre0 _ ?_, hrun, hended, _, _, rfl, ?_, ⟨_, rfl⟩, hW, hsame.mono (by decide) (by decide)⟩
  · skip
    show Steps p.tables e below (s₁.setTop (mkF m 0 #[.val (.int (0 : Int32)), .val (.int (0 : Int32))] [])) _
    refine XS.iloadN X0.here hx rfl (hb hby dc4_0) rfl ?_
    show Steps p.tables e below (s₁.setTop (mkF m 1 #[.val (.int (0 : Int32)), .val (.int (0 : Int32))] [(.int (0 : Int32))])) _
    refine XS.ifYes X0.here hx rfl (pc0 := 1) (pc' := 18) rfl (hb hby dc4_1) rfl (by decide) (by decide) (by decide) ?_
    show Steps p.tables e below (s₁.setTop (mkF m 18 #[.val (.int (0 : Int32)), .val (.int (0 : Int32))] [])) _
    refine XS.iloadN X0.here hx rfl (hb hby dc4_18) rfl ?_
    show Steps p.tables e below (s₁.setTop (mkF m 19 #[.val (.int (0 : Int32)), .val (.int (0 : Int32))] [(.int (0 : Int32))])) _
    refine XS.ifYes X0.here hx rfl (pc0 := 19) (pc' := 28) rfl (hb hby dc4_19) rfl (by decide) (by decide) (by decide) ?_
    show Steps p.tables e below (s₁.setTop (mkF m 28 #[.val (.int (0 : Int32)), .val (.int (0 : Int32))] [])) _
    refine st1 _ ?_
    show Steps p.tables e below (T1.setTop (mkF m 31 #[.val (.int (0 : Int32)), .val (.int (0 : Int32))] [(.ref a_NONE)])) _
    exact retOut X1 hx (t := (.object "com/example/carbonfold/carbonfold/model/RosterItem$Subscription")) Bd.returns rfl (Or.inr (Or.inr (Or.inr (Or.inr ⟨rfl, rfl, rfl⟩)))) (hb hby dc4_31) hr
  · show Q_rm_combined_4 a_NONE a_FROM a_BOTH a_TO h0 n0 _ T1.heap _
    rw [e1]
    exact ⟨rfl, N0, rfl⟩
def Q_rm_withFrom_2 (a_NONE a_FROM a_BOTH a_TO : Addr) (h0 : Heap) (n0 : Nat) (v : Option Value) (h : Heap) (L : List Loc) : Prop := v = some (.ref a_NONE) ∧ Fr n0 L ∧ h = h0
theorem pd_2 : parseMethodDescriptor "(ZZ)Lcom/example/carbonfold/carbonfold/model/RosterItem$Subscription;" = some ⟨[.boolean, .boolean], some (.object "com/example/carbonfold/carbonfold/model/RosterItem$Subscription")⟩ := by decide +kernel
theorem dc2_8 : decode prog_67_method_8_code 8 = .ok (.areturn, 1) := by decide +kernel
set_option maxRecDepth 65536 in
set_option maxHeartbeats 40000000 in
theorem rm_withFrom_2 (l : Launch) (Z : State) (a0 : Array Value) (hw : ∀ d ∈ tables_1, d.before a0 Z = true) (ws : List Jvm.Cond) (a_NONE a_FROM a_BOTH a_TO : Addr) (h0 : Heap) (n0 : Nat) (O0 : Old Z n0 h0) (En : OwnEnv Z a_NONE a_FROM a_BOTH a_TO) :
    MetFree l (⟨"com/example/carbonfold/carbonfold/model/RosterItem$Subscription", "withFrom", "(Z)Lcom/example/carbonfold/carbonfold/model/RosterItem$Subscription;"⟩ : MethodName) (head1 (Jvm.Cond.code (⟨"com/example/carbonfold/carbonfold/model/RosterItem$Subscription", "withFrom", "(Z)Lcom/example/carbonfold/carbonfold/model/RosterItem$Subscription;"⟩ : MethodName) prog_67_method_8_code 2 (some (.object "com/example/carbonfold/carbonfold/model/RosterItem$Subscription")) :: ws) ({ frames := 1, cells := 0, slots := 0, locals := 13 } : Room)) (fun a U => a = #[(.ref a_NONE), (.int (0 : Int32))] ∧ Z.Warmed39 U.vm ∧ U.heap = h0) (fun _ _ _ _ _ => True) (fun _ U o U' => ∃ v L, o = .returned v ∧ Q_rm_withFrom_2 a_NONE a_FROM a_BOTH a_TO h0 n0 v U'.heap L ∧ FrameEnd U o U' L ({ frames := 1, cells := 0, slots := 0, locals := 13 } : Room).cells ({ frames := 1, cells := 0, slots := 0, locals := 13 } : Room).slots) := by
  refine MetFree.of_bodySF (plainFor_of_name pn_1) hisR ?_
  intro p e s m args below meth c s₁ Bd hml0 hP hK
  obtain ⟨rfl, hZ, hh⟩ := hP
  have hx := Bd.exec
  have hby := Bd.bytes
  have hml : c.maxLocals = 2 := hml0
  have hown : s.vm.findClass "com/example/carbonfold/carbonfold/model/RosterItem$Subscription" = some m.cls := findClass_of_methodNamed Bd.named
  have hnm := (name_of_methodNamed Bd.named Bd.method).1
  have X0 : Stand p l e ({ frames := 1, cells := 0, slots := 0, locals := 13 } : Room) s m #[(.ref a_NONE), (.int (0 : Int32))] below meth c s₁ [] 0 0 := Stand.of_body Bd
  have e0 : s₁.heap = h0 := by rw [← hh, Bd.state]; rfl
  have N0 := Fr.nil n0
  have pre0 : ∀ t, Steps p.tables e below (s₁.setTop (mkF m 0 #[.val (.ref a_NONE), .val (.int (0 : Int32))] [])) t → Steps p.tables e below (s₁.setTop (entryFrame m #[(.ref a_NONE), (.int (0 : Int32))] 2)) t := fun t k => castTop (ef_3 m a_NONE (0 : Int32)) k
  obtain ⟨S_a_NONE, X_a_NONE, S_a_FROM, X_a_FROM, S_a_BOTH, X_a_BOTH, S_a_TO, X_a_TO, F_a_NONE_ordinal, F_a_FROM_ordinal, F_a_BOTH_ordinal, F_a_TO_ordinal⟩ := id En
  obtain ⟨cq1, kq1, q1a, q1b, q1c⟩ := isOf hZ e0 (Exa.ext O0.2 X_a_NONE)
  obtain ⟨_, _, ⟨T1, L1, k1, n1⟩, -, X1, ⟨Lc1, hQ1, l1, y1, z1⟩, st1⟩ := X0.virtualBack hx (y := (⟨"com/example/carbonfold/carbonfold/model/RosterItem$Subscription", "hasTo", "()Z"⟩ : MethodName)) (z := (⟨"com/example/carbonfold/carbonfold/model/RosterItem$Subscription", "hasTo", "()Z"⟩ : MethodName)) hown (mvT hZ (hw _ (List.mem_of_getElem? (i := 21) rfl))) (mvT hZ (hw _ (List.mem_of_getElem? (i := 22) rfl))) (notFace_of_selects (args := #[]) (mvT hZ (hw _ (List.mem_of_getElem? (i := 24) rfl)))) (mvT hZ (hw _ (List.mem_of_getElem? (i := 24) rfl))) (mvT hZ (hw _ (List.mem_of_getElem? (i := 23) rfl))) (by decide) (backOf (W := 0) (rm_hasTo_3 l Z a0 hw [] a_NONE a_FROM a_BOTH a_TO h0 n0 O0 En) hZ (hw _ (List.mem_of_getElem? (i := 25) rfl)) (hw _ (List.mem_of_getElem? (i := 5) rfl)) (by decide) (by decide)) q1a q1c (g := (mkF m 1 #[.val (.ref a_NONE), .val (.int (0 : Int32))] [(.ref a_NONE)])) rfl (by rw [hml]; rfl) (Steps.refl _) (argsL := []) (rest := []) (lenOf pd_1 rfl) rfl (by show 2 * 0 + _ ≤ _; exact Nat.le_of_eq rfl) (hb hby dc2_1) (fun _ _ => ⟨rfl, e0, (by decide : 0 + 0 ≤ _), (by decide : 0 + 0 ≤ _)⟩)
  dsimp only [Pt.U, Pt.locs, Pt.cells, Pt.slots] at X1 l1 y1 z1 st1 hQ1
  subst l1 y1 z1
  obtain ⟨rfl, N1q, hh1⟩ := hQ1
  have N1 := Fr.app N0 N1q
  obtain ⟨_, _, ⟨T2, L2, k2, n2⟩, -, X2, ⟨Lc2, hQ2, l2, y2, z2⟩, st2⟩ := Jvm.LawKit.callS X1 hx (y := (⟨"com/example/carbonfold/carbonfold/model/RosterItem$Subscription", "combined", "(ZZ)Lcom/example/carbonfold/carbonfold/model/RosterItem$Subscription;"⟩ : MethodName)) hown (mvT hZ (hw _ (List.mem_of_getElem? (i := 28) rfl))) (mvT hZ (hw _ (List.mem_of_getElem? (i := 29) rfl))) (mvT hZ (hw _ (List.mem_of_getElem? (i := 5) rfl))) (mvT hZ (hw _ (List.mem_of_getElem? (i := 30) rfl))) (by decide) (backOf (W := 0) (rm_combined_4 l Z a0 hw [] a_NONE a_FROM a_BOTH a_TO h0 n0 O0 En) hZ (hw _ (List.mem_of_getElem? (i := 30) rfl)) (hw _ (List.mem_of_getElem? (i := 5) rfl)) (by decide) (by decide)) (g := (mkF m 5 #[.val (.ref a_NONE), .val (.int (0 : Int32))] [(.int (0 : Int32)), (.int (0 : Int32))])) rfl (by rw [hml]; rfl) (argsL := [(.int (0 : Int32)), (.int (0 : Int32))]) (rest := []) (lenOf pd_2 rfl) rfl (by show 2 * 0 + _ ≤ _; exact Nat.le_of_eq rfl) (hb hby dc2_5) (fun _ _ => ⟨rfl, hh1, (by decide : 0 + 0 ≤ _), (by decide : 0 + 0 ≤ _)⟩)
  dsimp only [Pt.U, Pt.locs, Pt.cells, Pt.slots] at X2 l2 y2 z2 st2 hQ2
  subst l2 y2 z2
  obtain ⟨rfl, N2q, hh2⟩ := hQ2
  have N2 := Fr.app N1 N2q
  obtain ⟨fs, hr, hrun, hended, hW, hsame⟩ := X2.leave (v := some (.ref a_NONE)) (fun h => by rw [Bd.returns] at h; cases h)
  refine ⟨_, _, pre0 _ ?_, hrun, hended, _, _, rfl, ?_, ⟨_, rfl⟩, hW, hsame.mono (by decide) (by decide)⟩
  · skip
    show Steps p.tables e below (s₁.setTop (mkF m 0 #[.val (.ref a_NONE), .val (.int (0 : Int32))] [])) _
    refine XS.aloadN X0.here hx rfl (hb hby dc2_0) rfl rfl ?_
    show Steps p.tables e below (s₁.setTop (mkF m 1 #[.val (.ref a_NONE), .val (.int (0 : Int32))] [(.ref a_NONE)])) _
    refine st1.trans ?_
    show Steps p.tables e below (T1.setTop (mkF m 4 #[.val (.ref a_NONE), .val (.int (0 : Int32))] [(.int (0 : Int32))])) _
    refine XS.iloadN X1.here hx rfl (hb hby dc2_4) rfl ?_
    show Steps p.tables e below (T1.setTop (mkF m 5 #[.val (.ref a_NONE), .val (.int (0 : Int32))] [(.int (0 : Int32)), (.int (0 : Int32))])) _
    refine st2 _ ?_
    show Steps p.tables e below (T2.setTop (mkF m 8 #[.val (.ref a_NONE), .val (.int (0 : Int32))] [(.ref a_NONE)])) _
    exact retOut X2 hx (t := (.object "com/example/carbonfold/carbonfold/model/RosterItem$Subscription")) Bd.returns rfl (Or.inr (Or.inr (Or.inr (Or.inr ⟨rfl, rfl, rfl⟩)))) (hb hby dc2_8) hr
  · show Q_rm_withFrom_2 a_NONE a_FROM a_BOTH a_TO h0 n0 _ T2.heap _
    rw [hh2]
    exact ⟨rfl, N2, rfl⟩
def Q_rm_withTo_5 (a_NONE a_FROM a_BOTH a_TO : Addr) (h0 : Heap) (n0 : Nat) (v : Option Value) (h : Heap) (L : List Loc) : Prop := v = some (.ref a_NONE) ∧ Fr n0 L ∧ h = h0
theorem pd_3 : parseMethodDescriptor "(Z)Lcom/example/carbonfold/carbonfold/model/RosterItem$Subscription;" = some ⟨[.boolean], some (.object "com/example/carbonfold/carbonfold/model/RosterItem$Subscription")⟩ := by decide +kernel
theorem dc5_0 : decode prog_67_method_7_code 0 = .ok (.iload_n 1, 1) := by decide +kernel
theorem dc5_1 : decode prog_67_method_7_code 1 = .ok (.aload_n 0, 1) := by decide +kernel
theorem dc5_2 : decode prog_67_method_7_code 2 = .ok (.invokevirtual 51, 3) := by decide +kernel
theorem dc5_5 : decode prog_67_method_7_code 5 = .ok (.invokestatic 55, 3) := by decide +kernel
theorem dc5_8 : decode prog_67_method_7_code 8 = .ok (.areturn, 1) := by decide +kernel
set_option maxRecDepth 65536 in
set_option maxHeartbeats 40000000 in
theorem rm_withTo_5 (l : Launch) (Z : State) (a0 : Array Value) (hw : ∀ d ∈ tables_1, d.before a0 Z = true) (ws : List Jvm.Cond) (a_NONE a_FROM a_BOTH a_TO : Addr) (h0 : Heap) (n0 : Nat) (O0 : Old Z n0 h0) (En : OwnEnv Z a_NONE a_FROM a_BOTH a_TO) :
    MetFree l (⟨"com/example/carbonfold/carbonfold/model/RosterItem$Subscription", "withTo", "(Z)Lcom/example/carbonfold/carbonfold/model/RosterItem$Subscription;"⟩ : MethodName) (head1 (Jvm.Cond.code (⟨"com/example/carbonfold/carbonfold/model/RosterItem$Subscription", "withTo", "(Z)Lcom/example/carbonfold/carbonfold/model/RosterItem$Subscription;"⟩ : MethodName) prog_67_method_7_code 2 (some (.object "com/example/carbonfold/carbonfold/model/RosterItem$Subscription")) :: ws) ({ frames := 1, cells := 0, slots := 0, locals := 13 } : Room)) (fun a U => a = #[(.ref a_NONE), (.int (0 : Int32))] ∧ Z.Warmed39 U.vm ∧ U.heap = h0) (fun _ _ _ _ _ => True) (fun _ U o U' => ∃ v L, o = .returned v ∧ Q_rm_withTo_5 a_NONE a_FROM a_BOTH a_TO h0 n0 v U'.heap L ∧ FrameEnd U o U' L ({ frames := 1, cells := 0, slots := 0, locals := 13 } : Room).cells ({ frames := 1, cells := 0, slots := 0, locals := 13 } : Room).slots) := by
  refine MetFree.of_bodySF (plainFor_of_name pn_1) hisR ?_
  intro p e s m args below meth c s₁ Bd hml0 hP hK
  obtain ⟨rfl, hZ, hh⟩ := hP
  have hx := Bd.exec
  have hby := Bd.bytes
  have hml : c.maxLocals = 2 := hml0
  have hown : s.vm.findClass "com/example/carbonfold/carbonfold/model/RosterItem$Subscription" = some m.cls := findClass_of_methodNamed Bd.named
  have hnm := (name_of_methodNamed Bd.named Bd.method).1
  have X0 : Stand p l e ({ frames := 1, cells := 0, slots := 0, locals := 13 } : Room) s m #[(.ref a_NONE), (.int (0 : Int32))] below meth c s₁ [] 0 0 := Stand.of_body Bd
  have e0 : s₁.heap = h0 := by rw [← hh, Bd.state]; rfl
  have N0 := Fr.nil n0
  have pre0 : ∀ t, Steps p.tables e below (s₁.setTop (mkF m 0 #[.val (.ref a_NONE), .val (.int (0 : Int32))] [])) t → Steps p.tables e below (s₁.setTop (entryFrame m #[(.ref a_NONE), (.int (0 : Int32))] 2)) t := fun t k => castTop (ef_3 m a_NONE (0 : Int32)) k
  obtain ⟨S_a_NONE, X_a_NONE, S_a_FROM, X_a_FROM, S_a_BOTH, X_a_BOTH, S_a_TO, X_a_TO, F_a_NONE_ordinal, F_a_FROM_ordinal, F_a_BOTH_ordinal, F_a_TO_ordinal⟩ := id En
  obtain ⟨cq1, kq1, q1a, q1b, q1c⟩ := isOf hZ e0 (Exa.ext O0.2 X_a_NONE)
  obtain ⟨_, _, ⟨T1, L1, k1, n1⟩, -, X1, ⟨Lc1, hQ1, l1, y1, z1⟩, st1⟩ := X0.virtualBack hx (y := (⟨"com/example/carbonfold/carbonfold/model/RosterItem$Subscription", "hasFrom", "()Z"⟩ : MethodName)) (z := (⟨"com/example/carbonfold/carbonfold/model/RosterItem$Subscription", "hasFrom", "()Z"⟩ : MethodName)) hown (mvT hZ (hw _ (List.mem_of_getElem? (i := 36) rfl))) (mvT hZ (hw _ (List.mem_of_getElem? (i := 8) rfl))) (notFace_of_selects (args := #[]) (mvT hZ (hw _ (List.mem_of_getElem? (i := 10) rfl)))) (mvT hZ (hw _ (List.mem_of_getElem? (i := 10) rfl))) (mvT hZ (hw _ (List.mem_of_getElem? (i := 9) rfl))) (by decide) (backOf (W := 1) (rm_hasFrom_1 l Z a0 hw [] a_NONE a_FROM a_BOTH a_TO h0 n0 O0 En) hZ (hw _ (List.mem_of_getElem? (i := 11) rfl)) (hw _ (List.mem_of_getElem? (i := 5) rfl)) (by decide) (by decide)) q1a q1c (g := (mkF m 2 #[.val (.ref a_NONE), .val (.int (0 : Int32))] [(.ref a_NONE), (.int (0 : Int32))])) rfl (by rw [hml]; rfl) (Steps.refl _) (argsL := []) (rest := [(.int (0 : Int32))]) (lenOf pd_1 rfl) rfl (by show 2 * 0 + _ ≤ _; exact Nat.le_of_eq rfl) (hb hby dc5_2) (fun _ _ => ⟨rfl, e0, (by decide : 0 + 0 ≤ _), (by decide : 0 + 0 ≤ _)⟩)
  dsimp only [Pt.U, Pt.locs, Pt.cells, Pt.slots] at X1 l1 y1 z1 st1 hQ1
  subst l1 y1 z1
  obtain ⟨rfl, N1q, hh1⟩ := hQ1
  have N1 := Fr.app N0 N1q
  obtain ⟨_, _, ⟨T2, L2, k2, n2⟩, -, X2, ⟨Lc2, hQ2, l2, y2, z2⟩, st2⟩ := Jvm.LawKit.callS X1 hx (y := (⟨"com/example/carbonfold/carbonfold/model/RosterItem$Subscription", "combined", "(ZZ)Lcom/example/carbonfold/carbonfold/model/RosterItem$Subscription;"⟩ : MethodName)) hown (mvT hZ (hw _ (List.mem_of_getElem? (i := 28) rfl))) (mvT hZ (hw _ (List.mem_of_getElem? (i := 29) rfl))) (mvT hZ (hw _ (List.mem_of_getElem? (i := 5) rfl))) (mvT hZ (hw _ (List.mem_of_getElem? (i := 30) rfl))) (by decide) (backOf (W := 0) (rm_combined_4 l Z a0 hw [] a_NONE a_FROM a_BOTH a_TO h0 n0 O0 En) hZ (hw _ (List.mem_of_getElem? (i := 30) rfl)) (hw _ (List.mem_of_getElem? (i := 5) rfl)) (by decide) (by decide)) (g := (mkF m 5 #[.val (.ref a_NONE), .val (.int (0 : Int32))] [(.int (0 : Int32)), (.int (0 : Int32))])) rfl (by rw [hml]; rfl) (argsL := [(.int (0 : Int32)), (.int (0 : Int32))]) (rest := []) (lenOf pd_2 rfl) rfl (by show 2 * 0 + _ ≤ _; exact Nat.le_of_eq rfl) (hb hby dc5_5) (fun _ _ => ⟨rfl, hh1, (by decide : 0 + 0 ≤ _), (by decide : 0 + 0 ≤ _)⟩)
  dsimp only [Pt.U, Pt.locs, Pt.cells, Pt.slots] at X2 l2 y2 z2 st2 hQ2
  subst l2 y2 z2
  obtain ⟨rfl, N2q, hh2⟩ := hQ2
  have N2 := Fr.app N1 N2q
  obtain ⟨fs, hr, hrun, hended, hW, hsame⟩ := X2.leave (v := some (.ref a_NONE)) (fun h => by rw [Bd.returns] at h; cases h)
  refine ⟨_, _, pre0 _ ?_, hrun, hended, _, _, rfl, ?_, ⟨_, rfl⟩, hW, hsame.mono (by decide) (by decide)⟩
  · skip
    show Steps p.tables e below (s₁.setTop (mkF m 0 #[.val (.ref a_NONE), .val (.int (0 : Int32))] [])) _
    refine XS.iloadN X0.here hx rfl (hb hby dc5_0) rfl ?_
    show Steps p.tables e below (s₁.setTop (mkF m 1 #[.val (.ref a_NONE), .val (.int (0 : Int32))] [(.int (0 : Int32))])) _
    refine XS.aloadN X0.here hx rfl (hb hby dc5_1) rfl rfl ?_
    show Steps p.tables e below (s₁.setTop (mkF m 2 #[.val (.ref a_NONE), .val (.int (0 : Int32))] [(.ref a_NONE), (.int (0 : Int32))])) _
    refine st1.trans ?_
    show Steps p.tables e below (T1.setTop (mkF m 5 #[.val (.ref a_NONE), .val (.int (0 : Int32))] [(.int (0 : Int32)), (.int (0 : Int32))])) _
    refine st2 _ ?_
    show Steps p.tables e below (T2.setTop (mkF m 8 #[.val (.ref a_NONE), .val (.int (0 : Int32))] [(.ref a_NONE)])) _
    exact retOut X2 hx (t := (.object "com/example/carbonfold/carbonfold/model/RosterItem$Subscription")) Bd.returns rfl (Or.inr (Or.inr (Or.inr (Or.inr ⟨rfl, rfl, rfl⟩)))) (hb hby dc5_8) hr
  · show Q_rm_withTo_5 a_NONE a_FROM a_BOTH a_TO h0 n0 _ T2.heap _
    rw [hh2]
    exact ⟨rfl, N2, rfl⟩
def Q_rm_combined_7 (a_NONE a_FROM a_BOTH a_TO : Addr) (h0 : Heap) (n0 : Nat) (v : Option Value) (h : Heap) (L : List Loc) : Prop := v = some (.ref a_TO) ∧ Fr n0 L ∧ h = h0
theorem dc4_4 : decode prog_67_method_9_code 4 = .ok (.iload_n 1, 1) := by decide +kernel
theorem dc4_5 : decode prog_67_method_9_code 5 = .ok (.ifCond .eq 9, 3) := by decide +kernel
theorem dc4_14 : decode prog_67_method_9_code 14 = .ok (.getstatic 7, 3) := by decide +kernel
theorem dc4_17 : decode prog_67_method_9_code 17 = .ok (.areturn, 1) := by decide +kernel
set_option maxRecDepth 65536 in
set_option maxHeartbeats 40000000 in
theorem rm_combined_7 (l : Launch) (Z : State) (a0 : Array Value) (hw : ∀ d ∈ tables_1, d.before a0 Z = true) (ws : List Jvm.Cond) (a_NONE a_FROM a_BOTH a_TO : Addr) (h0 : Heap) (n0 : Nat) (O0 : Old Z n0 h0) (En : OwnEnv Z a_NONE a_FROM a_BOTH a_TO) :
    MetFree l (⟨"com/example/carbonfold/carbonfold/model/RosterItem$Subscription", "combined", "(ZZ)Lcom/example/carbonfold/carbonfold/model/RosterItem$Subscription;"⟩ : MethodName) (head1 (Jvm.Cond.code (⟨"com/example/carbonfold/carbonfold/model/RosterItem$Subscription", "combined", "(ZZ)Lcom/example/carbonfold/carbonfold/model/RosterItem$Subscription;"⟩ : MethodName) prog_67_method_9_code 2 (some (.object "com/example/carbonfold/carbonfold/model/RosterItem$Subscription")) :: ws) ({ frames := 0, cells := 0, slots := 0, locals := 0 } : Room)) (fun a U => a = #[(.int (1 : Int32)), (.int (0 : Int32))] ∧ Z.Warmed39 U.vm ∧ U.heap = h0) (fun _ _ _ _ _ => True) (fun _ U o U' => ∃ v L, o = .returned v ∧ Q_rm_combined_7 a_NONE a_FROM a_BOTH a_TO h0 n0 v U'.heap L ∧ FrameEnd U o U' L ({ frames := 0, cells := 0, slots := 0, locals := 0 } : Room).cells ({ frames := 0, cells := 0, slots := 0, locals := 0 } : Room).slots) := by
  refine MetFree.of_bodySF (plainFor_of_name pn_1) hisR ?_
  intro p e s m args below meth c s₁ Bd hml0 hP hK
  obtain ⟨rfl, hZ, hh⟩ := hP
  have hx := Bd.exec
  have hby := Bd.bytes
  have hml : c.maxLocals = 2 := hml0
  have hown : s.vm.findClass "com/example/carbonfold/carbonfold/model/RosterItem$Subscription" = some m.cls := findClass_of_methodNamed Bd.named
  have hnm := (name_of_methodNamed Bd.named Bd.method).1
  have X0 : Stand p l e ({ frames := 0, cells := 0, slots := 0, locals := 0 } : Room) s m #[(.int (1 : Int32)), (.int (0 : Int32))] below meth c s₁ [] 0 0 := Stand.of_body Bd
  have e0 : s₁.heap = h0 := by rw [← hh, Bd.state]; rfl
  have N0 := Fr.nil n0
  have pre0 : ∀ t, Steps p.tables e below (s₁.setTop (mkF m 0 #[.val (.int (1 : Int32)), .val (.int (0 : Int32))] [])) t → Steps p.tables e below (s₁.setTop (entryFrame m #[(.int (1 : Int32)), (.int (0 : Int32))] 2)) t := fun t k => castTop (ef_4 m (1 : Int32) (0 : Int32)) k
  obtain ⟨S_a_NONE, X_a_NONE, S_a_FROM, X_a_FROM, S_a_BOTH, X_a_BOTH, S_a_TO, X_a_TO, F_a_NONE_ordinal, F_a_FROM_ordinal, F_a_BOTH_ordinal, F_a_TO_ordinal⟩ := id En
  obtain ⟨T1, X1, e1, st1⟩ := getS2 X0 hx hZ hown (host := "") (Or.inl (hw _ (List.mem_of_getElem? (i := 26) rfl))) Via.refl e0 (Sta.ext O0.2 S_a_TO) (g := (mkF m 14 #[.val (.int (1 : Int32)), .val (.int (0 : Int32))] [])) rfl (hb hby dc4_14)
  obtain ⟨fs, hr, hrun, hended, hW, hsame⟩ := X1.leave (v := some (.ref a_TO)) (fun h => by rw [Bd.returns] at h; cases h)
  refine ⟨_, _, pre0 _ ?_, hrun, hended, _, _, rfl, ?_, ⟨_, rfl⟩, hW, hsame.mono (by decide) (by decide)⟩
  · skip
    show Steps p.tables e below (s₁.setTop (mkF m 0 #[.val (.int (1 : Int32)), .val (.int (0 : Int32))] [])) _
    refine XS.iloadN X0.here hx rfl (hb hby dc4_0) rfl ?_
    show Steps p.tables e below (s₁.setTop (mkF m 1 #[.val (.int (1 : Int32)), .val (.int (0 : Int32))] [(.int (1 : Int32))])) _
    refine XS.ifNo X0.here hx rfl (hb hby dc4_1) rfl (by decide) ?_
    show Steps p.tables e below (s₁.setTop (mkF m 4 #[.val (.int (1 : Int32)), .val (.int (0 : Int32))] [])) _
    refine XS.iloadN X0.here hx rfl (hb hby dc4_4) rfl ?_
    show Steps p.tables e below (s₁.setTop (mkF m 5 #[.val (.int (1 : Int32)), .val (.int (0 : Int32))] [(.int (0 : Int32))])) _
    refine XS.ifYes X0.here hx rfl (pc0 := 5) (pc' := 14) rfl (hb hby dc4_5) rfl (by decide) (by decide) (by decide) ?_
    show Steps p.tables e below (s₁.setTop (mkF m 14 #[.val (.int (1 : Int32)), .val (.int (0 : Int32))] [])) _
    refine st1 _ ?_
    show Steps p.tables e below (T1.setTop (mkF m 17 #[.val (.int (1 : Int32)), .val (.int (0 : Int32))] [(.ref a_TO)])) _
    exact retOut X1 hx (t := (.object "com/example/carbonfold/carbonfold/model/RosterItem$Subscription")) Bd.returns rfl (Or.inr (Or.inr (Or.inr (Or.inr ⟨rfl, rfl, rfl⟩)))) (hb hby dc4_17) hr
  · show Q_rm_combined_7 a_NONE a_FROM a_BOTH a_TO h0 n0 _ T1.heap _
    rw [e1]
    exact ⟨rfl, N0, rfl⟩
def Q_rm_withTo_6 (a_NONE a_FROM a_BOTH a_TO : Addr) (h0 : Heap) (n0 : Nat) (v : Option Value) (h : Heap) (L : List Loc) : Prop := v = some (.ref a_TO) ∧ Fr n0 L ∧ h = h0
set_option maxRecDepth 65536 in
set_option maxHeartbeats 40000000 in
theorem rm_withTo_6 (l : Launch) (Z : State) (a0 : Array Value) (hw : ∀ d ∈ tables_1, d.before a0 Z = true) (ws : List Jvm.Cond) (a_NONE a_FROM a_BOTH a_TO : Addr) (h0 : Heap) (n0 : Nat) (O0 : Old Z n0 h0) (En : OwnEnv Z a_NONE a_FROM a_BOTH a_TO) :
    MetFree l (⟨"com/example/carbonfold/carbonfold/model/RosterItem$Subscription", "withTo", "(Z)Lcom/example/carbonfold/carbonfold/model/RosterItem$Subscription;"⟩ : MethodName) (head1 (Jvm.Cond.code (⟨"com/example/carbonfold/carbonfold/model/RosterItem$Subscription", "withTo", "(Z)Lcom/example/carbonfold/carbonfold/model/RosterItem$Subscription;"⟩ : MethodName) prog_67_method_7_code 2 (some (.object "com/example/carbonfold/carbonfold/model/RosterItem$Subscription")) :: ws) ({ frames := 1, cells := 0, slots := 0, locals := 13 } : Room)) (fun a U => a = #[(.ref a_NONE), (.int (1 : Int32))] ∧ Z.Warmed39 U.vm ∧ U.heap = h0) (fun _ _ _ _ _ => True) (fun _ U o U' => ∃ v L, o = .returned v ∧ Q_rm_withTo_6 a_NONE a_FROM a_BOTH a_TO h0 n0 v U'.heap L ∧ FrameEnd U o U' L ({ frames := 1, cells := 0, slots := 0, locals := 13 } : Room).cells ({ frames := 1, cells := 0, slots := 0, locals := 13 } : Room).slots) := by
  refine MetFree.of_bodySF (plainFor_of_name pn_1) hisR ?_
  intro p e s m args below meth c s₁ Bd hml0 hP hK
  obtain ⟨rfl, hZ, hh⟩ := hP
  have hx := Bd.exec
  have hby := Bd.bytes
  have hml : c.maxLocals = 2 := hml0
  have hown : s.vm.findClass "com/example/carbonfold/carbonfold/model/RosterItem$Subscription" = some m.cls := findClass_of_methodNamed Bd.named
  have hnm := (name_of_methodNamed Bd.named Bd.method).1
  have X0 : Stand p l e ({ frames := 1, cells := 0, slots := 0, locals := 13 } : Room) s m #[(.ref a_NONE), (.int (1 : Int32))] below meth c s₁ [] 0 0 := Stand.of_body Bd
  have e0 : s₁.heap = h0 := by rw [← hh, Bd.state]; rfl
  have N0 := Fr.nil n0
  have pre0 : ∀ t, Steps p.tables e below (s₁.setTop (mkF m 0 #[.val (.ref a_NONE), .val (.int (1 : Int32))] [])) t → Steps p.tables e below (s₁.setTop (entryFrame m #[(.ref a_NONE), (.int (1 : Int32))] 2)) t := fun t k => castTop (ef_3 m a_NONE (1 : Int32)) k
  obtain ⟨S_a_NONE, X_a_NONE, S_a_FROM, X_a_FROM, S_a_BOTH, X_a_BOTH, S_a_TO, X_a_TO, F_a_NONE_ordinal, F_a_FROM_ordinal, F_a_BOTH_ordinal, F_a_TO_ordinal⟩ := id En
  obtain ⟨cq1, kq1, q1a, q1b, q1c⟩ := isOf hZ e0 (Exa.ext O0.2 X_a_NONE)
  obtain ⟨_, _, ⟨T1, L1, k1, n1⟩, -, X1, ⟨Lc1, hQ1, l1, y1, z1⟩, st1⟩ := X0.virtualBack hx (y := (⟨"com/example/carbonfold/carbonfold/model/RosterItem$Subscription", "hasFrom", "()Z"⟩ : MethodName)) (z := (⟨"com/example/carbonfold/carbonfold/model/RosterItem$Subscription", "hasFrom", "()Z"⟩ : MethodName)) hown (mvT hZ (hw _ (List.mem_of_getElem? (i := 36) rfl))) (mvT hZ (hw _ (List.mem_of_getElem? (i := 8) rfl))) (notFace_of_selects (args := #[]) (mvT hZ (hw _ (List.mem_of_getElem? (i := 10) rfl)))) (mvT hZ (hw _ (List.mem_of_getElem? (i := 10) rfl))) (mvT hZ (hw _ (List.mem_of_getElem? (i := 9) rfl))) (by decide) (backOf (W := 1) (rm_hasFrom_1 l Z a0 hw [] a_NONE a_FROM a_BOTH a_TO h0 n0 O0 En) hZ (hw _ (List.mem_of_getElem? (i := 11) rfl)) (hw _ (List.mem_of_getElem? (i := 5) rfl)) (by decide) (by decide)) q1a q1c (g := (mkF m 2 #[.val (.ref a_NONE), .val (.int (1 : Int32))] [(.ref a_NONE), (.int (1 : Int32))])) rfl (by rw [hml]; rfl) (Steps.refl _) (argsL := []) (rest := [(.int (1 : Int32))]) (lenOf pd_1 rfl) rfl (by show 2 * 0 + _ ≤ _; exact Nat.le_of_eq rfl) (hb hby dc5_2) (fun _ _ => ⟨rfl, e0, (by decide : 0 + 0 ≤ _), (by decide : 0 + 0 ≤ _)⟩)
  dsimp only [Pt.U, Pt.locs, Pt.cells, Pt.slots] at X1 l1 y1 z1 st1 hQ1
  subst l1 y1 z1
  obtain ⟨rfl, N1q, hh1⟩ := hQ1
  have N1 := Fr.app N0 N1q
  obtain ⟨_, _, ⟨T2, L2, k2, n2⟩, -, X2, ⟨Lc2, hQ2, l2, y2, z2⟩, st2⟩ := Jvm.LawKit.callS X1 hx (y := (⟨"com/example/carbonfold/carbonfold/model/RosterItem$Subscription", "combined", "(ZZ)Lcom/example/carbonfold/carbonfold/model/RosterItem$Subscription;"⟩ : MethodName)) hown (mvT hZ (hw _ (List.mem_of_getElem? (i := 28) rfl))) (mvT hZ (hw _ (List.mem_of_getElem? (i := 29) rfl))) (mvT hZ (hw _ (List.mem_of_getElem? (i := 5) rfl))) (mvT hZ (hw _ (List.mem_of_getElem? (i := 30) rfl))) (by decide) (backOf (W := 0) (rm_combined_7 l Z a0 hw [] a_NONE a_FROM a_BOTH a_TO h0 n0 O0 En) hZ (hw _ (List.mem_of_getElem? (i := 30) rfl)) (hw _ (List.mem_of_getElem? (i := 5) rfl)) (by decide) (by decide)) (g := (mkF m 5 #[.val (.ref a_NONE), .val (.int (1 : Int32))] [(.int (0 : Int32)), (.int (1 : Int32))])) rfl (by rw [hml]; rfl) (argsL := [(.int (1 : Int32)), (.int (0 : Int32))]) (rest := []) (lenOf pd_2 rfl) rfl (by show 2 * 0 + _ ≤ _; exact Nat.le_of_eq rfl) (hb hby dc5_5) (fun _ _ => ⟨rfl, hh1, (by decide : 0 + 0 ≤ _), (by decide : 0 + 0 ≤ _)⟩)
  dsimp only [Pt.U, Pt.locs, Pt.cells, Pt.slots] at X2 l2 y2 z2 st2 hQ2
  subst l2 y2 z2
  obtain ⟨rfl, N2q, hh2⟩ := hQ2
  have N2 := Fr.app N1 N2q
  obtain ⟨fs, hr, hrun, hended, hW, hsame⟩ := X2.leave (v := some (.ref a_TO)) (fun h => by rw [Bd.returns] at h; cases h)
  refine ⟨_, _, pre0 _ ?_, hrun, hended, _, _, rfl, ?_, ⟨_, rfl⟩, hW, hsame.mono (by decide) (by decide)⟩
  · skip
    show Steps p.tables e below (s₁.setTop (mkF m 0 #[.val (.ref a_NONE), .val (.int (1 : Int32))] [])) _
    refine XS.iloadN X0.here hx rfl (hb hby dc5_0) rfl ?_
    show Steps p.tables e below (s₁.setTop (mkF m 1 #[.val (.ref a_NONE), .val (.int (1 : Int32))] [(.int (1 : Int32))])) _
    refine XS.aloadN X0.here hx rfl (hb hby dc5_1) rfl rfl ?_
    show Steps p.tables e below (s₁.setTop (mkF m 2 #[.val (.ref a_NONE), .val (.int (1 : Int32))] [(.ref a_NONE), (.int (1 : Int32))])) _
    refine st1.trans ?_
    show Steps p.tables e below (T1.setTop (mkF m 5 #[.val (.ref a_NONE), .val (.int (1 : Int32))] [(.int (0 : Int32)), (.int (1 : Int32))])) _
    refine st2 _ ?_
    show Steps p.tables e below (T2.setTop (mkF m 8 #[.val (.ref a_NONE), .val (.int (1 : Int32))] [(.ref a_TO)])) _
    exact retOut X2 hx (t := (.object "com/example/carbonfold/carbonfold/model/RosterItem$Subscription")) Bd.returns rfl (Or.inr (Or.inr (Or.inr (Or.inr ⟨rfl, rfl, rfl⟩)))) (hb hby dc5_8) hr
  · show Q_rm_withTo_6 a_NONE a_FROM a_BOTH a_TO h0 n0 _ T2.heap _
    rw [hh2]
    exact ⟨rfl, N2, rfl⟩
def Q_rm_hasFrom_8 (a_NONE a_FROM a_BOTH a_TO : Addr) (h0 : Heap) (n0 : Nat) (v : Option Value) (h : Heap) (L : List Loc) : Prop := v = some (.int (0 : Int32)) ∧ Fr n0 L ∧ h = h0
set_option maxRecDepth 65536 in
set_option maxHeartbeats 40000000 in
theorem rm_hasFrom_8 (l : Launch) (Z : State) (a0 : Array Value) (hw : ∀ d ∈ tables_1, d.before a0 Z = true) (ws : List Jvm.Cond) (a_NONE a_FROM a_BOTH a_TO : Addr) (h0 : Heap) (n0 : Nat) (O0 : Old Z n0 h0) (En : OwnEnv Z a_NONE a_FROM a_BOTH a_TO) :
    MetFree l (⟨"com/example/carbonfold/carbonfold/model/RosterItem$Subscription", "hasFrom", "()Z"⟩ : MethodName) (head1 (Jvm.Cond.code (⟨"com/example/carbonfold/carbonfold/model/RosterItem$Subscription", "hasFrom", "()Z"⟩ : MethodName) prog_67_method_6_code 1 (some .boolean) :: ws) ({ frames := 0, cells := 0, slots := 0, locals := 0 } : Room)) (fun a U => a = #[(.ref a_TO)] ∧ Z.Warmed39 U.vm ∧ U.heap = h0) (fun _ _ _ _ _ => True) (fun _ U o U' => ∃ v L, o = .returned v ∧ Q_rm_hasFrom_8 a_NONE a_FROM a_BOTH a_TO h0 n0 v U'.heap L ∧ FrameEnd U o U' L ({ frames := 0, cells := 0, slots := 0, locals := 0 } : Room).cells ({ frames := 0, cells := 0, slots := 0, locals := 0 } : Room).slots) := by
  refine MetFree.of_bodySF (plainFor_of_name pn_1) hisR ?_
  intro p e s m args below meth c s₁ Bd hml0 hP hK
  obtain ⟨rfl, hZ, hh⟩ := hP
  have hx := Bd.exec
  have hby := Bd.bytes
  have hml : c.maxLocals = 1 := hml0
  have hown : s.vm.findClass "com/example/carbonfold/carbonfold/model/RosterItem$Subscription" = some m.cls := findClass_of_methodNamed Bd.named
  have hnm := (name_of_methodNamed Bd.named Bd.method).1
  have X0 : Stand p l e ({ frames := 0, cells := 0, slots := 0, locals := 0 } : Room) s m #[(.ref a_TO)] below meth c s₁ [] 0 0 := Stand.of_body Bd
  have e0 : s₁.heap = h0 := by rw [← hh, Bd.state]; rfl
  have N0 := Fr.nil n0
  have pre0 : ∀ t, Steps p.tables e below (s₁.setTop (mkF m 0 #[.val (.ref a_TO)] [])) t → Steps p.tables e below (s₁.setTop (entryFrame m #[(.ref a_TO)] 1)) t := fun t k => castTop (ef_2 m a_TO) k
  obtain ⟨S_a_NONE, X_a_NONE, S_a_FROM, X_a_FROM, S_a_BOTH, X_a_BOTH, S_a_TO, X_a_TO, F_a_NONE_ordinal, F_a_FROM_ordinal, F_a_BOTH_ordinal, F_a_TO_ordinal⟩ := id En
  obtain ⟨T1, X1, e1, st1⟩ := getS2 X0 hx hZ hown (host := "") (Or.inl (hw _ (List.mem_of_getElem? (i := 12) rfl))) Via.refl e0 (Sta.ext O0.2 S_a_FROM) (g := (mkF m 1 #[.val (.ref a_TO)] [(.ref a_TO)])) rfl (hb hby dc1_1)
  obtain ⟨T2, X2, e2, st2⟩ := getS2 X1 hx hZ hown (host := "") (Or.inl (hw _ (List.mem_of_getElem? (i := 14) rfl))) Via.refl e1 (Sta.ext O0.2 S_a_BOTH) (g := (mkF m 8 #[.val (.ref a_TO)] [(.ref a_TO)])) rfl (hb hby dc1_8)
  obtain ⟨fs, hr, hrun, hended, hW, hsame⟩ := X2.leave (v := some (.int (0 : Int32))) (fun h => by rw [Bd.returns] at h; cases h)
  refine ⟨_, _, pre0 _ ?_, hrun, hended, _, _, rfl, ?_, ⟨_, rfl⟩, hW, hsame.mono (by decide) (by decide)⟩
  · skip
    show Steps p.tables e below (s₁.setTop (mkF m 0 #[.val (.ref a_TO)] [])) _
    refine XS.aloadN X0.here hx rfl (hb hby dc1_0) rfl rfl ?_
    show Steps p.tables e below (s₁.setTop (mkF m 1 #[.val (.ref a_TO)] [(.ref a_TO)])) _
    refine st1 _ ?_
    show Steps p.tables e below (T1.setTop (mkF m 4 #[.val (.ref a_TO)] [(.ref a_FROM), (.ref a_TO)])) _
    refine Jvm.RoadKit.acmp (g := (mkF m 4 #[.val (.ref a_TO)] [(.ref a_FROM), (.ref a_TO)])) X1 hx rfl rfl rfl (pc0 := 4) (pc' := 7) (same := false) rfl (hb hby dc1_4) rfl (decide_eq_false fun q => (Ne.symm (Fld.ne F_a_FROM_ordinal F_a_TO_ordinal (by simp))) (Value.ref.inj q)) (by decide) (by decide) ?_
    show Steps p.tables e below (T1.setTop (mkF m 7 #[.val (.ref a_TO)] [])) _
    refine XS.aloadN X1.here hx rfl (hb hby dc1_7) rfl rfl ?_
    show Steps p.tables e below (T1.setTop (mkF m 8 #[.val (.ref a_TO)] [(.ref a_TO)])) _
    refine st2 _ ?_
    show Steps p.tables e below (T2.setTop (mkF m 11 #[.val (.ref a_TO)] [(.ref a_BOTH), (.ref a_TO)])) _
    refine Jvm.RoadKit.acmp (g := (mkF m 11 #[.val (.ref a_TO)] [(.ref a_BOTH), (.ref a_TO)])) X2 hx rfl rfl rfl (pc0 := 11) (pc' := 18) (same := false) rfl (hb hby dc1_11) rfl (decide_eq_false fun q => (Ne.symm (Fld.ne F_a_BOTH_ordinal F_a_TO_ordinal (by simp))) (Value.ref.inj q)) (by decide) (by decide) ?_
    show Steps p.tables e below (T2.setTop (mkF m 18 #[.val (.ref a_TO)] [])) _
    refine XS.iconst X2.here hx rfl (hb hby dc1_18) ?_
    show Steps p.tables e below (T2.setTop (mkF m 19 #[.val (.ref a_TO)] [(.int (0 : Int32))])) _
    exact retN X2 hx (t := .boolean) Bd.returns (by simp) (hb hby dc1_19) hr
  · show Q_rm_hasFrom_8 a_NONE a_FROM a_BOTH a_TO h0 n0 _ T2.heap _
    rw [e2]
    exact ⟨rfl, N0, rfl⟩
def Q_rm_combined_10 (a_NONE a_FROM a_BOTH a_TO : Addr) (h0 : Heap) (n0 : Nat) (v : Option Value) (h : Heap) (L : List Loc) : Prop := v = some (.ref a_FROM) ∧ Fr n0 L ∧ h = h0
theorem dc4_22 : decode prog_67_method_9_code 22 = .ok (.getstatic 10, 3) := by decide +kernel
theorem dc4_25 : decode prog_67_method_9_code 25 = .ok (.goto 6, 3) := by decide +kernel
set_option maxRecDepth 65536 in
set_option maxHeartbeats 40000000 in
theorem rm_combined_10 (l : Launch) (Z : State) (a0 : Array Value) (hw : ∀ d ∈ tables_1, d.before a0 Z = true) (ws : List Jvm.Cond) (a_NONE a_FROM a_BOTH a_TO : Addr) (h0 : Heap) (n0 : Nat) (O0 : Old Z n0 h0) (En : OwnEnv Z a_NONE a_FROM a_BOTH a_TO) :
    MetFree l (⟨"com/example/carbonfold/carbonfold/model/RosterItem$Subscription", "combined", "(ZZ)Lcom/example/carbonfold/carbonfold/model/RosterItem$Subscription;"⟩ : MethodName) (head1 (Jvm.Cond.code (⟨"com/example/carbonfold/carbonfold/model/RosterItem$Subscription", "combined", "(ZZ)Lcom/example/carbonfold/carbonfold/model/RosterItem$Subscription;"⟩ : MethodName) prog_67_method_9_code 2 (some (.object "com/example/carbonfold/carbonfold/model/RosterItem$Subscription")) :: ws) ({ frames := 0, cells := 0, slots := 0, locals := 0 } : Room)) (fun a U => a = #[(.int (0 : Int32)), (.int (1 : Int32))] ∧ Z.Warmed39 U.vm ∧ U.heap = h0) (fun _ _ _ _ _ => True) (fun _ U o U' => ∃ v L, o = .returned v ∧ Q_rm_combined_10 a_NONE a_FROM a_BOTH a_TO h0 n0 v U'.heap L ∧ FrameEnd U o U' L ({ frames := 0, cells := 0, slots := 0, locals := 0 } : Room).cells ({ frames := 0, cells := 0, slots := 0, locals := 0 } : Room).slots) := by
  refine MetFree.of_bodySF (plainFor_of_name pn_1) hisR ?_
  intro p e s m args below meth c s₁ Bd hml0 hP hK
  obtain ⟨rfl, hZ, hh⟩ := hP
  have hx := Bd.exec
  have hby := Bd.bytes
  have hml : c.maxLocals = 2 := hml0
  have hown : s.vm.findClass "com/example/carbonfold/carbonfold/model/RosterItem$Subscription" = some m.cls := findClass_of_methodNamed Bd.named
  have hnm := (name_of_methodNamed Bd.named Bd.method).1
  have X0 : Stand p l e ({ frames := 0, cells := 0, slots := 0, locals := 0 } : Room) s m #[(.int (0 : Int32)), (.int (1 : Int32))] below meth c s₁ [] 0 0 := Stand.of_body Bd
  have e0 : s₁.heap = h0 := by rw [← hh, Bd.state]; rfl
  have N0 := Fr.nil n0
  have pre0 : ∀ t, Steps p.tables e below (s₁.setTop (mkF m 0 #[.val (.int (0 : Int32)), .val (.int (1 : Int32))] [])) t → Steps p.tables e below (s₁.setTop (entryFrame m #[(.int (0 : Int32)), (.int (1 : Int32))] 2)) t := fun t k => castTop (ef_4 m (0 : Int32) (1 : Int32)) k
  obtain ⟨S_a_NONE, X_a_NONE, S_a_FROM, X_a_FROM, S_a_BOTH, X_a_BOTH, S_a_TO, X_a_TO, F_a_NONE_ordinal, F_a_FROM_ordinal, F_a_BOTH_ordinal, F_a_TO_ordinal⟩ := id En
  obtain ⟨T1, X1, e1, st1⟩ := getS2 X0 hx hZ hown (host := "") (Or.inl (hw _ (List.mem_of_getElem? (i := 12) rfl))) Via.refl e0 (Sta.ext O0.2 S_a_FROM) (g := (mkF m 22 #[.val (.int (0 : Int32)), .val (.int (1 : Int32))] [])) rfl (hb hby dc4_22)
  obtain ⟨fs, hr, hrun, hended, hW, hsame⟩ := X1.leave (v := some (.ref a_FROM)) (fun h => by rw [Bd.returns] at h; cases h)
  refine ⟨_, _, pre0 _ ?_, hrun, hended, _, _, rfl, ?_, ⟨_, rfl⟩, hW, hsame.mono (by decide) (by decide)⟩
  · skip
    show Steps p.tables e below (s₁.setTop (mkF m 0 #[.val (.int (0 : Int32)), .val (.int (1 : Int32))] [])) _
    refine XS.iloadN X0.here hx rfl (hb hby dc4_0) rfl ?_
    show Steps p.tables e below (s₁.setTop (mkF m 1 #[.val (.int (0 : Int32)), .val (.int (1 : Int32))] [(.int (0 : Int32))])) _
    refine XS.ifYes X0.here hx rfl (pc0 := 1) (pc' := 18) rfl (hb hby dc4_1) rfl (by decide) (by decide) (by decide) ?_
    show Steps p.tables e below (s₁.setTop (mkF m 18 #[.val (.int (0 : Int32)), .val (.int (1 : Int32))] [])) _
    refine XS.iloadN X0.here hx rfl (hb hby dc4_18) rfl ?_
    show Steps p.tables e below (s₁.setTop (mkF m 19 #[.val (.int (0 : Int32)), .val (.int (1 : Int32))] [(.int (1 : Int32))])) _
    refine XS.ifNo X0.here hx rfl (hb hby dc4_19) rfl (by decide) ?_
    show Steps p.tables e below (s₁.setTop (mkF m 22 #[.val (.int (0 : Int32)), .val (.int (1 : Int32))] [])) _
    refine st1 _ ?_
    show Steps p.tables e below (T1.setTop (mkF m 25 #[.val (.int (0 : Int32)), .val (.int (1 : Int32))] [(.ref a_FROM)])) _
    refine XS.goto X1.here hx rfl (pc0 := 25) (pc' := 31) rfl (hb hby dc4_25) (by decide) (by decide) ?_
    show Steps p.tables e below (T1.setTop (mkF m 31 #[.val (.int (0 : Int32)), .val (.int (1 : Int32))] [(.ref a_FROM)])) _
    exact retOut X1 hx (t := (.object "com/example/carbonfold/carbonfold/model/RosterItem$Subscription")) Bd.returns rfl (Or.inr (Or.inr (Or.inr (Or.inr ⟨rfl, rfl, rfl⟩)))) (hb hby dc4_31) hr
  · show Q_rm_combined_10 a_NONE a_FROM a_BOTH a_TO h0 n0 _ T1.heap _
    rw [e1]
    exact ⟨rfl, N0, rfl⟩
def Q_rm_withFrom_9 (a_NONE a_FROM a_BOTH a_TO : Addr) (h0 : Heap) (n0 : Nat) (v : Option Value) (h : Heap) (L : List Loc) : Prop := v = some (.ref a_FROM) ∧ Fr n0 L ∧ h = h0
set_option maxRecDepth 65536 in
set_option maxHeartbeats 40000000 in
theorem rm_withFrom_9 (l : Launch) (Z : State) (a0 : Array Value) (hw : ∀ d ∈ tables_1, d.before a0 Z = true) (ws : List Jvm.Cond) (a_NONE a_FROM a_BOTH a_TO : Addr) (h0 : Heap) (n0 : Nat) (O0 : Old Z n0 h0) (En : OwnEnv Z a_NONE a_FROM a_BOTH a_TO) :
    MetFree l (⟨"com/example/carbonfold/carbonfold/model/RosterItem$Subscription", "withFrom", "(Z)Lcom/example/carbonfold/carbonfold/model/RosterItem$Subscription;"⟩ : MethodName) (head1 (Jvm.Cond.code (⟨"com/example/carbonfold/carbonfold/model/RosterItem$Subscription", "withFrom", "(Z)Lcom/example/carbonfold/carbonfold/model/RosterItem$Subscription;"⟩ : MethodName) prog_67_method_8_code 2 (some (.object "com/example/carbonfold/carbonfold/model/RosterItem$Subscription")) :: ws) ({ frames := 1, cells := 0, slots := 0, locals := 13 } : Room)) (fun a U => a = #[(.ref a_NONE), (.int (1 : Int32))] ∧ Z.Warmed39 U.vm ∧ U.heap = h0) (fun _ _ _ _ _ => True) (fun _ U o U' => ∃ v L, o = .returned v ∧ Q_rm_withFrom_9 a_NONE a_FROM a_BOTH a_TO h0 n0 v U'.heap L ∧ FrameEnd U o U' L ({ frames := 1, cells := 0, slots := 0, locals := 13 } : Room).cells ({ frames := 1, cells := 0, slots := 0, locals := 13 } : Room).slots) := by
  refine MetFree.of_bodySF (plainFor_of_name pn_1) hisR ?_
  intro p e s m args below meth c s₁ Bd hml0 hP hK
  obtain ⟨rfl, hZ, hh⟩ := hP
  have hx := Bd.exec
  have hby := Bd.bytes
  have hml : c.maxLocals = 2 := hml0
  have hown : s.vm.findClass "com/example/carbonfold/carbonfold/model/RosterItem$Subscription" = some m.cls := findClass_of_methodNamed Bd.named
  have hnm := (name_of_methodNamed Bd.named Bd.method).1
  have X0 : Stand p l e ({ frames := 1, cells := 0, slots := 0, locals := 13 } : Room) s m #[(.ref a_NONE), (.int (1 : Int32))] below meth c s₁ [] 0 0 := Stand.of_body Bd
  have e0 : s₁.heap = h0 := by rw [← hh, Bd.state]; rfl
  have N0 := Fr.nil n0
  have pre0 : ∀ t, Steps p.tables e below (s₁.setTop (mkF m 0 #[.val (.ref a_NONE), .val (.int (1 : Int32))] [])) t → Steps p.tables e below (s₁.setTop (entryFrame m #[(.ref a_NONE), (.int (1 : Int32))] 2)) t := fun t k => castTop (ef_3 m a_NONE (1 : Int32)) k
  obtain ⟨S_a_NONE, X_a_NONE, S_a_FROM, X_a_FROM, S_a_BOTH, X_a_BOTH, S_a_TO, X_a_TO, F_a_NONE_ordinal, F_a_FROM_ordinal, F_a_BOTH_ordinal, F_a_TO_ordinal⟩ := id En
  obtain ⟨cq1, kq1, q1a, q1b, q1c⟩ := isOf hZ e0 (Exa.ext O0.2 X_a_NONE)
  obtain ⟨_, _, ⟨T1, L1, k1, n1⟩, -, X1, ⟨Lc1, hQ1, l1, y1, z1⟩, st1⟩ := X0.virtualBack hx (y := (⟨"com/example/carbonfold/carbonfold/model/RosterItem$Subscription", "hasTo", "()Z"⟩ : MethodName)) (z := (⟨"com/example/carbonfold/carbonfold/model/RosterItem$Subscription", "hasTo", "()Z"⟩ : MethodName)) hown (mvT hZ (hw _ (List.mem_of_getElem? (i := 21) rfl))) (mvT hZ (hw _ (List.mem_of_getElem? (i := 22) rfl))) (notFace_of_selects (args := #[]) (mvT hZ (hw _ (List.mem_of_getElem? (i := 24) rfl)))) (mvT hZ (hw _ (List.mem_of_getElem? (i := 24) rfl))) (mvT hZ (hw _ (List.mem_of_getElem? (i := 23) rfl))) (by decide) (backOf (W := 0) (rm_hasTo_3 l Z a0 hw [] a_NONE a_FROM a_BOTH a_TO h0 n0 O0 En) hZ (hw _ (List.mem_of_getElem? (i := 25) rfl)) (hw _ (List.mem_of_getElem? (i := 5) rfl)) (by decide) (by decide)) q1a q1c (g := (mkF m 1 #[.val (.ref a_NONE), .val (.int (1 : Int32))] [(.ref a_NONE)])) rfl (by rw [hml]; rfl) (Steps.refl _) (argsL := []) (rest := []) (lenOf pd_1 rfl) rfl (by show 2 * 0 + _ ≤ _; exact Nat.le_of_eq rfl) (hb hby dc2_1) (fun _ _ => ⟨rfl, e0, (by decide : 0 + 0 ≤ _), (by decide : 0 + 0 ≤ _)⟩)
  dsimp only [Pt.U, Pt.locs, Pt.cells, Pt.slots] at X1 l1 y1 z1 st1 hQ1
  subst l1 y1 z1
  obtain ⟨rfl, N1q, hh1⟩ := hQ1
  have N1 := Fr.app N0 N1q
  obtain ⟨_, _, ⟨T2, L2, k2, n2⟩, -, X2, ⟨Lc2, hQ2, l2, y2, z2⟩, st2⟩ := Jvm.LawKit.callS X1 hx (y := (⟨"com/example/carbonfold/carbonfold/model/RosterItem$Subscription", "combined", "(ZZ)Lcom/example/carbonfold/carbonfold/model/RosterItem$Subscription;"⟩ : MethodName)) hown (mvT hZ (hw _ (List.mem_of_getElem? (i := 28) rfl))) (mvT hZ (hw _ (List.mem_of_getElem? (i := 29) rfl))) (mvT hZ (hw _ (List.mem_of_getElem? (i := 5) rfl))) (mvT hZ (hw _ (List.mem_of_getElem? (i := 30) rfl))) (by decide) (backOf (W := 0) (rm_combined_10 l Z a0 hw [] a_NONE a_FROM a_BOTH a_TO h0 n0 O0 En) hZ (hw _ (List.mem_of_getElem? (i := 30) rfl)) (hw _ (List.mem_of_getElem? (i := 5) rfl)) (by decide) (by decide)) (g := (mkF m 5 #[.val (.ref a_NONE), .val (.int (1 : Int32))] [(.int (1 : Int32)), (.int (0 : Int32))])) rfl (by rw [hml]; rfl) (argsL := [(.int (0 : Int32)), (.int (1 : Int32))]) (rest := []) (lenOf pd_2 rfl) rfl (by show 2 * 0 + _ ≤ _; exact Nat.le_of_eq rfl) (hb hby dc2_5) (fun _ _ => ⟨rfl, hh1, (by decide : 0 + 0 ≤ _), (by decide : 0 + 0 ≤ _)⟩)
  dsimp only [Pt.U, Pt.locs, Pt.cells, Pt.slots] at X2 l2 y2 z2 st2 hQ2
  subst l2 y2 z2
  obtain ⟨rfl, N2q, hh2⟩ := hQ2
  have N2 := Fr.app N1 N2q
  obtain ⟨fs, hr, hrun, hended, hW, hsame⟩ := X2.leave (v := some (.ref a_FROM)) (fun h => by rw [Bd.returns] at h; cases h)
  refine ⟨_, _, pre0 _ ?_, hrun, hended, _, _, rfl, ?_, ⟨_, rfl⟩, hW, hsame.mono (by decide) (by decide)⟩
  · skip
    show Steps p.tables e below (s₁.setTop (mkF m 0 #[.val (.ref a_NONE), .val (.int (1 : Int32))] [])) _
    refine XS.aloadN X0.here hx rfl (hb hby dc2_0) rfl rfl ?_
    show Steps p.tables e below (s₁.setTop (mkF m 1 #[.val (.ref a_NONE), .val (.int (1 : Int32))] [(.ref a_NONE)])) _
    refine st1.trans ?_
    show Steps p.tables e below (T1.setTop (mkF m 4 #[.val (.ref a_NONE), .val (.int (1 : Int32))] [(.int (0 : Int32))])) _
    refine XS.iloadN X1.here hx rfl (hb hby dc2_4) rfl ?_
    show Steps p.tables e below (T1.setTop (mkF m 5 #[.val (.ref a_NONE), .val (.int (1 : Int32))] [(.int (1 : Int32)), (.int (0 : Int32))])) _
    refine st2 _ ?_
    show Steps p.tables e below (T2.setTop (mkF m 8 #[.val (.ref a_NONE), .val (.int (1 : Int32))] [(.ref a_FROM)])) _
    exact retOut X2 hx (t := (.object "com/example/carbonfold/carbonfold/model/RosterItem$Subscription")) Bd.returns rfl (Or.inr (Or.inr (Or.inr (Or.inr ⟨rfl, rfl, rfl⟩)))) (hb hby dc2_8) hr
  · show Q_rm_withFrom_9 a_NONE a_FROM a_BOTH a_TO h0 n0 _ T2.heap _
    rw [hh2]
    exact ⟨rfl, N2, rfl⟩
def Q_rm_hasFrom_11 (a_NONE a_FROM a_BOTH a_TO : Addr) (h0 : Heap) (n0 : Nat) (v : Option Value) (h : Heap) (L : List Loc) : Prop := v = some (.int (1 : Int32)) ∧ Fr n0 L ∧ h = h0
theorem dc1_14 : decode prog_67_method_6_code 14 = .ok (.iconst 1, 1) := by decide +kernel
theorem dc1_15 : decode prog_67_method_6_code 15 = .ok (.goto 4, 3) := by decide +kernel
set_option maxRecDepth 65536 in
set_option maxHeartbeats 40000000 in
theorem rm_hasFrom_11 (l : Launch) (Z : State) (a0 : Array Value) (hw : ∀ d ∈ tables_1, d.before a0 Z = true) (ws : List Jvm.Cond) (a_NONE a_FROM a_BOTH a_TO : Addr) (h0 : Heap) (n0 : Nat) (O0 : Old Z n0 h0) (En : OwnEnv Z a_NONE a_FROM a_BOTH a_TO) :
    MetFree l (⟨"com/example/carbonfold/carbonfold/model/RosterItem$Subscription", "hasFrom", "()Z"⟩ : MethodName) (head1 (Jvm.Cond.code (⟨"com/example/carbonfold/carbonfold/model/RosterItem$Subscription", "hasFrom", "()Z"⟩ : MethodName) prog_67_method_6_code 1 (some .boolean) :: ws) ({ frames := 0, cells := 0, slots := 0, locals := 0 } : Room)) (fun a U => a = #[(.ref a_FROM)] ∧ Z.Warmed39 U.vm ∧ U.heap = h0) (fun _ _ _ _ _ => True) (fun _ U o U' => ∃ v L, o = .returned v ∧ Q_rm_hasFrom_11 a_NONE a_FROM a_BOTH a_TO h0 n0 v U'.heap L ∧ FrameEnd U o U' L ({ frames := 0, cells := 0, slots := 0, locals := 0 } : Room).cells ({ frames := 0, cells := 0, slots := 0, locals := 0 } : Room).slots) := by
  refine MetFree.of_bodySF (plainFor_of_name pn_1) hisR ?_
  intro p e s m args below meth c s₁ Bd hml0 hP hK
  obtain ⟨rfl, hZ, hh⟩ := hP
  have hx := Bd.exec
  have hby := Bd.bytes
  have hml : c.maxLocals = 1 := hml0
  have hown : s.vm.findClass "com/example/carbonfold/carbonfold/model/RosterItem$Subscription" = some m.cls := findClass_of_methodNamed Bd.named
  have hnm := (name_of_methodNamed Bd.named Bd.method).1
  have X0 : Stand p l e ({ frames := 0, cells := 0, slots := 0, locals := 0 } : Room) s m #[(.ref a_FROM)] below meth c s₁ [] 0 0 := Stand.of_body Bd
  have e0 : s₁.heap = h0 := by rw [← hh, Bd.state]; rfl
  have N0 := Fr.nil n0
  have pre0 : ∀ t, Steps p.tables e below (s₁.setTop (mkF m 0 #[.val (.ref a_FROM)] [])) t → Steps p.tables e below (s₁.setTop (entryFrame m #[(.ref a_FROM)] 1)) t := fun t k => castTop (ef_2 m a_FROM) k
  obtain ⟨S_a_NONE, X_a_NONE, S_a_FROM, X_a_FROM, S_a_BOTH, X_a_BOTH, S_a_TO, X_a_TO, F_a_NONE_ordinal, F_a_FROM_ordinal, F_a_BOTH_ordinal, F_a_TO_ordinal⟩ := id En
  obtain ⟨T1, X1, e1, st1⟩ := getS2 X0 hx hZ hown (host := "") (Or.inl (hw _ (List.mem_of_getElem? (i := 12) rfl))) Via.refl e0 (Sta.ext O0.2 S_a_FROM) (g := (mkF m 1 #[.val (.ref a_FROM)] [(.ref a_FROM)])) rfl (hb hby dc1_1)
  obtain ⟨fs, hr, hrun, hended, hW, hsame⟩ := X1.leave (v := some (.int (1 : Int32))) (fun h => by rw [Bd.returns] at h; cases h)
  refine ⟨_, _, pre0 _ ?_, hrun, hended, _, _, rfl, ?_, ⟨_, rfl⟩, hW, hsame.mono (by decide) (by decide)⟩
  · skip
    show Steps p.tables e below (s₁.setTop (mkF m 0 #[.val (.ref a_FROM)] [])) _
    refine XS.aloadN X0.here hx rfl (hb hby dc1_0) rfl rfl ?_
    show Steps p.tables e below (s₁.setTop (mkF m 1 #[.val (.ref a_FROM)] [(.ref a_FROM)])) _
    refine st1 _ ?_
    show Steps p.tables e below (T1.setTop (mkF m 4 #[.val (.ref a_FROM)] [(.ref a_FROM), (.ref a_FROM)])) _
    refine Jvm.RoadKit.acmp (g := (mkF m 4 #[.val (.ref a_FROM)] [(.ref a_FROM), (.ref a_FROM)])) X1 hx rfl rfl rfl (pc0 := 4) (pc' := 14) (same := true) rfl (hb hby dc1_4) rfl (decide_eq_true rfl) (by decide) (by decide) ?_
    show Steps p.tables e below (T1.setTop (mkF m 14 #[.val (.ref a_FROM)] [])) _
    refine XS.iconst X1.here hx rfl (hb hby dc1_14) ?_
    show Steps p.tables e below (T1.setTop (mkF m 15 #[.val (.ref a_FROM)] [(.int (1 : Int32))])) _
    refine XS.goto X1.here hx rfl (pc0 := 15) (pc' := 19) rfl (hb hby dc1_15) (by decide) (by decide) ?_
    show Steps p.tables e below (T1.setTop (mkF m 19 #[.val (.ref a_FROM)] [(.int (1 : Int32))])) _
    exact retN X1 hx (t := .boolean) Bd.returns (by simp) (hb hby dc1_19) hr
  · show Q_rm_hasFrom_11 a_NONE a_FROM a_BOTH a_TO h0 n0 _ T1.heap _
    rw [e1]
    exact ⟨rfl, N0, rfl⟩
def Q_rm_pick1 (a_NONE a_FROM a_BOTH a_TO : Addr) (h0 : Heap) (n0 : Nat) (v : Option Value) (h : Heap) (L : List Loc) : Prop := v = some (.ref a_TO) ∧ Fr n0 L ∧ h = h0
theorem dc0_12 : decode method_2_code 12 = .ok (.iload_n 1, 1) := by decide +kernel
theorem dc0_13 : decode method_2_code 13 = .ok (.iconst 1, 1) := by decide +kernel
theorem dc0_14 : decode method_2_code 14 = .ok (.if_icmp .ne 7, 3) := by decide +kernel
theorem dc0_17 : decode method_2_code 17 = .ok (.getstatic 13, 3) := by decide +kernel
theorem dc0_20 : decode method_2_code 20 = .ok (.areturn, 1) := by decide +kernel
set_option maxRecDepth 65536 in
set_option maxHeartbeats 40000000 in
theorem rm_pick1 (l : Launch) (Z : State) (a0 : Array Value) (hw : ∀ d ∈ tables_1, d.before a0 Z = true) (ws : List Jvm.Cond) (i0 : Int32) (a_NONE a_FROM a_BOTH a_TO : Addr) (h0 : Heap) (n0 : Nat) (O0 : Old Z n0 h0) (En : OwnEnv Z a_NONE a_FROM a_BOTH a_TO) (hk : (i0 &&& (3 : Int32)) = (1 : Int32)) :
    MetFree l (⟨"com/example/carbonfold/carbonfold/model/SubscriptionHasFromPinLaw", "pick", "(I)Lcom/example/carbonfold/carbonfold/model/RosterItem$Subscription;"⟩ : MethodName) (head1 (Jvm.Cond.code (⟨"com/example/carbonfold/carbonfold/model/SubscriptionHasFromPinLaw", "pick", "(I)Lcom/example/carbonfold/carbonfold/model/RosterItem$Subscription;"⟩ : MethodName) method_2_code 2 (some (.object "com/example/carbonfold/carbonfold/model/RosterItem$Subscription")) :: ws) ({ frames := 0, cells := 0, slots := 0, locals := 0 } : Room)) (fun a U => a = #[(.int i0)] ∧ Z.Warmed39 U.vm ∧ U.heap = h0) (fun _ _ _ _ _ => True) (fun _ U o U' => ∃ v L, o = .returned v ∧ Q_rm_pick1 a_NONE a_FROM a_BOTH a_TO h0 n0 v U'.heap L ∧ FrameEnd U o U' L ({ frames := 0, cells := 0, slots := 0, locals := 0 } : Room).cells ({ frames := 0, cells := 0, slots := 0, locals := 0 } : Room).slots) := by
  refine MetFree.of_bodySF (plainFor_of_name pn_0) hisR ?_
  intro p e s m args below meth c s₁ Bd hml0 hP hK
  obtain ⟨rfl, hZ, hh⟩ := hP
  have hx := Bd.exec
  have hby := Bd.bytes
  have hml : c.maxLocals = 2 := hml0
  have hown : s.vm.findClass "com/example/carbonfold/carbonfold/model/SubscriptionHasFromPinLaw" = some m.cls := findClass_of_methodNamed Bd.named
  have hnm := (name_of_methodNamed Bd.named Bd.method).1
  have X0 : Stand p l e ({ frames := 0, cells := 0, slots := 0, locals := 0 } : Room) s m #[(.int i0)] below meth c s₁ [] 0 0 := Stand.of_body Bd
  have e0 : s₁.heap = h0 := by rw [← hh, Bd.state]; rfl
  have N0 := Fr.nil n0
  have pre0 : ∀ t, Steps p.tables e below (s₁.setTop (mkF m 0 #[.val (.int i0), .unset] [])) t → Steps p.tables e below (s₁.setTop (entryFrame m #[(.int i0)] 2)) t := fun t k => castTop (ef_1 m i0) k
  obtain ⟨S_a_NONE, X_a_NONE, S_a_FROM, X_a_FROM, S_a_BOTH, X_a_BOTH, S_a_TO, X_a_TO, F_a_NONE_ordinal, F_a_FROM_ordinal, F_a_BOTH_ordinal, F_a_TO_ordinal⟩ := id En
  obtain ⟨T1, X1, e1, st1⟩ := getS2 X0 hx hZ hown (host := "") (Or.inl (hw _ (List.mem_of_getElem? (i := 38) rfl))) Via.refl e0 (Sta.ext O0.2 S_a_TO) (g := (mkF m 17 #[.val (.int i0), .val (.int (1 : Int32))] [])) rfl (hb hby dc0_17)
  obtain ⟨fs, hr, hrun, hended, hW, hsame⟩ := X1.leave (v := some (.ref a_TO)) (fun h => by rw [Bd.returns] at h; cases h)
  refine ⟨_, _, pre0 _ ?_, hrun, hended, _, _, rfl, ?_, ⟨_, rfl⟩, hW, hsame.mono (by decide) (by decide)⟩
  · skip
    show Steps p.tables e below (s₁.setTop (mkF m 0 #[.val (.int i0), .unset] [])) _
    refine XS.iloadN X0.here hx rfl (hb hby dc0_0) rfl ?_
    show Steps p.tables e below (s₁.setTop (mkF m 1 #[.val (.int i0), .unset] [(.int i0)])) _
    refine XS.iconst X0.here hx rfl (hb hby dc0_1) ?_
    show Steps p.tables e below (s₁.setTop (mkF m 2 #[.val (.int i0), .unset] [(.int (3 : Int32)), (.int i0)])) _
    refine XS.iand X0.here hx rfl (hb hby dc0_2) rfl ?_
    show Steps p.tables e below (s₁.setTop (mkF m 3 #[.val (.int i0), .unset] [(.int (i0 &&& (3 : Int32)))])) _
    rw [hk]
    show Steps p.tables e below (s₁.setTop (mkF m 3 #[.val (.int i0), .unset] [(.int (1 : Int32))])) _
    refine XS.istoreN X0.here hx rfl (hb hby dc0_3) rfl (l' := #[.val (.int i0), .val (.int (1 : Int32))]) rfl ?_
    show Steps p.tables e below (s₁.setTop (mkF m 4 #[.val (.int i0), .val (.int (1 : Int32))] [])) _
    refine XS.iloadN X0.here hx rfl (hb hby dc0_4) rfl ?_
    show Steps p.tables e below (s₁.setTop (mkF m 5 #[.val (.int i0), .val (.int (1 : Int32))] [(.int (1 : Int32))])) _
    refine XS.ifYes X0.here hx rfl (pc0 := 5) (pc' := 12) rfl (hb hby dc0_5) rfl (by decide) (by decide) (by decide) ?_
    show Steps p.tables e below (s₁.setTop (mkF m 12 #[.val (.int i0), .val (.int (1 : Int32))] [])) _
    refine XS.iloadN X0.here hx rfl (hb hby dc0_12) rfl ?_
    show Steps p.tables e below (s₁.setTop (mkF m 13 #[.val (.int i0), .val (.int (1 : Int32))] [(.int (1 : Int32))])) _
    refine XS.iconst X0.here hx rfl (hb hby dc0_13) ?_
    show Steps p.tables e below (s₁.setTop (mkF m 14 #[.val (.int i0), .val (.int (1 : Int32))] [(.int (1 : Int32)), (.int (1 : Int32))])) _
    refine XS.icmpNo X0.here hx rfl (hb hby dc0_14) rfl (by decide) ?_
    show Steps p.tables e below (s₁.setTop (mkF m 17 #[.val (.int i0), .val (.int (1 : Int32))] [])) _
    refine st1 _ ?_
    show Steps p.tables e below (T1.setTop (mkF m 20 #[.val (.int i0), .val (.int (1 : Int32))] [(.ref a_TO)])) _
    exact retOut X1 hx (t := (.object "com/example/carbonfold/carbonfold/model/RosterItem$Subscription")) Bd.returns rfl (Or.inr (Or.inr (Or.inr (Or.inr ⟨rfl, rfl, rfl⟩)))) (hb hby dc0_20) hr
  · show Q_rm_pick1 a_NONE a_FROM a_BOTH a_TO h0 n0 _ T1.heap _
    rw [e1]
    exact ⟨rfl, N0, rfl⟩
def Q_rm_hasTo_13 (a_NONE a_FROM a_BOTH a_TO : Addr) (h0 : Heap) (n0 : Nat) (v : Option Value) (h : Heap) (L : List Loc) : Prop := v = some (.int (1 : Int32)) ∧ Fr n0 L ∧ h = h0
theorem dc3_14 : decode prog_67_method_5_code 14 = .ok (.iconst 1, 1) := by decide +kernel
theorem dc3_15 : decode prog_67_method_5_code 15 = .ok (.goto 4, 3) := by decide +kernel
set_option maxRecDepth 65536 in
set_option maxHeartbeats 40000000 in
theorem rm_hasTo_13 (l : Launch) (Z : State) (a0 : Array Value) (hw : ∀ d ∈ tables_1, d.before a0 Z = true) (ws : List Jvm.Cond) (a_NONE a_FROM a_BOTH a_TO : Addr) (h0 : Heap) (n0 : Nat) (O0 : Old Z n0 h0) (En : OwnEnv Z a_NONE a_FROM a_BOTH a_TO) :
    MetFree l (⟨"com/example/carbonfold/carbonfold/model/RosterItem$Subscription", "hasTo", "()Z"⟩ : MethodName) (head1 (Jvm.Cond.code (⟨"com/example/carbonfold/carbonfold/model/RosterItem$Subscription", "hasTo", "()Z"⟩ : MethodName) prog_67_method_5_code 1 (some .boolean) :: ws) ({ frames := 0, cells := 0, slots := 0, locals := 0 } : Room)) (fun a U => a = #[(.ref a_TO)] ∧ Z.Warmed39 U.vm ∧ U.heap = h0) (fun _ _ _ _ _ => True) (fun _ U o U' => ∃ v L, o = .returned v ∧ Q_rm_hasTo_13 a_NONE a_FROM a_BOTH a_TO h0 n0 v U'.heap L ∧ FrameEnd U o U' L ({ frames := 0, cells := 0, slots := 0, locals := 0 } : Room).cells ({ frames := 0, cells := 0, slots := 0, locals := 0 } : Room).slots) := by
  refine MetFree.of_bodySF (plainFor_of_name pn_1) hisR ?_
  intro p e s m args below meth c s₁ Bd hml0 hP hK
  obtain ⟨rfl, hZ, hh⟩ := hP
  have hx := Bd.exec
  have hby := Bd.bytes
  have hml : c.maxLocals = 1 := hml0
  have hown : s.vm.findClass "com/example/carbonfold/carbonfold/model/RosterItem$Subscription" = some m.cls := findClass_of_methodNamed Bd.named
  have hnm := (name_of_methodNamed Bd.named Bd.method).1
  have X0 : Stand p l e ({ frames := 0, cells := 0, slots := 0, locals := 0 } : Room) s m #[(.ref a_TO)] below meth c s₁ [] 0 0 := Stand.of_body Bd
  have e0 : s₁.heap = h0 := by rw [← hh, Bd.state]; rfl
  have N0 := Fr.nil n0
  have pre0 : ∀ t, Steps p.tables e below (s₁.setTop (mkF m 0 #[.val (.ref a_TO)] [])) t → Steps p.tables e below (s₁.setTop (entryFrame m #[(.ref a_TO)] 1)) t := fun t k => castTop (ef_2 m a_TO) k
  obtain ⟨S_a_NONE, X_a_NONE, S_a_FROM, X_a_FROM, S_a_BOTH, X_a_BOTH, S_a_TO, X_a_TO, F_a_NONE_ordinal, F_a_FROM_ordinal, F_a_BOTH_ordinal, F_a_TO_ordinal⟩ := id En
  obtain ⟨T1, X1, e1, st1⟩ := getS2 X0 hx hZ hown (host := "") (Or.inl (hw _ (List.mem_of_getElem? (i := 26) rfl))) Via.refl e0 (Sta.ext O0.2 S_a_TO) (g := (mkF m 1 #[.val (.ref a_TO)] [(.ref a_TO)])) rfl (hb hby dc3_1)
  obtain ⟨fs, hr, hrun, hended, hW, hsame⟩ := X1.leave (v := some (.int (1 : Int32))) (fun h => by rw [Bd.returns] at h; cases h)
  refine ⟨_, _, pre0 _ ?_, hrun, hended, _, _, rfl, ?_, ⟨_, rfl⟩, hW, hsame.mono (by decide) (by decide)⟩
  · skip
    show Steps p.tables e below (s₁.setTop (mkF m 0 #[.val (.ref a_TO)] [])) _
    refine XS.aloadN X0.here hx rfl (hb hby dc3_0) rfl rfl ?_
    show Steps p.tables e below (s₁.setTop (mkF m 1 #[.val (.ref a_TO)] [(.ref a_TO)])) _
    refine st1 _ ?_
    show Steps p.tables e below (T1.setTop (mkF m 4 #[.val (.ref a_TO)] [(.ref a_TO), (.ref a_TO)])) _
    refine Jvm.RoadKit.acmp (g := (mkF m 4 #[.val (.ref a_TO)] [(.ref a_TO), (.ref a_TO)])) X1 hx rfl rfl rfl (pc0 := 4) (pc' := 14) (same := true) rfl (hb hby dc3_4) rfl (decide_eq_true rfl) (by decide) (by decide) ?_
    show Steps p.tables e below (T1.setTop (mkF m 14 #[.val (.ref a_TO)] [])) _
    refine XS.iconst X1.here hx rfl (hb hby dc3_14) ?_
    show Steps p.tables e below (T1.setTop (mkF m 15 #[.val (.ref a_TO)] [(.int (1 : Int32))])) _
    refine XS.goto X1.here hx rfl (pc0 := 15) (pc' := 19) rfl (hb hby dc3_15) (by decide) (by decide) ?_
    show Steps p.tables e below (T1.setTop (mkF m 19 #[.val (.ref a_TO)] [(.int (1 : Int32))])) _
    exact retN X1 hx (t := .boolean) Bd.returns (by simp) (hb hby dc3_19) hr
  · show Q_rm_hasTo_13 a_NONE a_FROM a_BOTH a_TO h0 n0 _ T1.heap _
    rw [e1]
    exact ⟨rfl, N0, rfl⟩
def Q_rm_withFrom_12 (a_NONE a_FROM a_BOTH a_TO : Addr) (h0 : Heap) (n0 : Nat) (v : Option Value) (h : Heap) (L : List Loc) : Prop := v = some (.ref a_TO) ∧ Fr n0 L ∧ h = h0
set_option maxRecDepth 65536 in
set_option maxHeartbeats 40000000 in
theorem rm_withFrom_12 (l : Launch) (Z : State) (a0 : Array Value) (hw : ∀ d ∈ tables_1, d.before a0 Z = true) (ws : List Jvm.Cond) (a_NONE a_FROM a_BOTH a_TO : Addr) (h0 : Heap) (n0 : Nat) (O0 : Old Z n0 h0) (En : OwnEnv Z a_NONE a_FROM a_BOTH a_TO) :
    MetFree l (⟨"com/example/carbonfold/carbonfold/model/RosterItem$Subscription", "withFrom", "(Z)Lcom/example/carbonfold/carbonfold/model/RosterItem$Subscription;"⟩ : MethodName) (head1 (Jvm.Cond.code (⟨"com/example/carbonfold/carbonfold/model/RosterItem$Subscription", "withFrom", "(Z)Lcom/example/carbonfold/carbonfold/model/RosterItem$Subscription;"⟩ : MethodName) prog_67_method_8_code 2 (some (.object "com/example/carbonfold/carbonfold/model/RosterItem$Subscription")) :: ws) ({ frames := 1, cells := 0, slots := 0, locals := 13 } : Room)) (fun a U => a = #[(.ref a_TO), (.int (0 : Int32))] ∧ Z.Warmed39 U.vm ∧ U.heap = h0) (fun _ _ _ _ _ => True) (fun _ U o U' => ∃ v L, o = .returned v ∧ Q_rm_withFrom_12 a_NONE a_FROM a_BOTH a_TO h0 n0 v U'.heap L ∧ FrameEnd U o U' L ({ frames := 1, cells := 0, slots := 0, locals := 13 } : Room).cells ({ frames := 1, cells := 0, slots := 0, locals := 13 } : Room).slots) := by
  refine MetFree.of_bodySF (plainFor_of_name pn_1) hisR ?_
  intro p e s m args below meth c s₁ Bd hml0 hP hK
  obtain ⟨rfl, hZ, hh⟩ := hP
  have hx := Bd.exec
  have hby := Bd.bytes
  have hml : c.maxLocals = 2 := hml0
  have hown : s.vm.findClass "com/example/carbonfold/carbonfold/model/RosterItem$Subscription" = some m.cls := findClass_of_methodNamed Bd.named
  have hnm := (name_of_methodNamed Bd.named Bd.method).1
  have X0 : Stand p l e ({ frames := 1, cells := 0, slots := 0, locals := 13 } : Room) s m #[(.ref a_TO), (.int (0 : Int32))] below meth c s₁ [] 0 0 := Stand.of_body Bd
  have e0 : s₁.heap = h0 := by rw [← hh, Bd.state]; rfl
  have N0 := Fr.nil n0
  have pre0 : ∀ t, Steps p.tables e below (s₁.setTop (mkF m 0 #[.val (.ref a_TO), .val (.int (0 : Int32))] [])) t → Steps p.tables e below (s₁.setTop (entryFrame m #[(.ref a_TO), (.int (0 : Int32))] 2)) t := fun t k => castTop (ef_3 m a_TO (0 : Int32)) k
  obtain ⟨S_a_NONE, X_a_NONE, S_a_FROM, X_a_FROM, S_a_BOTH, X_a_BOTH, S_a_TO, X_a_TO, F_a_NONE_ordinal, F_a_FROM_ordinal, F_a_BOTH_ordinal, F_a_TO_ordinal⟩ := id En
  obtain ⟨cq1, kq1, q1a, q1b, q1c⟩ := isOf hZ e0 (Exa.ext O0.2 X_a_TO)
  obtain ⟨_, _, ⟨T1, L1, k1, n1⟩, -, X1, ⟨Lc1, hQ1, l1, y1, z1⟩, st1⟩ := X0.virtualBack hx (y := (⟨"com/example/carbonfold/carbonfold/model/RosterItem$Subscription", "hasTo", "()Z"⟩ : MethodName)) (z := (⟨"com/example/carbonfold/carbonfold/model/RosterItem$Subscription", "hasTo", "()Z"⟩ : MethodName)) hown (mvT hZ (hw _ (List.mem_of_getElem? (i := 21) rfl))) (mvT hZ (hw _ (List.mem_of_getElem? (i := 22) rfl))) (notFace_of_selects (args := #[]) (mvT hZ (hw _ (List.mem_of_getElem? (i := 24) rfl)))) (mvT hZ (hw _ (List.mem_of_getElem? (i := 24) rfl))) (mvT hZ (hw _ (List.mem_of_getElem? (i := 23) rfl))) (by decide) (backOf (W := 0) (rm_hasTo_13 l Z a0 hw [] a_NONE a_FROM a_BOTH a_TO h0 n0 O0 En) hZ (hw _ (List.mem_of_getElem? (i := 25) rfl)) (hw _ (List.mem_of_getElem? (i := 5) rfl)) (by decide) (by decide)) q1a q1c (g := (mkF m 1 #[.val (.ref a_TO), .val (.int (0 : Int32))] [(.ref a_TO)])) rfl (by rw [hml]; rfl) (Steps.refl _) (argsL := []) (rest := []) (lenOf pd_1 rfl) rfl (by show 2 * 0 + _ ≤ _; exact Nat.le_of_eq rfl) (hb hby dc2_1) (fun _ _ => ⟨rfl, e0, (by decide : 0 + 0 ≤ _), (by decide : 0 + 0 ≤ _)⟩)
  dsimp only [Pt.U, Pt.locs, Pt.cells, Pt.slots] at X1 l1 y1 z1 st1 hQ1
  subst l1 y1 z1
  obtain ⟨rfl, N1q, hh1⟩ := hQ1
  have N1 := Fr.app N0 N1q
  obtain ⟨_, _, ⟨T2, L2, k2, n2⟩, -, X2, ⟨Lc2, hQ2, l2, y2, z2⟩, st2⟩ := Jvm.LawKit.callS X1 hx (y := (⟨"com/example/carbonfold/carbonfold/model/RosterItem$Subscription", "combined", "(ZZ)Lcom/example/carbonfold/carbonfold/model/RosterItem$Subscription;"⟩ : MethodName)) hown (mvT hZ (hw _ (List.mem_of_getElem? (i := 28) rfl))) (mvT hZ (hw _ (List.mem_of_getElem? (i := 29) rfl))) (mvT hZ (hw _ (List.mem_of_getElem? (i := 5) rfl))) (mvT hZ (hw _ (List.mem_of_getElem? (i := 30) rfl))) (by decide) (backOf (W := 0) (rm_combined_7 l Z a0 hw [] a_NONE a_FROM a_BOTH a_TO h0 n0 O0 En) hZ (hw _ (List.mem_of_getElem? (i := 30) rfl)) (hw _ (List.mem_of_getElem? (i := 5) rfl)) (by decide) (by decide)) (g := (mkF m 5 #[.val (.ref a_TO), .val (.int (0 : Int32))] [(.int (0 : Int32)), (.int (1 : Int32))])) rfl (by rw [hml]; rfl) (argsL := [(.int (1 : Int32)), (.int (0 : Int32))]) (rest := []) (lenOf pd_2 rfl) rfl (by show 2 * 0 + _ ≤ _; exact Nat.le_of_eq rfl) (hb hby dc2_5) (fun _ _ => ⟨rfl, hh1, (by decide : 0 + 0 ≤ _), (by decide : 0 + 0 ≤ _)⟩)
  dsimp only [Pt.U, Pt.locs, Pt.cells, Pt.slots] at X2 l2 y2 z2 st2 hQ2
  subst l2 y2 z2
  obtain ⟨rfl, N2q, hh2⟩ := hQ2
  have N2 := Fr.app N1 N2q
  obtain ⟨fs, hr, hrun, hended, hW, hsame⟩ := X2.leave (v := some (.ref a_TO)) (fun h => by rw [Bd.returns] at h; cases h)
  refine ⟨_, _, pre0 _ ?_, hrun, hended, _, _, rfl, ?_, ⟨_, rfl⟩, hW, hsame.mono (by decide) (by decide)⟩
  · skip
    show Steps p.tables e below (s₁.setTop (mkF m 0 #[.val (.ref a_TO), .val (.int (0 : Int32))] [])) _
    refine XS.aloadN X0.here hx rfl (hb hby dc2_0) rfl rfl ?_
    show Steps p.tables e below (s₁.setTop (mkF m 1 #[.val (.ref a_TO), .val (.int (0 : Int32))] [(.ref a_TO)])) _
    refine st1.trans ?_
    show Steps p.tables e below (T1.setTop (mkF m 4 #[.val (.ref a_TO), .val (.int (0 : Int32))] [(.int (1 : Int32))])) _
    refine XS.iloadN X1.here hx rfl (hb hby dc2_4) rfl ?_
    show Steps p.tables e below (T1.setTop (mkF m 5 #[.val (.ref a_TO), .val (.int (0 : Int32))] [(.int (0 : Int32)), (.int (1 : Int32))])) _
    refine st2 _ ?_
    show Steps p.tables e below (T2.setTop (mkF m 8 #[.val (.ref a_TO), .val (.int (0 : Int32))] [(.ref a_TO)])) _
    exact retOut X2 hx (t := (.object "com/example/carbonfold/carbonfold/model/RosterItem$Subscription")) Bd.returns rfl (Or.inr (Or.inr (Or.inr (Or.inr ⟨rfl, rfl, rfl⟩)))) (hb hby dc2_8) hr
  · show Q_rm_withFrom_12 a_NONE a_FROM a_BOTH a_TO h0 n0 _ T2.heap _
    rw [hh2]
    exact ⟨rfl, N2, rfl⟩
def Q_rm_withTo_14 (a_NONE a_FROM a_BOTH a_TO : Addr) (h0 : Heap) (n0 : Nat) (v : Option Value) (h : Heap) (L : List Loc) : Prop := v = some (.ref a_NONE) ∧ Fr n0 L ∧ h = h0
set_option maxRecDepth 65536 in
set_option maxHeartbeats 40000000 in
theorem rm_withTo_14 (l : Launch) (Z : State) (a0 : Array Value) (hw : ∀ d ∈ tables_1, d.before a0 Z = true) (ws : List Jvm.Cond) (a_NONE a_FROM a_BOTH a_TO : Addr) (h0 : Heap) (n0 : Nat) (O0 : Old Z n0 h0) (En : OwnEnv Z a_NONE a_FROM a_BOTH a_TO) :
    MetFree l (⟨"com/example/carbonfold/carbonfold/model/RosterItem$Subscription", "withTo", "(Z)Lcom/example/carbonfold/carbonfold/model/RosterItem$Subscription;"⟩ : MethodName) (head1 (Jvm.Cond.code (⟨"com/example/carbonfold/carbonfold/model/RosterItem$Subscription", "withTo", "(Z)Lcom/example/carbonfold/carbonfold/model/RosterItem$Subscription;"⟩ : MethodName) prog_67_method_7_code 2 (some (.object "com/example/carbonfold/carbonfold/model/RosterItem$Subscription")) :: ws) ({ frames := 1, cells := 0, slots := 0, locals := 13 } : Room)) (fun a U => a = #[(.ref a_TO), (.int (0 : Int32))] ∧ Z.Warmed39 U.vm ∧ U.heap = h0) (fun _ _ _ _ _ => True) (fun _ U o U' => ∃ v L, o = .returned v ∧ Q_rm_withTo_14 a_NONE a_FROM a_BOTH a_TO h0 n0 v U'.heap L ∧ FrameEnd U o U' L ({ frames := 1, cells := 0, slots := 0, locals := 13 } : Room).cells ({ frames := 1, cells := 0, slots := 0, locals := 13 } : Room).slots) := by
  refine MetFree.of_bodySF (plainFor_of_name pn_1) hisR ?_
  intro p e s m args below meth c s₁ Bd hml0 hP hK
  obtain ⟨rfl, hZ, hh⟩ := hP
  have hx := Bd.exec
  have hby := Bd.bytes
  have hml : c.maxLocals = 2 := hml0
  have hown : s.vm.findClass "com/example/carbonfold/carbonfold/model/RosterItem$Subscription" = some m.cls := findClass_of_methodNamed Bd.named
  have hnm := (name_of_methodNamed Bd.named Bd.method).1
  have X0 : Stand p l e ({ frames := 1, cells := 0, slots := 0, locals := 13 } : Room) s m #[(.ref a_TO), (.int (0 : Int32))] below meth c s₁ [] 0 0 := Stand.of_body Bd
  have e0 : s₁.heap = h0 := by rw [← hh, Bd.state]; rfl
  have N0 := Fr.nil n0
  have pre0 : ∀ t, Steps p.tables e below (s₁.setTop (mkF m 0 #[.val (.ref a_TO), .val (.int (0 : Int32))] [])) t → Steps p.tables e below (s₁.setTop (entryFrame m #[(.ref a_TO), (.int (0 : Int32))] 2)) t := fun t k => castTop (ef_3 m a_TO (0 : Int32)) k
  obtain ⟨S_a_NONE, X_a_NONE, S_a_FROM, X_a_FROM, S_a_BOTH, X_a_BOTH, S_a_TO, X_a_TO, F_a_NONE_ordinal, F_a_FROM_ordinal, F_a_BOTH_ordinal, F_a_TO_ordinal⟩ := id En
  obtain ⟨cq1, kq1, q1a, q1b, q1c⟩ := isOf hZ e0 (Exa.ext O0.2 X_a_TO)
  obtain ⟨_, _, ⟨T1, L1, k1, n1⟩, -, X1, ⟨Lc1, hQ1, l1, y1, z1⟩, st1⟩ := X0.virtualBack hx (y := (⟨"com/example/carbonfold/carbonfold/model/RosterItem$Subscription", "hasFrom", "()Z"⟩ : MethodName)) (z := (⟨"com/example/carbonfold/carbonfold/model/RosterItem$Subscription", "hasFrom", "()Z"⟩ : MethodName)) hown (mvT hZ (hw _ (List.mem_of_getElem? (i := 36) rfl))) (mvT hZ (hw _ (List.mem_of_getElem? (i := 8) rfl))) (notFace_of_selects (args := #[]) (mvT hZ (hw _ (List.mem_of_getElem? (i := 10) rfl)))) (mvT hZ (hw _ (List.mem_of_getElem? (i := 10) rfl))) (mvT hZ (hw _ (List.mem_of_getElem? (i := 9) rfl))) (by decide) (backOf (W := 1) (rm_hasFrom_8 l Z a0 hw [] a_NONE a_FROM a_BOTH a_TO h0 n0 O0 En) hZ (hw _ (List.mem_of_getElem? (i := 11) rfl)) (hw _ (List.mem_of_getElem? (i := 5) rfl)) (by decide) (by decide)) q1a q1c (g := (mkF m 2 #[.val (.ref a_TO), .val (.int (0 : Int32))] [(.ref a_TO), (.int (0 : Int32))])) rfl (by rw [hml]; rfl) (Steps.refl _) (argsL := []) (rest := [(.int (0 : Int32))]) (lenOf pd_1 rfl) rfl (by show 2 * 0 + _ ≤ _; exact Nat.le_of_eq rfl) (hb hby dc5_2) (fun _ _ => ⟨rfl, e0, (by decide : 0 + 0 ≤ _), (by decide : 0 + 0 ≤ _)⟩)
  dsimp only [Pt.U, Pt.locs, Pt.cells, Pt.slots] at X1 l1 y1 z1 st1 hQ1
  subst l1 y1 z1
  obtain ⟨rfl, N1q, hh1⟩ := hQ1
  have N1 := Fr.app N0 N1q
  obtain ⟨_, _, ⟨T2, L2, k2, n2⟩, -, X2, ⟨Lc2, hQ2, l2, y2, z2⟩, st2⟩ := Jvm.LawKit.callS X1 hx (y := (⟨"com/example/carbonfold/carbonfold/model/RosterItem$Subscription", "combined", "(ZZ)Lcom/example/carbonfold/carbonfold/model/RosterItem$Subscription;"⟩ : MethodName)) hown (mvT hZ (hw _ (List.mem_of_getElem? (i := 28) rfl))) (mvT hZ (hw _ (List.mem_of_getElem? (i := 29) rfl))) (mvT hZ (hw _ (List.mem_of_getElem? (i := 5) rfl))) (mvT hZ (hw _ (List.mem_of_getElem? (i := 30) rfl))) (by decide) (backOf (W := 0) (rm_combined_4 l Z a0 hw [] a_NONE a_FROM a_BOTH a_TO h0 n0 O0 En) hZ (hw _ (List.mem_of_getElem? (i := 30) rfl)) (hw _ (List.mem_of_getElem? (i := 5) rfl)) (by decide) (by decide)) (g := (mkF m 5 #[.val (.ref a_TO), .val (.int (0 : Int32))] [(.int (0 : Int32)), (.int (0 : Int32))])) rfl (by rw [hml]; rfl) (argsL := [(.int (0 : Int32)), (.int (0 : Int32))]) (rest := []) (lenOf pd_2 rfl) rfl (by show 2 * 0 + _ ≤ _; exact Nat.le_of_eq rfl) (hb hby dc5_5) (fun _ _ => ⟨rfl, hh1, (by decide : 0 + 0 ≤ _), (by decide : 0 + 0 ≤ _)⟩)
  dsimp only [Pt.U, Pt.locs, Pt.cells, Pt.slots] at X2 l2 y2 z2 st2 hQ2
  subst l2 y2 z2
  obtain ⟨rfl, N2q, hh2⟩ := hQ2
  have N2 := Fr.app N1 N2q
  obtain ⟨fs, hr, hrun, hended, hW, hsame⟩ := X2.leave (v := some (.ref a_NONE)) (fun h => by rw [Bd.returns] at h; cases h)
  refine ⟨_, _, pre0 _ ?_, hrun, hended, _, _, rfl, ?_, ⟨_, rfl⟩, hW, hsame.mono (by decide) (by decide)⟩
  · skip
    show Steps p.tables e below (s₁.setTop (mkF m 0 #[.val (.ref a_TO), .val (.int (0 : Int32))] [])) _
    refine XS.iloadN X0.here hx rfl (hb hby dc5_0) rfl ?_
    show Steps p.tables e below (s₁.setTop (mkF m 1 #[.val (.ref a_TO), .val (.int (0 : Int32))] [(.int (0 : Int32))])) _
    refine XS.aloadN X0.here hx rfl (hb hby dc5_1) rfl rfl ?_
    show Steps p.tables e below (s₁.setTop (mkF m 2 #[.val (.ref a_TO), .val (.int (0 : Int32))] [(.ref a_TO), (.int (0 : Int32))])) _
    refine st1.trans ?_
    show Steps p.tables e below (T1.setTop (mkF m 5 #[.val (.ref a_TO), .val (.int (0 : Int32))] [(.int (0 : Int32)), (.int (0 : Int32))])) _
    refine st2 _ ?_
    show Steps p.tables e below (T2.setTop (mkF m 8 #[.val (.ref a_TO), .val (.int (0 : Int32))] [(.ref a_NONE)])) _
    exact retOut X2 hx (t := (.object "com/example/carbonfold/carbonfold/model/RosterItem$Subscription")) Bd.returns rfl (Or.inr (Or.inr (Or.inr (Or.inr ⟨rfl, rfl, rfl⟩)))) (hb hby dc5_8) hr
  · show Q_rm_withTo_14 a_NONE a_FROM a_BOTH a_TO h0 n0 _ T2.heap _
    rw [hh2]
    exact ⟨rfl, N2, rfl⟩
def Q_rm_withTo_15 (a_NONE a_FROM a_BOTH a_TO : Addr) (h0 : Heap) (n0 : Nat) (v : Option Value) (h : Heap) (L : List Loc) : Prop := v = some (.ref a_TO) ∧ Fr n0 L ∧ h = h0
set_option maxRecDepth 65536 in
set_option maxHeartbeats 40000000 in
theorem rm_withTo_15 (l : Launch) (Z : State) (a0 : Array Value) (hw : ∀ d ∈ tables_1, d.before a0 Z = true) (ws : List Jvm.Cond) (a_NONE a_FROM a_BOTH a_TO : Addr) (h0 : Heap) (n0 : Nat) (O0 : Old Z n0 h0) (En : OwnEnv Z a_NONE a_FROM a_BOTH a_TO) :
    MetFree l (⟨"com/example/carbonfold/carbonfold/model/RosterItem$Subscription", "withTo", "(Z)Lcom/example/carbonfold/carbonfold/model/RosterItem$Subscription;"⟩ : MethodName) (head1 (Jvm.Cond.code (⟨"com/example/carbonfold/carbonfold/model/RosterItem$Subscription", "withTo", "(Z)Lcom/example/carbonfold/carbonfold/model/RosterItem$Subscription;"⟩ : MethodName) prog_67_method_7_code 2 (some (.object "com/example/carbonfold/carbonfold/model/RosterItem$Subscription")) :: ws) ({ frames := 1, cells := 0, slots := 0, locals := 13 } : Room)) (fun a U => a = #[(.ref a_TO), (.int (1 : Int32))] ∧ Z.Warmed39 U.vm ∧ U.heap = h0) (fun _ _ _ _ _ => True) (fun _ U o U' => ∃ v L, o = .returned v ∧ Q_rm_withTo_15 a_NONE a_FROM a_BOTH a_TO h0 n0 v U'.heap L ∧ FrameEnd U o U' L ({ frames := 1, cells := 0, slots := 0, locals := 13 } : Room).cells ({ frames := 1, cells := 0, slots := 0, locals := 13 } : Room).slots) := by
  refine MetFree.of_bodySF (plainFor_of_name pn_1) hisR ?_
  intro p e s m args below meth c s₁ Bd hml0 hP hK
  obtain ⟨rfl, hZ, hh⟩ := hP
  have hx := Bd.exec
  have hby := Bd.bytes
  have hml : c.maxLocals = 2 := hml0
  have hown : s.vm.findClass "com/example/carbonfold/carbonfold/model/RosterItem$Subscription" = some m.cls := findClass_of_methodNamed Bd.named
  have hnm := (name_of_methodNamed Bd.named Bd.method).1
  have X0 : Stand p l e ({ frames := 1, cells := 0, slots := 0, locals := 13 } : Room) s m #[(.ref a_TO), (.int (1 : Int32))] below meth c s₁ [] 0 0 := Stand.of_body Bd
  have e0 : s₁.heap = h0 := by rw [← hh, Bd.state]; rfl
  have N0 := Fr.nil n0
  have pre0 : ∀ t, Steps p.tables e below (s₁.setTop (mkF m 0 #[.val (.ref a_TO), .val (.int (1 : Int32))] [])) t → Steps p.tables e below (s₁.setTop (entryFrame m #[(.ref a_TO), (.int (1 : Int32))] 2)) t := fun t k => castTop (ef_3 m a_TO (1 : Int32)) k
  obtain ⟨S_a_NONE, X_a_NONE, S_a_FROM, X_a_FROM, S_a_BOTH, X_a_BOTH, S_a_TO, X_a_TO, F_a_NONE_ordinal, F_a_FROM_ordinal, F_a_BOTH_ordinal, F_a_TO_ordinal⟩ := id En
  obtain ⟨cq1, kq1, q1a, q1b, q1c⟩ := isOf hZ e0 (Exa.ext O0.2 X_a_TO)
  obtain ⟨_, _, ⟨T1, L1, k1, n1⟩, -, X1, ⟨Lc1, hQ1, l1, y1, z1⟩, st1⟩ := X0.virtualBack hx (y := (⟨"com/example/carbonfold/carbonfold/model/RosterItem$Subscription", "hasFrom", "()Z"⟩ : MethodName)) (z := (⟨"com/example/carbonfold/carbonfold/model/RosterItem$Subscription", "hasFrom", "()Z"⟩ : MethodName)) hown (mvT hZ (hw _ (List.mem_of_getElem? (i := 36) rfl))) (mvT hZ (hw _ (List.mem_of_getElem? (i := 8) rfl))) (notFace_of_selects (args := #[]) (mvT hZ (hw _ (List.mem_of_getElem? (i := 10) rfl)))) (mvT hZ (hw _ (List.mem_of_getElem? (i := 10) rfl))) (mvT hZ (hw _ (List.mem_of_getElem? (i := 9) rfl))) (by decide) (backOf (W := 1) (rm_hasFrom_8 l Z a0 hw [] a_NONE a_FROM a_BOTH a_TO h0 n0 O0 En) hZ (hw _ (List.mem_of_getElem? (i := 11) rfl)) (hw _ (List.mem_of_getElem? (i := 5) rfl)) (by decide) (by decide)) q1a q1c (g := (mkF m 2 #[.val (.ref a_TO), .val (.int (1 : Int32))] [(.ref a_TO), (.int (1 : Int32))])) rfl (by rw [hml]; rfl) (Steps.refl _) (argsL := []) (rest := [(.int (1 : Int32))]) (lenOf pd_1 rfl) rfl (by show 2 * 0 + _ ≤ _; exact Nat.le_of_eq rfl) (hb hby dc5_2) (fun _ _ => ⟨rfl, e0, (by decide : 0 + 0 ≤ _), (by decide : 0 + 0 ≤ _)⟩)
  dsimp only [Pt.U, Pt.locs, Pt.cells, Pt.slots] at X1 l1 y1 z1 st1 hQ1
  subst l1 y1 z1
  obtain ⟨rfl, N1q, hh1⟩ := hQ1
  have N1 := Fr.app N0 N1q
  obtain ⟨_, _, ⟨T2, L2, k2, n2⟩, -, X2, ⟨Lc2, hQ2, l2, y2, z2⟩, st2⟩ := Jvm.LawKit.callS X1 hx (y := (⟨"com/example/carbonfold/carbonfold/model/RosterItem$Subscription", "combined", "(ZZ)Lcom/example/carbonfold/carbonfold/model/RosterItem$Subscription;"⟩ : MethodName)) hown (mvT hZ (hw _ (List.mem_of_getElem? (i := 28) rfl))) (mvT hZ (hw _ (List.mem_of_getElem? (i := 29) rfl))) (mvT hZ (hw _ (List.mem_of_getElem? (i := 5) rfl))) (mvT hZ (hw _ (List.mem_of_getElem? (i := 30) rfl))) (by decide) (backOf (W := 0) (rm_combined_7 l Z a0 hw [] a_NONE a_FROM a_BOTH a_TO h0 n0 O0 En) hZ (hw _ (List.mem_of_getElem? (i := 30) rfl)) (hw _ (List.mem_of_getElem? (i := 5) rfl)) (by decide) (by decide)) (g := (mkF m 5 #[.val (.ref a_TO), .val (.int (1 : Int32))] [(.int (0 : Int32)), (.int (1 : Int32))])) rfl (by rw [hml]; rfl) (argsL := [(.int (1 : Int32)), (.int (0 : Int32))]) (rest := []) (lenOf pd_2 rfl) rfl (by show 2 * 0 + _ ≤ _; exact Nat.le_of_eq rfl) (hb hby dc5_5) (fun _ _ => ⟨rfl, hh1, (by decide : 0 + 0 ≤ _), (by decide : 0 + 0 ≤ _)⟩)
  dsimp only [Pt.U, Pt.locs, Pt.cells, Pt.slots] at X2 l2 y2 z2 st2 hQ2
  subst l2 y2 z2
  obtain ⟨rfl, N2q, hh2⟩ := hQ2
  have N2 := Fr.app N1 N2q
  obtain ⟨fs, hr, hrun, hended, hW, hsame⟩ := X2.leave (v := some (.ref a_TO)) (fun h => by rw [Bd.returns] at h; cases h)
  refine ⟨_, _, pre0 _ ?_, hrun, hended, _, _, rfl, ?_, ⟨_, rfl⟩, hW, hsame.mono (by decide) (by decide)⟩
  · skip
    show Steps p.tables e below (s₁.setTop (mkF m 0 #[.val (.ref a_TO), .val (.int (1 : Int32))] [])) _
    refine XS.iloadN X0.here hx rfl (hb hby dc5_0) rfl ?_
    show Steps p.tables e below (s₁.setTop (mkF m 1 #[.val (.ref a_TO), .val (.int (1 : Int32))] [(.int (1 : Int32))])) _
    refine XS.aloadN X0.here hx rfl (hb hby dc5_1) rfl rfl ?_
    show Steps p.tables e below (s₁.setTop (mkF m 2 #[.val (.ref a_TO), .val (.int (1 : Int32))] [(.ref a_TO), (.int (1 : Int32))])) _
    refine st1.trans ?_
    show Steps p.tables e below (T1.setTop (mkF m 5 #[.val (.ref a_TO), .val (.int (1 : Int32))] [(.int (0 : Int32)), (.int (1 : Int32))])) _
    refine st2 _ ?_
    show Steps p.tables e below (T2.setTop (mkF m 8 #[.val (.ref a_TO), .val (.int (1 : Int32))] [(.ref a_TO)])) _
    exact retOut X2 hx (t := (.object "com/example/carbonfold/carbonfold/model/RosterItem$Subscription")) Bd.returns rfl (Or.inr (Or.inr (Or.inr (Or.inr ⟨rfl, rfl, rfl⟩)))) (hb hby dc5_8) hr
  · show Q_rm_withTo_15 a_NONE a_FROM a_BOTH a_TO h0 n0 _ T2.heap _
    rw [hh2]
    exact ⟨rfl, N2, rfl⟩
def Q_rm_combined_17 (a_NONE a_FROM a_BOTH a_TO : Addr) (h0 : Heap) (n0 : Nat) (v : Option Value) (h : Heap) (L : List Loc) : Prop := v = some (.ref a_BOTH) ∧ Fr n0 L ∧ h = h0
theorem dc4_8 : decode prog_67_method_9_code 8 = .ok (.getstatic 13, 3) := by decide +kernel
theorem dc4_11 : decode prog_67_method_9_code 11 = .ok (.goto 6, 3) := by decide +kernel
set_option maxRecDepth 65536 in
set_option maxHeartbeats 40000000 in
theorem rm_combined_17 (l : Launch) (Z : State) (a0 : Array Value) (hw : ∀ d ∈ tables_1, d.before a0 Z = true) (ws : List Jvm.Cond) (a_NONE a_FROM a_BOTH a_TO : Addr) (h0 : Heap) (n0 : Nat) (O0 : Old Z n0 h0) (En : OwnEnv Z a_NONE a_FROM a_BOTH a_TO) :
    MetFree l (⟨"com/example/carbonfold/carbonfold/model/RosterItem$Subscription", "combined", "(ZZ)Lcom/example/carbonfold/carbonfold/model/RosterItem$Subscription;"⟩ : MethodName) (head1 (Jvm.Cond.code (⟨"com/example/carbonfold/carbonfold/model/RosterItem$Subscription", "combined", "(ZZ)Lcom/example/carbonfold/carbonfold/model/RosterItem$Subscription;"⟩ : MethodName) prog_67_method_9_code 2 (some (.object "com/example/carbonfold/carbonfold/model/RosterItem$Subscription")) :: ws) ({ frames := 0, cells := 0, slots := 0, locals := 0 } : Room)) (fun a U => a = #[(.int (1 : Int32)), (.int (1 : Int32))] ∧ Z.Warmed39 U.vm ∧ U.heap = h0) (fun _ _ _ _ _ => True) (fun _ U o U' => ∃ v L, o = .returned v ∧ Q_rm_combined_17 a_NONE a_FROM a_BOTH a_TO h0 n0 v U'.heap L ∧ FrameEnd U o U' L ({ frames := 0, cells := 0, slots := 0, locals := 0 } : Room).cells ({ frames := 0, cells := 0, slots := 0, locals := 0 } : Room).slots) := by
  refine MetFree.of_bodySF (plainFor_of_name pn_1) hisR ?_
  intro p e s m args below meth c s₁ Bd hml0 hP hK
  obtain ⟨rfl, hZ, hh⟩ := hP
  have hx := Bd.exec
  have hby := Bd.bytes
  have hml : c.maxLocals = 2 := hml0
  have hown : s.vm.findClass "com/example/carbonfold/carbonfold/model/RosterItem$Subscription" = some m.cls := findClass_of_methodNamed Bd.named
  have hnm := (name_of_methodNamed Bd.named Bd.method).1
  have X0 : Stand p l e ({ frames := 0, cells := 0, slots := 0, locals := 0 } : Room) s m #[(.int (1 : Int32)), (.int (1 : Int32))] below meth c s₁ [] 0 0 := Stand.of_body Bd
  have e0 : s₁.heap = h0 := by rw [← hh, Bd.state]; rfl
  have N0 := Fr.nil n0
  have pre0 : ∀ t, Steps p.tables e below (s₁.setTop (mkF m 0 #[.val (.int (1 : Int32)), .val (.int (1 : Int32))] [])) t → Steps p.tables e below (s₁.setTop (entryFrame m #[(.int (1 : Int32)), (.int (1 : Int32))] 2)) t := fun t k => castTop (ef_4 m (1 : Int32) (1 : Int32)) k
  obtain ⟨S_a_NONE, X_a_NONE, S_a_FROM, X_a_FROM, S_a_BOTH, X_a_BOTH, S_a_TO, X_a_TO, F_a_NONE_ordinal, F_a_FROM_ordinal, F_a_BOTH_ordinal, F_a_TO_ordinal⟩ := id En
  obtain ⟨T1, X1, e1, st1⟩ := getS2 X0 hx hZ hown (host := "") (Or.inl (hw _ (List.mem_of_getElem? (i := 14) rfl))) Via.refl e0 (Sta.ext O0.2 S_a_BOTH) (g := (mkF m 8 #[.val (.int (1 : Int32)), .val (.int (1 : Int32))] [])) rfl (hb hby dc4_8)
  obtain ⟨fs, hr, hrun, hended, hW, hsame⟩ := X1.leave (v := some (.ref a_BOTH)) (fun h => by rw [Bd.returns] at h; cases h)
  refine ⟨_, _, pre0 _ ?_, hrun, hended, _, _, rfl, ?_, ⟨_, rfl⟩, hW, hsame.mono (by decide) (by decide)⟩
  · skip
    show Steps p.tables e below (s₁.setTop (mkF m 0 #[.val (.int (1 : Int32)), .val (.int (1 : Int32))] [])) _
    refine XS.iloadN X0.here hx rfl (hb hby dc4_0) rfl ?_
    show Steps p.tables e below (s₁.setTop (mkF m 1 #[.val (.int (1 : Int32)), .val (.int (1 : Int32))] [(.int (1 : Int32))])) _
    refine XS.ifNo X0.here hx rfl (hb hby dc4_1) rfl (by decide) ?_
    show Steps p.tables e below (s₁.setTop (mkF m 4 #[.val (.int (1 : Int32)), .val (.int (1 : Int32))] [])) _
    refine XS.iloadN X0.here hx rfl (hb hby dc4_4) rfl ?_
    show Steps p.tables e below (s₁.setTop (mkF m 5 #[.val (.int (1 : Int32)), .val (.int (1 : Int32))] [(.int (1 : Int32))])) _
    refine XS.ifNo X0.here hx rfl (hb hby dc4_5) rfl (by decide) ?_
    show Steps p.tables e below (s₁.setTop (mkF m 8 #[.val (.int (1 : Int32)), .val (.int (1 : Int32))] [])) _
    refine st1 _ ?_
    show Steps p.tables e below (T1.setTop (mkF m 11 #[.val (.int (1 : Int32)), .val (.int (1 : Int32))] [(.ref a_BOTH)])) _
    refine XS.goto X1.here hx rfl (pc0 := 11) (pc' := 17) rfl (hb hby dc4_11) (by decide) (by decide) ?_
    show Steps p.tables e below (T1.setTop (mkF m 17 #[.val (.int (1 : Int32)), .val (.int (1 : Int32))] [(.ref a_BOTH)])) _
    exact retOut X1 hx (t := (.object "com/example/carbonfold/carbonfold/model/RosterItem$Subscription")) Bd.returns rfl (Or.inr (Or.inr (Or.inr (Or.inr ⟨rfl, rfl, rfl⟩)))) (hb hby dc4_17) hr
  · show Q_rm_combined_17 a_NONE a_FROM a_BOTH a_TO h0 n0 _ T1.heap _
    rw [e1]
    exact ⟨rfl, N0, rfl⟩
def Q_rm_withFrom_16 (a_NONE a_FROM a_BOTH a_TO : Addr) (h0 : Heap) (n0 : Nat) (v : Option Value) (h : Heap) (L : List Loc) : Prop := v = some (.ref a_BOTH) ∧ Fr n0 L ∧ h = h0
set_option maxRecDepth 65536 in
set_option maxHeartbeats 40000000 in
theorem rm_withFrom_16 (l : Launch) (Z : State) (a0 : Array Value) (hw : ∀ d ∈ tables_1, d.before a0 Z = true) (ws : List Jvm.Cond) (a_NONE a_FROM a_BOTH a_TO : Addr) (h0 : Heap) (n0 : Nat) (O0 : Old Z n0 h0) (En : OwnEnv Z a_NONE a_FROM a_BOTH a_TO) :
    MetFree l (⟨"com/example/carbonfold/carbonfold/model/RosterItem$Subscription", "withFrom", "(Z)Lcom/example/carbonfold/carbonfold/model/RosterItem$Subscription;"⟩ : MethodName) (head1 (Jvm.Cond.code (⟨"com/example/carbonfold/carbonfold/model/RosterItem$Subscription", "withFrom", "(Z)Lcom/example/carbonfold/carbonfold/model/RosterItem$Subscription;"⟩ : MethodName) prog_67_method_8_code 2 (some (.object "com/example/carbonfold/carbonfold/model/RosterItem$Subscription")) :: ws) ({ frames := 1, cells := 0, slots := 0, locals := 13 } : Room)) (fun a U => a = #[(.ref a_TO), (.int (1 : Int32))] ∧ Z.Warmed39 U.vm ∧ U.heap = h0) (fun _ _ _ _ _ => True) (fun _ U o U' => ∃ v L, o = .returned v ∧ Q_rm_withFrom_16 a_NONE a_FROM a_BOTH a_TO h0 n0 v U'.heap L ∧ FrameEnd U o U' L ({ frames := 1, cells := 0, slots := 0, locals := 13 } : Room).cells ({ frames := 1, cells := 0, slots := 0, locals := 13 } : Room).slots) := by
  refine MetFree.of_bodySF (plainFor_of_name pn_1) hisR ?_
  intro p e s m args below meth c s₁ Bd hml0 hP hK
  obtain ⟨rfl, hZ, hh⟩ := hP
  have hx := Bd.exec
  have hby := Bd.bytes
  have hml : c.maxLocals = 2 := hml0
  have hown : s.vm.findClass "com/example/carbonfold/carbonfold/model/RosterItem$Subscription" = some m.cls := findClass_of_methodNamed Bd.named
  have hnm := (name_of_methodNamed Bd.named Bd.method).1
  have X0 : Stand p l e ({ frames := 1, cells := 0, slots := 0, locals := 13 } : Room) s m #[(.ref a_TO), (.int (1 : Int32))] below meth c s₁ [] 0 0 := Stand.of_body Bd
  have e0 : s₁.heap = h0 := by rw [← hh, Bd.state]; rfl
  have N0 := Fr.nil n0
  have pre0 : ∀ t, Steps p.tables e below (s₁.setTop (mkF m 0 #[.val (.ref a_TO), .val (.int (1 : Int32))] [])) t → Steps p.tables e below (s₁.setTop (entryFrame m #[(.ref a_TO), (.int (1 : Int32))] 2)) t := fun t k => castTop (ef_3 m a_TO (1 : Int32)) k
  obtain ⟨S_a_NONE, X_a_NONE, S_a_FROM, X_a_FROM, S_a_BOTH, X_a_BOTH, S_a_TO, X_a_TO, F_a_NONE_ordinal, F_a_FROM_ordinal, F_a_BOTH_ordinal, F_a_TO_ordinal⟩ := id En
  obtain ⟨cq1, kq1, q1a, q1b, q1c⟩ := isOf hZ e0 (Exa.ext O0.2 X_a_TO)
  obtain ⟨_, _, ⟨T1, L1, k1, n1⟩, -, X1, ⟨Lc1, hQ1, l1, y1, z1⟩, st1⟩ := X0.virtualBack hx (y := (⟨"com/example/carbonfold/carbonfold/model/RosterItem$Subscription", "hasTo", "()Z"⟩ : MethodName)) (z := (⟨"com/example/carbonfold/carbonfold/model/RosterItem$Subscription", "hasTo", "()Z"⟩ : MethodName)) hown (mvT hZ (hw _ (List.mem_of_getElem? (i := 21) rfl))) (mvT hZ (hw _ (List.mem_of_getElem? (i := 22) rfl))) (notFace_of_selects (args := #[]) (mvT hZ (hw _ (List.mem_of_getElem? (i := 24) rfl)))) (mvT hZ (hw _ (List.mem_of_getElem? (i := 24) rfl))) (mvT hZ (hw _ (List.mem_of_getElem? (i := 23) rfl))) (by decide) (backOf (W := 0) (rm_hasTo_13 l Z a0 hw [] a_NONE a_FROM a_BOTH a_TO h0 n0 O0 En) hZ (hw _ (List.mem_of_getElem? (i := 25) rfl)) (hw _ (List.mem_of_getElem? (i := 5) rfl)) (by decide) (by decide)) q1a q1c (g := (mkF m 1 #[.val (.ref a_TO), .val (.int (1 : Int32))] [(.ref a_TO)])) rfl (by rw [hml]; rfl) (Steps.refl _) (argsL := []) (rest := []) (lenOf pd_1 rfl) rfl (by show 2 * 0 + _ ≤ _; exact Nat.le_of_eq rfl) (hb hby dc2_1) (fun _ _ => ⟨rfl, e0, (by decide : 0 + 0 ≤ _), (by decide : 0 + 0 ≤ _)⟩)
  dsimp only [Pt.U, Pt.locs, Pt.cells, Pt.slots] at X1 l1 y1 z1 st1 hQ1
  subst l1 y1 z1
  obtain ⟨rfl, N1q, hh1⟩ := hQ1
  have N1 := Fr.app N0 N1q
  obtain ⟨_, _, ⟨T2, L2, k2, n2⟩, -, X2, ⟨Lc2, hQ2, l2, y2, z2⟩, st2⟩ := Jvm.LawKit.callS X1 hx (y := (⟨"com/example/carbonfold/carbonfold/model/RosterItem$Subscription", "combined", "(ZZ)Lcom/example/carbonfold/carbonfold/model/RosterItem$Subscription;"⟩ : MethodName)) hown (mvT hZ (hw _ (List.mem_of_getElem? (i := 28) rfl))) (mvT hZ (hw _ (List.mem_of_getElem? (i := 29) rfl))) (mvT hZ (hw _ (List.mem_of_getElem? (i := 5) rfl))) (mvT hZ (hw _ (List.mem_of_getElem? (i := 30) rfl))) (by decide) (backOf (W := 0) (rm_combined_17 l Z a0 hw [] a_NONE a_FROM a_BOTH a_TO h0 n0 O0 En) hZ (hw _ (List.mem_of_getElem? (i := 30) rfl)) (hw _ (List.mem_of_getElem? (i := 5) rfl)) (by decide) (by decide)) (g := (mkF m 5 #[.val (.ref a_TO), .val (.int (1 : Int32))] [(.int (1 : Int32)), (.int (1 : Int32))])) rfl (by rw [hml]; rfl) (argsL := [(.int (1 : Int32)), (.int (1 : Int32))]) (rest := []) (lenOf pd_2 rfl) rfl (by show 2 * 0 + _ ≤ _; exact Nat.le_of_eq rfl) (hb hby dc2_5) (fun _ _ => ⟨rfl, hh1, (by decide : 0 + 0 ≤ _), (by decide : 0 + 0 ≤ _)⟩)
  dsimp only [Pt.U, Pt.locs, Pt.cells, Pt.slots] at X2 l2 y2 z2 st2 hQ2
  subst l2 y2 z2
  obtain ⟨rfl, N2q, hh2⟩ := hQ2
  have N2 := Fr.app N1 N2q
  obtain ⟨fs, hr, hrun, hended, hW, hsame⟩ := X2.leave (v := some (.ref a_BOTH)) (fun h => by rw [Bd.returns] at h; cases h)
  refine ⟨_, _, pre0 _ ?_, hrun, hended, _, _, rfl, ?_, ⟨_, rfl⟩, hW, hsame.mono (by decide) (by decide)⟩
  · skip
    show Steps p.tables e below (s₁.setTop (mkF m 0 #[.val (.ref a_TO), .val (.int (1 : Int32))] [])) _
    refine XS.aloadN X0.here hx rfl (hb hby dc2_0) rfl rfl ?_
    show Steps p.tables e below (s₁.setTop (mkF m 1 #[.val (.ref a_TO), .val (.int (1 : Int32))] [(.ref a_TO)])) _
    refine st1.trans ?_
    show Steps p.tables e below (T1.setTop (mkF m 4 #[.val (.ref a_TO), .val (.int (1 : Int32))] [(.int (1 : Int32))])) _
    refine XS.iloadN X1.here hx rfl (hb hby dc2_4) rfl ?_
    show Steps p.tables e below (T1.setTop (mkF m 5 #[.val (.ref a_TO), .val (.int (1 : Int32))] [(.int (1 : Int32)), (.int (1 : Int32))])) _
    refine st2 _ ?_
    show Steps p.tables e below (T2.setTop (mkF m 8 #[.val (.ref a_TO), .val (.int (1 : Int32))] [(.ref a_BOTH)])) _
    exact retOut X2 hx (t := (.object "com/example/carbonfold/carbonfold/model/RosterItem$Subscription")) Bd.returns rfl (Or.inr (Or.inr (Or.inr (Or.inr ⟨rfl, rfl, rfl⟩)))) (hb hby dc2_8) hr
  · show Q_rm_withFrom_16 a_NONE a_FROM a_BOTH a_TO h0 n0 _ T2.heap _
    rw [hh2]
    exact ⟨rfl, N2, rfl⟩
def Q_rm_hasFrom_18 (a_NONE a_FROM a_BOTH a_TO : Addr) (h0 : Heap) (n0 : Nat) (v : Option Value) (h : Heap) (L : List Loc) : Prop := v = some (.int (1 : Int32)) ∧ Fr n0 L ∧ h = h0
set_option maxRecDepth 65536 in
set_option maxHeartbeats 40000000 in
theorem rm_hasFrom_18 (l : Launch) (Z : State) (a0 : Array Value) (hw : ∀ d ∈ tables_1, d.before a0 Z = true) (ws : List Jvm.Cond) (a_NONE a_FROM a_BOTH a_TO : Addr) (h0 : Heap) (n0 : Nat) (O0 : Old Z n0 h0) (En : OwnEnv Z a_NONE a_FROM a_BOTH a_TO) :
    MetFree l (⟨"com/example/carbonfold/carbonfold/model/RosterItem$Subscription", "hasFrom", "()Z"⟩ : MethodName) (head1 (Jvm.Cond.code (⟨"com/example/carbonfold/carbonfold/model/RosterItem$Subscription", "hasFrom", "()Z"⟩ : MethodName) prog_67_method_6_code 1 (some .boolean) :: ws) ({ frames := 0, cells := 0, slots := 0, locals := 0 } : Room)) (fun a U => a = #[(.ref a_BOTH)] ∧ Z.Warmed39 U.vm ∧ U.heap = h0) (fun _ _ _ _ _ => True) (fun _ U o U' => ∃ v L, o = .returned v ∧ Q_rm_hasFrom_18 a_NONE a_FROM a_BOTH a_TO h0 n0 v U'.heap L ∧ FrameEnd U o U' L ({ frames := 0, cells := 0, slots := 0, locals := 0 } : Room).cells ({ frames := 0, cells := 0, slots := 0, locals := 0 } : Room).slots) := by
  refine MetFree.of_bodySF (plainFor_of_name pn_1) hisR ?_
  intro p e s m args below meth c s₁ Bd hml0 hP hK
  obtain ⟨rfl, hZ, hh⟩ := hP
  have hx := Bd.exec
  have hby := Bd.bytes
  have hml : c.maxLocals = 1 := hml0
  have hown : s.vm.findClass "com/example/carbonfold/carbonfold/model/RosterItem$Subscription" = some m.cls := findClass_of_methodNamed Bd.named
  have hnm := (name_of_methodNamed Bd.named Bd.method).1
  have X0 : Stand p l e ({ frames := 0, cells := 0, slots := 0, locals := 0 } : Room) s m #[(.ref a_BOTH)] below meth c s₁ [] 0 0 := Stand.of_body Bd
  have e0 : s₁.heap = h0 := by rw [← hh, Bd.state]; rfl
  have N0 := Fr.nil n0
  have pre0 : ∀ t, Steps p.tables e below (s₁.setTop (mkF m 0 #[.val (.ref a_BOTH)] [])) t → Steps p.tables e below (s₁.setTop (entryFrame m #[(.ref a_BOTH)] 1)) t := fun t k => castTop (ef_2 m a_BOTH) k
  obtain ⟨S_a_NONE, X_a_NONE, S_a_FROM, X_a_FROM, S_a_BOTH, X_a_BOTH, S_a_TO, X_a_TO, F_a_NONE_ordinal, F_a_FROM_ordinal, F_a_BOTH_ordinal, F_a_TO_ordinal⟩ := id En
  obtain ⟨T1, X1, e1, st1⟩ := getS2 X0 hx hZ hown (host := "") (Or.inl (hw _ (List.mem_of_getElem? (i := 12) rfl))) Via.refl e0 (Sta.ext O0.2 S_a_FROM) (g := (mkF m 1 #[.val (.ref a_BOTH)] [(.ref a_BOTH)])) rfl (hb hby dc1_1)
  obtain ⟨T2, X2, e2, st2⟩ := getS2 X1 hx hZ hown (host := "") (Or.inl (hw _ (List.mem_of_getElem? (i := 14) rfl))) Via.refl e1 (Sta.ext O0.2 S_a_BOTH) (g := (mkF m 8 #[.val (.ref a_BOTH)] [(.ref a_BOTH)])) rfl (hb hby dc1_8)
  obtain ⟨fs, hr, hrun, hended, hW, hsame⟩ := X2.leave (v := some (.int (1 : Int32))) (fun h => by rw [Bd.returns] at h; cases h)
  refine ⟨_, _, pre0 _ ?_, hrun, hended, _, _, rfl, ?_, ⟨_, rfl⟩, hW, hsame.mono (by decide) (by decide)⟩
  · skip
    show Steps p.tables e below (s₁.setTop (mkF m 0 #[.val (.ref a_BOTH)] [])) _
    refine XS.aloadN X0.here hx rfl (hb hby dc1_0) rfl rfl ?_
    show Steps p.tables e below (s₁.setTop (mkF m 1 #[.val (.ref a_BOTH)] [(.ref a_BOTH)])) _
    refine st1 _ ?_
    show Steps p.tables e below (T1.setTop (mkF m 4 #[.val (.ref a_BOTH)] [(.ref a_FROM), (.ref a_BOTH)])) _
    refine Jvm.RoadKit.acmp (g := (mkF m 4 #[.val (.ref a_BOTH)] [(.ref a_FROM), (.ref a_BOTH)])) X1 hx rfl rfl rfl (pc0 := 4) (pc' := 7) (same := false) rfl (hb hby dc1_4) rfl (decide_eq_false fun q => (Ne.symm (Fld.ne F_a_FROM_ordinal F_a_BOTH_ordinal (by simp))) (Value.ref.inj q)) (by decide) (by decide) ?_
    show Steps p.tables e below (T1.setTop (mkF m 7 #[.val (.ref a_BOTH)] [])) _
    refine XS.aloadN X1.here hx rfl (hb hby dc1_7) rfl rfl ?_
    show Steps p.tables e below (T1.setTop (mkF m 8 #[.val (.ref a_BOTH)] [(.ref a_BOTH)])) _
    refine st2 _ ?_
    show Steps p.tables e below (T2.setTop (mkF m 11 #[.val (.ref a_BOTH)] [(.ref a_BOTH), (.ref a_BOTH)])) _
    refine Jvm.RoadKit.acmp (g := (mkF m 11 #[.val (.ref a_BOTH)] [(.ref a_BOTH), (.ref a_BOTH)])) X2 hx rfl rfl rfl (pc0 := 11) (pc' := 14) (same := true) rfl (hb hby dc1_11) rfl (decide_eq_true rfl) (by decide) (by decide) ?_
    show Steps p.tables e below (T2.setTop (mkF m 14 #[.val (.ref a_BOTH)] [])) _
    refine XS.iconst X2.here hx rfl (hb hby dc1_14) ?_
    show Steps p.tables e below (T2.setTop (mkF m 15 #[.val (.ref a_BOTH)] [(.int (1 : Int32))])) _
    refine XS.goto X2.here hx rfl (pc0 := 15) (pc' := 19) rfl (hb hby dc1_15) (by decide) (by decide) ?_
    show Steps p.tables e below (T2.setTop (mkF m 19 #[.val (.ref a_BOTH)] [(.int (1 : Int32))])) _
    exact retN X2 hx (t := .boolean) Bd.returns (by simp) (hb hby dc1_19) hr
  · show Q_rm_hasFrom_18 a_NONE a_FROM a_BOTH a_TO h0 n0 _ T2.heap _
    rw [e2]
    exact ⟨rfl, N0, rfl⟩
def Q_rm_pick2 (a_NONE a_FROM a_BOTH a_TO : Addr) (h0 : Heap) (n0 : Nat) (v : Option Value) (h : Heap) (L : List Loc) : Prop := v = some (.ref a_FROM) ∧ Fr n0 L ∧ h = h0
theorem dc0_21 : decode method_2_code 21 = .ok (.iload_n 1, 1) := by decide +kernel
theorem dc0_22 : decode method_2_code 22 = .ok (.iconst 2, 1) := by decide +kernel
theorem dc0_23 : decode method_2_code 23 = .ok (.if_icmp .ne 7, 3) := by decide +kernel
theorem dc0_26 : decode method_2_code 26 = .ok (.getstatic 16, 3) := by decide +kernel
theorem dc0_29 : decode method_2_code 29 = .ok (.areturn, 1) := by decide +kernel
set_option maxRecDepth 65536 in
set_option maxHeartbeats 40000000 in
theorem rm_pick2 (l : Launch) (Z : State) (a0 : Array Value) (hw : ∀ d ∈ tables_1, d.before a0 Z = true) (ws : List Jvm.Cond) (i0 : Int32) (a_NONE a_FROM a_BOTH a_TO : Addr) (h0 : Heap) (n0 : Nat) (O0 : Old Z n0 h0) (En : OwnEnv Z a_NONE a_FROM a_BOTH a_TO) (hk : (i0 &&& (3 : Int32)) = (2 : Int32)) :
    MetFree l (⟨"com/example/carbonfold/carbonfold/model/SubscriptionHasFromPinLaw", "pick", "(I)Lcom/example/carbonfold/carbonfold/model/RosterItem$Subscription;"⟩ : MethodName) (head1 (Jvm.Cond.code (⟨"com/example/carbonfold/carbonfold/model/SubscriptionHasFromPinLaw", "pick", "(I)Lcom/example/carbonfold/carbonfold/model/RosterItem$Subscription;"⟩ : MethodName) method_2_code 2 (some (.object "com/example/carbonfold/carbonfold/model/RosterItem$Subscription")) :: ws) ({ frames := 0, cells := 0, slots := 0, locals := 0 } : Room)) (fun a U => a = #[(.int i0)] ∧ Z.Warmed39 U.vm ∧ U.heap = h0) (fun _ _ _ _ _ => True) (fun _ U o U' => ∃ v L, o = .returned v ∧ Q_rm_pick2 a_NONE a_FROM a_BOTH a_TO h0 n0 v U'.heap L ∧ FrameEnd U o U' L ({ frames := 0, cells := 0, slots := 0, locals := 0 } : Room).cells ({ frames := 0, cells := 0, slots := 0, locals := 0 } : Room).slots) := by
  refine MetFree.of_bodySF (plainFor_of_name pn_0) hisR ?_
  intro p e s m args below meth c s₁ Bd hml0 hP hK
  obtain ⟨rfl, hZ, hh⟩ := hP
  have hx := Bd.exec
  have hby := Bd.bytes
  have hml : c.maxLocals = 2 := hml0
  have hown : s.vm.findClass "com/example/carbonfold/carbonfold/model/SubscriptionHasFromPinLaw" = some m.cls := findClass_of_methodNamed Bd.named
  have hnm := (name_of_methodNamed Bd.named Bd.method).1
  have X0 : Stand p l e ({ frames := 0, cells := 0, slots := 0, locals := 0 } : Room) s m #[(.int i0)] below meth c s₁ [] 0 0 := Stand.of_body Bd
  have e0 : s₁.heap = h0 := by rw [← hh, Bd.state]; rfl
  have N0 := Fr.nil n0
  have pre0 : ∀ t, Steps p.tables e below (s₁.setTop (mkF m 0 #[.val (.int i0), .unset] [])) t → Steps p.tables e below (s₁.setTop (entryFrame m #[(.int i0)] 2)) t := fun t k => castTop (ef_1 m i0) k
  obtain ⟨S_a_NONE, X_a_NONE, S_a_FROM, X_a_FROM, S_a_BOTH, X_a_BOTH, S_a_TO, X_a_TO, F_a_NONE_ordinal, F_a_FROM_ordinal, F_a_BOTH_ordinal, F_a_TO_ordinal⟩ := id En
  obtain ⟨T1, X1, e1, st1⟩ := getS2 X0 hx hZ hown (host := "") (Or.inl (hw _ (List.mem_of_getElem? (i := 40) rfl))) Via.refl e0 (Sta.ext O0.2 S_a_FROM) (g := (mkF m 26 #[.val (.int i0), .val (.int (2 : Int32))] [])) rfl (hb hby dc0_26)
  obtain ⟨fs, hr, hrun, hended, hW, hsame⟩ := X1.leave (v := some (.ref a_FROM)) (fun h => by rw [Bd.returns] at h; cases h)
  refine ⟨_, _, pre0 _ ?_, hrun, hended, _, _, rfl, ?_, ⟨_, rfl⟩, hW, hsame.mono (by decide) (by decide)⟩
  · skip
    show Steps p.tables e below (s₁.setTop (mkF m 0 #[.val (.int i0), .unset] [])) _
    refine XS.iloadN X0.here hx rfl (hb hby dc0_0) rfl ?_
    show Steps p.tables e below (s₁.setTop (mkF m 1 #[.val (.int i0), .unset] [(.int i0)])) _
    refine XS.iconst X0.here hx rfl (hb hby dc0_1) ?_
    show Steps p.tables e below (s₁.setTop (mkF m 2 #[.val (.int i0), .unset] [(.int (3 : Int32)), (.int i0)])) _
    refine XS.iand X0.here hx rfl (hb hby dc0_2) rfl ?_
    show Steps p.tables e below (s₁.setTop (mkF m 3 #[.val (.int i0), .unset] [(.int (i0 &&& (3 : Int32)))])) _
    rw [hk]
    show Steps p.tables e below (s₁.setTop (mkF m 3 #[.val (.int i0), .unset] [(.int (2 : Int32))])) _
    refine XS.istoreN X0.here hx rfl (hb hby dc0_3) rfl (l' := #[.val (.int i0), .val (.int (2 : Int32))]) rfl ?_
    show Steps p.tables e below (s₁.setTop (mkF m 4 #[.val (.int i0), .val (.int (2 : Int32))] [])) _
    refine XS.iloadN X0.here hx rfl (hb hby dc0_4) rfl ?_
    show Steps p.tables e below (s₁.setTop (mkF m 5 #[.val (.int i0), .val (.int (2 : Int32))] [(.int (2 : Int32))])) _
    refine XS.ifYes X0.here hx rfl (pc0 := 5) (pc' := 12) rfl (hb hby dc0_5) rfl (by decide) (by decide) (by decide) ?_
    show Steps p.tables e below (s₁.setTop (mkF m 12 #[.val (.int i0), .val (.int (2 : Int32))] [])) _
    refine XS.iloadN X0.here hx rfl (hb hby dc0_12) rfl ?_
    show Steps p.tables e below (s₁.setTop (mkF m 13 #[.val (.int i0), .val (.int (2 : Int32))] [(.int (2 : Int32))])) _
    refine XS.iconst X0.here hx rfl (hb hby dc0_13) ?_
    show Steps p.tables e below (s₁.setTop (mkF m 14 #[.val (.int i0), .val (.int (2 : Int32))] [(.int (1 : Int32)), (.int (2 : Int32))])) _
    refine XS.icmpYes X0.here hx rfl (pc0 := 14) (pc' := 21) rfl (hb hby dc0_14) rfl (by decide) (by decide) (by decide) ?_
    show Steps p.tables e below (s₁.setTop (mkF m 21 #[.val (.int i0), .val (.int (2 : Int32))] [])) _
    refine XS.iloadN X0.here hx rfl (hb hby dc0_21) rfl ?_
    show Steps p.tables e below (s₁.setTop (mkF m 22 #[.val (.int i0), .val (.int (2 : Int32))] [(.int (2 : Int32))])) _
    refine XS.iconst X0.here hx rfl (hb hby dc0_22) ?_
    show Steps p.tables e below (s₁.setTop (mkF m 23 #[.val (.int i0), .val (.int (2 : Int32))] [(.int (2 : Int32)), (.int (2 : Int32))])) _
    refine XS.icmpNo X0.here hx rfl (hb hby dc0_23) rfl (by decide) ?_
    show Steps p.tables e below (s₁.setTop (mkF m 26 #[.val (.int i0), .val (.int (2 : Int32))] [])) _
    refine st1 _ ?_
    show Steps p.tables e below (T1.setTop (mkF m 29 #[.val (.int i0), .val (.int (2 : Int32))] [(.ref a_FROM)])) _
    exact retOut X1 hx (t := (.object "com/example/carbonfold/carbonfold/model/RosterItem$Subscription")) Bd.returns rfl (Or.inr (Or.inr (Or.inr (Or.inr ⟨rfl, rfl, rfl⟩)))) (hb hby dc0_29) hr
  · show Q_rm_pick2 a_NONE a_FROM a_BOTH a_TO h0 n0 _ T1.heap _
    rw [e1]
    exact ⟨rfl, N0, rfl⟩
def Q_rm_hasTo_20 (a_NONE a_FROM a_BOTH a_TO : Addr) (h0 : Heap) (n0 : Nat) (v : Option Value) (h : Heap) (L : List Loc) : Prop := v = some (.int (0 : Int32)) ∧ Fr n0 L ∧ h = h0
set_option maxRecDepth 65536 in
set_option maxHeartbeats 40000000 in
theorem rm_hasTo_20 (l : Launch) (Z : State) (a0 : Array Value) (hw : ∀ d ∈ tables_1, d.before a0 Z = true) (ws : List Jvm.Cond) (a_NONE a_FROM a_BOTH a_TO : Addr) (h0 : Heap) (n0 : Nat) (O0 : Old Z n0 h0) (En : OwnEnv Z a_NONE a_FROM a_BOTH a_TO) :
    MetFree l (⟨"com/example/carbonfold/carbonfold/model/RosterItem$Subscription", "hasTo", "()Z"⟩ : MethodName) (head1 (Jvm.Cond.code (⟨"com/example/carbonfold/carbonfold/model/RosterItem$Subscription", "hasTo", "()Z"⟩ : MethodName) prog_67_method_5_code 1 (some .boolean) :: ws) ({ frames := 0, cells := 0, slots := 0, locals := 0 } : Room)) (fun a U => a = #[(.ref a_FROM)] ∧ Z.Warmed39 U.vm ∧ U.heap = h0) (fun _ _ _ _ _ => True) (fun _ U o U' => ∃ v L, o = .returned v ∧ Q_rm_hasTo_20 a_NONE a_FROM a_BOTH a_TO h0 n0 v U'.heap L ∧ FrameEnd U o U' L ({ frames := 0, cells := 0, slots := 0, locals := 0 } : Room).cells ({ frames := 0, cells := 0, slots := 0, locals := 0 } : Room).slots) := by
  refine MetFree.of_bodySF (plainFor_of_name pn_1) hisR ?_
  intro p e s m args below meth c s₁ Bd hml0 hP hK
  obtain ⟨rfl, hZ, hh⟩ := hP
  have hx := Bd.exec
  have hby := Bd.bytes
  have hml : c.maxLocals = 1 := hml0
  have hown : s.vm.findClass "com/example/carbonfold/carbonfold/model/RosterItem$Subscription" = some m.cls := findClass_of_methodNamed Bd.named
  have hnm := (name_of_methodNamed Bd.named Bd.method).1
  have X0 : Stand p l e ({ frames := 0, cells := 0, slots := 0, locals := 0 } : Room) s m #[(.ref a_FROM)] below meth c s₁ [] 0 0 := Stand.of_body Bd
  have e0 : s₁.heap = h0 := by rw [← hh, Bd.state]; rfl
  have N0 := Fr.nil n0
  have pre0 : ∀ t, Steps p.tables e below (s₁.setTop (mkF m 0 #[.val (.ref a_FROM)] [])) t → Steps p.tables e below (s₁.setTop (entryFrame m #[(.ref a_FROM)] 1)) t := fun t k => castTop (ef_2 m a_FROM) k
  obtain ⟨S_a_NONE, X_a_NONE, S_a_FROM, X_a_FROM, S_a_BOTH, X_a_BOTH, S_a_TO, X_a_TO, F_a_NONE_ordinal, F_a_FROM_ordinal, F_a_BOTH_ordinal, F_a_TO_ordinal⟩ := id En
  obtain ⟨T1, X1, e1, st1⟩ := getS2 X0 hx hZ hown (host := "") (Or.inl (hw _ (List.mem_of_getElem? (i := 26) rfl))) Via.refl e0 (Sta.ext O0.2 S_a_TO) (g := (mkF m 1 #[.val (.ref a_FROM)] [(.ref a_FROM)])) rfl (hb hby dc3_1)
  obtain ⟨T2, X2, e2, st2⟩ := getS2 X1 hx hZ hown (host := "") (Or.inl (hw _ (List.mem_of_getElem? (i := 14) rfl))) Via.refl e1 (Sta.ext O0.2 S_a_BOTH) (g := (mkF m 8 #[.val (.ref a_FROM)] [(.ref a_FROM)])) rfl (hb hby dc3_8)
  obtain ⟨fs, hr, hrun, hended, hW, hsame⟩ := X2.leave (v := some (.int (0 : Int32))) (fun h => by rw [Bd.returns] at h; cases h)
  refine ⟨_, _, pre0 _ ?_, hrun, hended, _, _, rfl, ?_, ⟨_, rfl⟩, hW, hsame.mono (by decide) (by decide)⟩
  · skip
    show Steps p.tables e below (s₁.setTop (mkF m 0 #[.val (.ref a_FROM)] [])) _
    refine XS.aloadN X0.here hx rfl (hb hby dc3_0) rfl rfl ?_
    show Steps p.tables e below (s₁.setTop (mkF m 1 #[.val (.ref a_FROM)] [(.ref a_FROM)])) _
    refine st1 _ ?_
    show Steps p.tables e below (T1.setTop (mkF m 4 #[.val (.ref a_FROM)] [(.ref a_TO), (.ref a_FROM)])) _
    refine Jvm.RoadKit.acmp (g := (mkF m 4 #[.val (.ref a_FROM)] [(.ref a_TO), (.ref a_FROM)])) X1 hx rfl rfl rfl (pc0 := 4) (pc' := 7) (same := false) rfl (hb hby dc3_4) rfl (decide_eq_false fun q => (Fld.ne F_a_FROM_ordinal F_a_TO_ordinal (by simp)) (Value.ref.inj q)) (by decide) (by decide) ?_
    show Steps p.tables e below (T1.setTop (mkF m 7 #[.val (.ref a_FROM)] [])) _
    refine XS.aloadN X1.here hx rfl (hb hby dc3_7) rfl rfl ?_
    show Steps p.tables e below (T1.setTop (mkF m 8 #[.val (.ref a_FROM)] [(.ref a_FROM)])) _
    refine st2 _ ?_
    show Steps p.tables e below (T2.setTop (mkF m 11 #[.val (.ref a_FROM)] [(.ref a_BOTH), (.ref a_FROM)])) _
    refine Jvm.RoadKit.acmp (g := (mkF m 11 #[.val (.ref a_FROM)] [(.ref a_BOTH), (.ref a_FROM)])) X2 hx rfl rfl rfl (pc0 := 11) (pc' := 18) (same := false) rfl (hb hby dc3_11) rfl (decide_eq_false fun q => (Fld.ne F_a_FROM_ordinal F_a_BOTH_ordinal (by simp)) (Value.ref.inj q)) (by decide) (by decide) ?_
    show Steps p.tables e below (T2.setTop (mkF m 18 #[.val (.ref a_FROM)] [])) _
    refine XS.iconst X2.here hx rfl (hb hby dc3_18) ?_
    show Steps p.tables e below (T2.setTop (mkF m 19 #[.val (.ref a_FROM)] [(.int (0 : Int32))])) _
    exact retN X2 hx (t := .boolean) Bd.returns (by simp) (hb hby dc3_19) hr
  · show Q_rm_hasTo_20 a_NONE a_FROM a_BOTH a_TO h0 n0 _ T2.heap _
    rw [e2]
    exact ⟨rfl, N0, rfl⟩
def Q_rm_withFrom_19 (a_NONE a_FROM a_BOTH a_TO : Addr) (h0 : Heap) (n0 : Nat) (v : Option Value) (h : Heap) (L : List Loc) : Prop := v = some (.ref a_NONE) ∧ Fr n0 L ∧ h = h0
set_option maxRecDepth 65536 in
set_option maxHeartbeats 40000000 in
theorem rm_withFrom_19 (l : Launch) (Z : State) (a0 : Array Value) (hw : ∀ d ∈ tables_1, d.before a0 Z = true) (ws : List Jvm.Cond) (a_NONE a_FROM a_BOTH a_TO : Addr) (h0 : Heap) (n0 : Nat) (O0 : Old Z n0 h0) (En : OwnEnv Z a_NONE a_FROM a_BOTH a_TO) :
    MetFree l (⟨"com/example/carbonfold/carbonfold/model/RosterItem$Subscription", "withFrom", "(Z)Lcom/example/carbonfold/carbonfold/model/RosterItem$Subscription;"⟩ : MethodName) (head1 (Jvm.Cond.code (⟨"com/example/carbonfold/carbonfold/model/RosterItem$Subscription", "withFrom", "(Z)Lcom/example/carbonfold/carbonfold/model/RosterItem$Subscription;"⟩ : MethodName) prog_67_method_8_code 2 (some (.object "com/example/carbonfold/carbonfold/model/RosterItem$Subscription")) :: ws) ({ frames := 1, cells := 0, slots := 0, locals := 13 } : Room)) (fun a U => a = #[(.ref a_FROM), (.int (0 : Int32))] ∧ Z.Warmed39 U.vm ∧ U.heap = h0) (fun _ _ _ _ _ => True) (fun _ U o U' => ∃ v L, o = .returned v ∧ Q_rm_withFrom_19 a_NONE a_FROM a_BOTH a_TO h0 n0 v U'.heap L ∧ FrameEnd U o U' L ({ frames := 1, cells := 0, slots := 0, locals := 13 } : Room).cells ({ frames := 1, cells := 0, slots := 0, locals := 13 } : Room).slots) := by
  refine MetFree.of_bodySF (plainFor_of_name pn_1) hisR ?_
  intro p e s m args below meth c s₁ Bd hml0 hP hK
  obtain ⟨rfl, hZ, hh⟩ := hP
  have hx := Bd.exec
  have hby := Bd.bytes
  have hml : c.maxLocals = 2 := hml0
  have hown : s.vm.findClass "com/example/carbonfold/carbonfold/model/RosterItem$Subscription" = some m.cls := findClass_of_methodNamed Bd.named
  have hnm := (name_of_methodNamed Bd.named Bd.method).1
  have X0 : Stand p l e ({ frames := 1, cells := 0, slots := 0, locals := 13 } : Room) s m #[(.ref a_FROM), (.int (0 : Int32))] below meth c s₁ [] 0 0 := Stand.of_body Bd
  have e0 : s₁.heap = h0 := by rw [← hh, Bd.state]; rfl
  have N0 := Fr.nil n0
  have pre0 : ∀ t, Steps p.tables e below (s₁.setTop (mkF m 0 #[.val (.ref a_FROM), .val (.int (0 : Int32))] [])) t → Steps p.tables e below (s₁.setTop (entryFrame m #[(.ref a_FROM), (.int (0 : Int32))] 2)) t := fun t k => castTop (ef_3 m a_FROM (0 : Int32)) k
  obtain ⟨S_a_NONE, X_a_NONE, S_a_FROM, X_a_FROM, S_a_BOTH, X_a_BOTH, S_a_TO, X_a_TO, F_a_NONE_ordinal, F_a_FROM_ordinal, F_a_BOTH_ordinal, F_a_TO_ordinal⟩ := id En
  obtain ⟨cq1, kq1, q1a, q1b, q1c⟩ := isOf hZ e0 (Exa.ext O0.2 X_a_FROM)
  obtain ⟨_, _, ⟨T1, L1, k1, n1⟩, -, X1, ⟨Lc1, hQ1, l1, y1, z1⟩, st1⟩ := X0.virtualBack hx (y := (⟨"com/example/carbonfold/carbonfold/model/RosterItem$Subscription", "hasTo", "()Z"⟩ : MethodName)) (z := (⟨"com/example/carbonfold/carbonfold/model/RosterItem$Subscription", "hasTo", "()Z"⟩ : MethodName)) hown (mvT hZ (hw _ (List.mem_of_getElem? (i := 21) rfl))) (mvT hZ (hw _ (List.mem_of_getElem? (i := 22) rfl))) (notFace_of_selects (args := #[]) (mvT hZ (hw _ (List.mem_of_getElem? (i := 24) rfl)))) (mvT hZ (hw _ (List.mem_of_getElem? (i := 24) rfl))) (mvT hZ (hw _ (List.mem_of_getElem? (i := 23) rfl))) (by decide) (backOf (W := 0) (rm_hasTo_20 l Z a0 hw [] a_NONE a_FROM a_BOTH a_TO h0 n0 O0 En) hZ (hw _ (List.mem_of_getElem? (i := 25) rfl)) (hw _ (List.mem_of_getElem? (i := 5) rfl)) (by decide) (by decide)) q1a q1c (g := (mkF m 1 #[.val (.ref a_FROM), .val (.int (0 : Int32))] [(.ref a_FROM)])) rfl (by rw [hml]; rfl) (Steps.refl _) (argsL := []) (rest := []) (lenOf pd_1 rfl) rfl (by show 2 * 0 + _ ≤ _; exact Nat.le_of_eq rfl) (hb hby dc2_1) (fun _ _ => ⟨rfl, e0, (by decide : 0 + 0 ≤ _), (by decide : 0 + 0 ≤ _)⟩)
  dsimp only [Pt.U, Pt.locs, Pt.cells, Pt.slots] at X1 l1 y1 z1 st1 hQ1
  subst l1 y1 z1
  obtain ⟨rfl, N1q, hh1⟩ := hQ1
  have N1 := Fr.app N0 N1q
  obtain ⟨_, _, ⟨T2, L2, k2, n2⟩, -, X2, ⟨Lc2, hQ2, l2, y2, z2⟩, st2⟩ := Jvm.LawKit.callS X1 hx (y := (⟨"com/example/carbonfold/carbonfold/model/RosterItem$Subscription", "combined", "(ZZ)Lcom/example/carbonfold/carbonfold/model/RosterItem$Subscription;"⟩ : MethodName)) hown (mvT hZ (hw _ (List.mem_of_getElem? (i := 28) rfl))) (mvT hZ (hw _ (List.mem_of_getElem? (i := 29) rfl))) (mvT hZ (hw _ (List.mem_of_getElem? (i := 5) rfl))) (mvT hZ (hw _ (List.mem_of_getElem? (i := 30) rfl))) (by decide) (backOf (W := 0) (rm_combined_4 l Z a0 hw [] a_NONE a_FROM a_BOTH a_TO h0 n0 O0 En) hZ (hw _ (List.mem_of_getElem? (i := 30) rfl)) (hw _ (List.mem_of_getElem? (i := 5) rfl)) (by decide) (by decide)) (g := (mkF m 5 #[.val (.ref a_FROM), .val (.int (0 : Int32))] [(.int (0 : Int32)), (.int (0 : Int32))])) rfl (by rw [hml]; rfl) (argsL := [(.int (0 : Int32)), (.int (0 : Int32))]) (rest := []) (lenOf pd_2 rfl) rfl (by show 2 * 0 + _ ≤ _; exact Nat.le_of_eq rfl) (hb hby dc2_5) (fun _ _ => ⟨rfl, hh1, (by decide : 0 + 0 ≤ _), (by decide : 0 + 0 ≤ _)⟩)
  dsimp only [Pt.U, Pt.locs, Pt.cells, Pt.slots] at X2 l2 y2 z2 st2 hQ2
  subst l2 y2 z2
  obtain ⟨rfl, N2q, hh2⟩ := hQ2
  have N2 := Fr.app N1 N2q
  obtain ⟨fs, hr, hrun, hended, hW, hsame⟩ := X2.leave (v := some (.ref a_NONE)) (fun h => by rw [Bd.returns] at h; cases h)
  refine ⟨_, _, pre0 _ ?_, hrun, hended, _, _, rfl, ?_, ⟨_, rfl⟩, hW, hsame.mono (by decide) (by decide)⟩
  · skip
    show Steps p.tables e below (s₁.setTop (mkF m 0 #[.val (.ref a_FROM), .val (.int (0 : Int32))] [])) _
    refine XS.aloadN X0.here hx rfl (hb hby dc2_0) rfl rfl ?_
    show Steps p.tables e below (s₁.setTop (mkF m 1 #[.val (.ref a_FROM), .val (.int (0 : Int32))] [(.ref a_FROM)])) _
    refine st1.trans ?_
    show Steps p.tables e below (T1.setTop (mkF m 4 #[.val (.ref a_FROM), .val (.int (0 : Int32))] [(.int (0 : Int32))])) _
    refine XS.iloadN X1.here hx rfl (hb hby dc2_4) rfl ?_
    show Steps p.tables e below (T1.setTop (mkF m 5 #[.val (.ref a_FROM), .val (.int (0 : Int32))] [(.int (0 : Int32)), (.int (0 : Int32))])) _
    refine st2 _ ?_
    show Steps p.tables e below (T2.setTop (mkF m 8 #[.val (.ref a_FROM), .val (.int (0 : Int32))] [(.ref a_NONE)])) _
    exact retOut X2 hx (t := (.object "com/example/carbonfold/carbonfold/model/RosterItem$Subscription")) Bd.returns rfl (Or.inr (Or.inr (Or.inr (Or.inr ⟨rfl, rfl, rfl⟩)))) (hb hby dc2_8) hr
  · show Q_rm_withFrom_19 a_NONE a_FROM a_BOTH a_TO h0 n0 _ T2.heap _
    rw [hh2]
    exact ⟨rfl, N2, rfl⟩
def Q_rm_withTo_21 (a_NONE a_FROM a_BOTH a_TO : Addr) (h0 : Heap) (n0 : Nat) (v : Option Value) (h : Heap) (L : List Loc) : Prop := v = some (.ref a_FROM) ∧ Fr n0 L ∧ h = h0
set_option maxRecDepth 65536 in
set_option maxHeartbeats 40000000 in
theorem rm_withTo_21 (l : Launch) (Z : State) (a0 : Array Value) (hw : ∀ d ∈ tables_1, d.before a0 Z = true) (ws : List Jvm.Cond) (a_NONE a_FROM a_BOTH a_TO : Addr) (h0 : Heap) (n0 : Nat) (O0 : Old Z n0 h0) (En : OwnEnv Z a_NONE a_FROM a_BOTH a_TO) :
    MetFree l (⟨"com/example/carbonfold/carbonfold/model/RosterItem$Subscription", "withTo", "(Z)Lcom/example/carbonfold/carbonfold/model/RosterItem$Subscription;"⟩ : MethodName) (head1 (Jvm.Cond.code (⟨"com/example/carbonfold/carbonfold/model/RosterItem$Subscription", "withTo", "(Z)Lcom/example/carbonfold/carbonfold/model/RosterItem$Subscription;"⟩ : MethodName) prog_67_method_7_code 2 (some (.object "com/example/carbonfold/carbonfold/model/RosterItem$Subscription")) :: ws) ({ frames := 1, cells := 0, slots := 0, locals := 13 } : Room)) (fun a U => a = #[(.ref a_FROM), (.int (0 : Int32))] ∧ Z.Warmed39 U.vm ∧ U.heap = h0) (fun _ _ _ _ _ => True) (fun _ U o U' => ∃ v L, o = .returned v ∧ Q_rm_withTo_21 a_NONE a_FROM a_BOTH a_TO h0 n0 v U'.heap L ∧ FrameEnd U o U' L ({ frames := 1, cells := 0, slots := 0, locals := 13 } : Room).cells ({ frames := 1, cells := 0, slots := 0, locals := 13 } : Room).slots) := by
  refine MetFree.of_bodySF (plainFor_of_name pn_1) hisR ?_
  intro p e s m args below meth c s₁ Bd hml0 hP hK
  obtain ⟨rfl, hZ, hh⟩ := hP
  have hx := Bd.exec
  have hby := Bd.bytes
  have hml : c.maxLocals = 2 := hml0
  have hown : s.vm.findClass "com/example/carbonfold/carbonfold/model/RosterItem$Subscription" = some m.cls := findClass_of_methodNamed Bd.named
  have hnm := (name_of_methodNamed Bd.named Bd.method).1
  have X0 : Stand p l e ({ frames := 1, cells := 0, slots := 0, locals := 13 } : Room) s m #[(.ref a_FROM), (.int (0 : Int32))] below meth c s₁ [] 0 0 := Stand.of_body Bd
  have e0 : s₁.heap = h0 := by rw [← hh, Bd.state]; rfl
  have N0 := Fr.nil n0
  have pre0 : ∀ t, Steps p.tables e below (s₁.setTop (mkF m 0 #[.val (.ref a_FROM), .val (.int (0 : Int32))] [])) t → Steps p.tables e below (s₁.setTop (entryFrame m #[(.ref a_FROM), (.int (0 : Int32))] 2)) t := fun t k => castTop (ef_3 m a_FROM (0 : Int32)) k
  obtain ⟨S_a_NONE, X_a_NONE, S_a_FROM, X_a_FROM, S_a_BOTH, X_a_BOTH, S_a_TO, X_a_TO, F_a_NONE_ordinal, F_a_FROM_ordinal, F_a_BOTH_ordinal, F_a_TO_ordinal⟩ := id En
  obtain ⟨cq1, kq1, q1a, q1b, q1c⟩ := isOf hZ e0 (Exa.ext O0.2 X_a_FROM)
  obtain ⟨_, _, ⟨T1, L1, k1, n1⟩, -, X1, ⟨Lc1, hQ1, l1, y1, z1⟩, st1⟩ := X0.virtualBack hx (y := (⟨"com/example/carbonfold/carbonfold/model/RosterItem$Subscription", "hasFrom", "()Z"⟩ : MethodName)) (z := (⟨"com/example/carbonfold/carbonfold/model/RosterItem$Subscription", "hasFrom", "()Z"⟩ : MethodName)) hown (mvT hZ (hw _ (List.mem_of_getElem? (i := 36) rfl))) (mvT hZ (hw _ (List.mem_of_getElem? (i := 8) rfl))) (notFace_of_selects (args := #[]) (mvT hZ (hw _ (List.mem_of_getElem? (i := 10) rfl)))) (mvT hZ (hw _ (List.mem_of_getElem? (i := 10) rfl))) (mvT hZ (hw _ (List.mem_of_getElem? (i := 9) rfl))) (by decide) (backOf (W := 1) (rm_hasFrom_11 l Z a0 hw [] a_NONE a_FROM a_BOTH a_TO h0 n0 O0 En) hZ (hw _ (List.mem_of_getElem? (i := 11) rfl)) (hw _ (List.mem_of_getElem? (i := 5) rfl)) (by decide) (by decide)) q1a q1c (g := (mkF m 2 #[.val (.ref a_FROM), .val (.int (0 : Int32))] [(.ref a_FROM), (.int (0 : Int32))])) rfl (by rw [hml]; rfl) (Steps.refl _) (argsL := []) (rest := [(.int (0 : Int32))]) (lenOf pd_1 rfl) rfl (by show 2 * 0 + _ ≤ _; exact Nat.le_of_eq rfl) (hb hby dc5_2) (fun _ _ => ⟨rfl, e0, (by decide : 0 + 0 ≤ _), (by decide : 0 + 0 ≤ _)⟩)
  dsimp only [Pt.U, Pt.locs, Pt.cells, Pt.slots] at X1 l1 y1 z1 st1 hQ1
  subst l1 y1 z1
  obtain ⟨rfl, N1q, hh1⟩ := hQ1
  have N1 := Fr.app N0 N1q
  obtain ⟨_, _, ⟨T2, L2, k2, n2⟩, -, X2, ⟨Lc2, hQ2, l2, y2, z2⟩, st2⟩ := Jvm.LawKit.callS X1 hx (y := (⟨"com/example/carbonfold/carbonfold/model/RosterItem$Subscription", "combined", "(ZZ)Lcom/example/carbonfold/carbonfold/model/RosterItem$Subscription;"⟩ : MethodName)) hown (mvT hZ (hw _ (List.mem_of_getElem? (i := 28) rfl))) (mvT hZ (hw _ (List.mem_of_getElem? (i := 29) rfl))) (mvT hZ (hw _ (List.mem_of_getElem? (i := 5) rfl))) (mvT hZ (hw _ (List.mem_of_getElem? (i := 30) rfl))) (by decide) (backOf (W := 0) (rm_combined_10 l Z a0 hw [] a_NONE a_FROM a_BOTH a_TO h0 n0 O0 En) hZ (hw _ (List.mem_of_getElem? (i := 30) rfl)) (hw _ (List.mem_of_getElem? (i := 5) rfl)) (by decide) (by decide)) (g := (mkF m 5 #[.val (.ref a_FROM), .val (.int (0 : Int32))] [(.int (1 : Int32)), (.int (0 : Int32))])) rfl (by rw [hml]; rfl) (argsL := [(.int (0 : Int32)), (.int (1 : Int32))]) (rest := []) (lenOf pd_2 rfl) rfl (by show 2 * 0 + _ ≤ _; exact Nat.le_of_eq rfl) (hb hby dc5_5) (fun _ _ => ⟨rfl, hh1, (by decide : 0 + 0 ≤ _), (by decide : 0 + 0 ≤ _)⟩)
  dsimp only [Pt.U, Pt.locs, Pt.cells, Pt.slots] at X2 l2 y2 z2 st2 hQ2
  subst l2 y2 z2
  obtain ⟨rfl, N2q, hh2⟩ := hQ2
  have N2 := Fr.app N1 N2q
  obtain ⟨fs, hr, hrun, hended, hW, hsame⟩ := X2.leave (v := some (.ref a_FROM)) (fun h => by rw [Bd.returns] at h; cases h)
  refine ⟨_, _, pre0 _ ?_, hrun, hended, _, _, rfl, ?_, ⟨_, rfl⟩, hW, hsame.mono (by decide) (by decide)⟩
  · skip
    show Steps p.tables e below (s₁.setTop (mkF m 0 #[.val (.ref a_FROM), .val (.int (0 : Int32))] [])) _
    refine XS.iloadN X0.here hx rfl (hb hby dc5_0) rfl ?_
    show Steps p.tables e below (s₁.setTop (mkF m 1 #[.val (.ref a_FROM), .val (.int (0 : Int32))] [(.int (0 : Int32))])) _
    refine XS.aloadN X0.here hx rfl (hb hby dc5_1) rfl rfl ?_
    show Steps p.tables e below (s₁.setTop (mkF m 2 #[.val (.ref a_FROM), .val (.int (0 : Int32))] [(.ref a_FROM), (.int (0 : Int32))])) _
    refine st1.trans ?_
    show Steps p.tables e below (T1.setTop (mkF m 5 #[.val (.ref a_FROM), .val (.int (0 : Int32))] [(.int (1 : Int32)), (.int (0 : Int32))])) _
    refine st2 _ ?_
    show Steps p.tables e below (T2.setTop (mkF m 8 #[.val (.ref a_FROM), .val (.int (0 : Int32))] [(.ref a_FROM)])) _
    exact retOut X2 hx (t := (.object "com/example/carbonfold/carbonfold/model/RosterItem$Subscription")) Bd.returns rfl (Or.inr (Or.inr (Or.inr (Or.inr ⟨rfl, rfl, rfl⟩)))) (hb hby dc5_8) hr
  · show Q_rm_withTo_21 a_NONE a_FROM a_BOTH a_TO h0 n0 _ T2.heap _
    rw [hh2]
    exact ⟨rfl, N2, rfl⟩
def Q_rm_withTo_22 (a_NONE a_FROM a_BOTH a_TO : Addr) (h0 : Heap) (n0 : Nat) (v : Option Value) (h : Heap) (L : List Loc) : Prop := v = some (.ref a_BOTH) ∧ Fr n0 L ∧ h = h0
set_option maxRecDepth 65536 in
set_option maxHeartbeats 40000000 in
theorem rm_withTo_22 (l : Launch) (Z : State) (a0 : Array Value) (hw : ∀ d ∈ tables_1, d.before a0 Z = true) (ws : List Jvm.Cond) (a_NONE a_FROM a_BOTH a_TO : Addr) (h0 : Heap) (n0 : Nat) (O0 : Old Z n0 h0) (En : OwnEnv Z a_NONE a_FROM a_BOTH a_TO) :
    MetFree l (⟨"com/example/carbonfold/carbonfold/model/RosterItem$Subscription", "withTo", "(Z)Lcom/example/carbonfold/carbonfold/model/RosterItem$Subscription;"⟩ : MethodName) (head1 (Jvm.Cond.code (⟨"com/example/carbonfold/carbonfold/model/RosterItem$Subscription", "withTo", "(Z)Lcom/example/carbonfold/carbonfold/model/RosterItem$Subscription;"⟩ : MethodName) prog_67_method_7_code 2 (some (.object "com/example/carbonfold/carbonfold/model/RosterItem$Subscription")) :: ws) ({ frames := 1, cells := 0, slots := 0, locals := 13 } : Room)) (fun a U => a = #[(.ref a_FROM), (.int (1 : Int32))] ∧ Z.Warmed39 U.vm ∧ U.heap = h0) (fun _ _ _ _ _ => True) (fun _ U o U' => ∃ v L, o = .returned v ∧ Q_rm_withTo_22 a_NONE a_FROM a_BOTH a_TO h0 n0 v U'.heap L ∧ FrameEnd U o U' L ({ frames := 1, cells := 0, slots := 0, locals := 13 } : Room).cells ({ frames := 1, cells := 0, slots := 0, locals := 13 } : Room).slots) := by
  refine MetFree.of_bodySF (plainFor_of_name pn_1) hisR ?_
  intro p e s m args below meth c s₁ Bd hml0 hP hK
  obtain ⟨rfl, hZ, hh⟩ := hP
  have hx := Bd.exec
  have hby := Bd.bytes
  have hml : c.maxLocals = 2 := hml0
  have hown : s.vm.findClass "com/example/carbonfold/carbonfold/model/RosterItem$Subscription" = some m.cls := findClass_of_methodNamed Bd.named
  have hnm := (name_of_methodNamed Bd.named Bd.method).1
  have X0 : Stand p l e ({ frames := 1, cells := 0, slots := 0, locals := 13 } : Room) s m #[(.ref a_FROM), (.int (1 : Int32))] below meth c s₁ [] 0 0 := Stand.of_body Bd
  have e0 : s₁.heap = h0 := by rw [← hh, Bd.state]; rfl
  have N0 := Fr.nil n0
  have pre0 : ∀ t, Steps p.tables e below (s₁.setTop (mkF m 0 #[.val (.ref a_FROM), .val (.int (1 : Int32))] [])) t → Steps p.tables e below (s₁.setTop (entryFrame m #[(.ref a_FROM), (.int (1 : Int32))] 2)) t := fun t k => castTop (ef_3 m a_FROM (1 : Int32)) k
  obtain ⟨S_a_NONE, X_a_NONE, S_a_FROM, X_a_FROM, S_a_BOTH, X_a_BOTH, S_a_TO, X_a_TO, F_a_NONE_ordinal, F_a_FROM_ordinal, F_a_BOTH_ordinal, F_a_TO_ordinal⟩ := id En
  obtain ⟨cq1, kq1, q1a, q1b, q1c⟩ := isOf hZ e0 (Exa.ext O0.2 X_a_FROM)
  obtain ⟨_, _, ⟨T1, L1, k1, n1⟩, -, X1, ⟨Lc1, hQ1, l1, y1, z1⟩, st1⟩ := X0.virtualBack hx (y := (⟨"com/example/carbonfold/carbonfold/model/RosterItem$Subscription", "hasFrom", "()Z"⟩ : MethodName)) (z := (⟨"com/example/carbonfold/carbonfold/model/RosterItem$Subscription", "hasFrom", "()Z"⟩ : MethodName)) hown (mvT hZ (hw _ (List.mem_of_getElem? (i := 36) rfl))) (mvT hZ (hw _ (List.mem_of_getElem? (i := 8) rfl))) (notFace_of_selects (args := #[]) (mvT hZ (hw _ (List.mem_of_getElem? (i := 10) rfl)))) (mvT hZ (hw _ (List.mem_of_getElem? (i := 10) rfl))) (mvT hZ (hw _ (List.mem_of_getElem? (i := 9) rfl))) (by decide) (backOf (W := 1) (rm_hasFrom_11 l Z a0 hw [] a_NONE a_FROM a_BOTH a_TO h0 n0 O0 En) hZ (hw _ (List.mem_of_getElem? (i := 11) rfl)) (hw _ (List.mem_of_getElem? (i := 5) rfl)) (by decide) (by decide)) q1a q1c (g := (mkF m 2 #[.val (.ref a_FROM), .val (.int (1 : Int32))] [(.ref a_FROM), (.int (1 : Int32))])) rfl (by rw [hml]; rfl) (Steps.refl _) (argsL := []) (rest := [(.int (1 : Int32))]) (lenOf pd_1 rfl) rfl (by show 2 * 0 + _ ≤ _; exact Nat.le_of_eq rfl) (hb hby dc5_2) (fun _ _ => ⟨rfl, e0, (by decide : 0 + 0 ≤ _), (by decide : 0 + 0 ≤ _)⟩)
  dsimp only [Pt.U, Pt.locs, Pt.cells, Pt.slots] at X1 l1 y1 z1 st1 hQ1
  subst l1 y1 z1
  obtain ⟨rfl, N1q, hh1⟩ := hQ1
  have N1 := Fr.app N0 N1q
  obtain ⟨_, _, ⟨T2, L2, k2, n2⟩, -, X2, ⟨Lc2, hQ2, l2, y2, z2⟩, st2⟩ := Jvm.LawKit.callS X1 hx (y := (⟨"com/example/carbonfold/carbonfold/model/RosterItem$Subscription", "combined", "(ZZ)Lcom/example/carbonfold/carbonfold/model/RosterItem$Subscription;"⟩ : MethodName)) hown (mvT hZ (hw _ (List.mem_of_getElem? (i := 28) rfl))) (mvT hZ (hw _ (List.mem_of_getElem? (i := 29) rfl))) (mvT hZ (hw _ (List.mem_of_getElem? (i := 5) rfl))) (mvT hZ (hw _ (List.mem_of_getElem? (i := 30) rfl))) (by decide) (backOf (W := 0) (rm_combined_17 l Z a0 hw [] a_NONE a_FROM a_BOTH a_TO h0 n0 O0 En) hZ (hw _ (List.mem_of_getElem? (i := 30) rfl)) (hw _ (List.mem_of_getElem? (i := 5) rfl)) (by decide) (by decide)) (g := (mkF m 5 #[.val (.ref a_FROM), .val (.int (1 : Int32))] [(.int (1 : Int32)), (.int (1 : Int32))])) rfl (by rw [hml]; rfl) (argsL := [(.int (1 : Int32)), (.int (1 : Int32))]) (rest := []) (lenOf pd_2 rfl) rfl (by show 2 * 0 + _ ≤ _; exact Nat.le_of_eq rfl) (hb hby dc5_5) (fun _ _ => ⟨rfl, hh1, (by decide : 0 + 0 ≤ _), (by decide : 0 + 0 ≤ _)⟩)
  dsimp only [Pt.U, Pt.locs, Pt.cells, Pt.slots] at X2 l2 y2 z2 st2 hQ2
  subst l2 y2 z2
  obtain ⟨rfl, N2q, hh2⟩ := hQ2
  have N2 := Fr.app N1 N2q
  obtain ⟨fs, hr, hrun, hended, hW, hsame⟩ := X2.leave (v := some (.ref a_BOTH)) (fun h => by rw [Bd.returns] at h; cases h)
  refine ⟨_, _, pre0 _ ?_, hrun, hended, _, _, rfl, ?_, ⟨_, rfl⟩, hW, hsame.mono (by decide) (by decide)⟩
  · skip
    show Steps p.tables e below (s₁.setTop (mkF m 0 #[.val (.ref a_FROM), .val (.int (1 : Int32))] [])) _
    refine XS.iloadN X0.here hx rfl (hb hby dc5_0) rfl ?_
    show Steps p.tables e below (s₁.setTop (mkF m 1 #[.val (.ref a_FROM), .val (.int (1 : Int32))] [(.int (1 : Int32))])) _
    refine XS.aloadN X0.here hx rfl (hb hby dc5_1) rfl rfl ?_
    show Steps p.tables e below (s₁.setTop (mkF m 2 #[.val (.ref a_FROM), .val (.int (1 : Int32))] [(.ref a_FROM), (.int (1 : Int32))])) _
    refine st1.trans ?_
    show Steps p.tables e below (T1.setTop (mkF m 5 #[.val (.ref a_FROM), .val (.int (1 : Int32))] [(.int (1 : Int32)), (.int (1 : Int32))])) _
    refine st2 _ ?_
    show Steps p.tables e below (T2.setTop (mkF m 8 #[.val (.ref a_FROM), .val (.int (1 : Int32))] [(.ref a_BOTH)])) _
    exact retOut X2 hx (t := (.object "com/example/carbonfold/carbonfold/model/RosterItem$Subscription")) Bd.returns rfl (Or.inr (Or.inr (Or.inr (Or.inr ⟨rfl, rfl, rfl⟩)))) (hb hby dc5_8) hr
  · show Q_rm_withTo_22 a_NONE a_FROM a_BOTH a_TO h0 n0 _ T2.heap _
    rw [hh2]
    exact ⟨rfl, N2, rfl⟩
def Q_rm_withFrom_23 (a_NONE a_FROM a_BOTH a_TO : Addr) (h0 : Heap) (n0 : Nat) (v : Option Value) (h : Heap) (L : List Loc) : Prop := v = some (.ref a_FROM) ∧ Fr n0 L ∧ h = h0
set_option maxRecDepth 65536 in
set_option maxHeartbeats 40000000 in
theorem rm_withFrom_23 (l : Launch) (Z : State) (a0 : Array Value) (hw : ∀ d ∈ tables_1, d.before a0 Z = true) (ws : List Jvm.Cond) (a_NONE a_FROM a_BOTH a_TO : Addr) (h0 : Heap) (n0 : Nat) (O0 : Old Z n0 h0) (En : OwnEnv Z a_NONE a_FROM a_BOTH a_TO) :
    MetFree l (⟨"com/example/carbonfold/carbonfold/model/RosterItem$Subscription", "withFrom", "(Z)Lcom/example/carbonfold/carbonfold/model/RosterItem$Subscription;"⟩ : MethodName) (head1 (Jvm.Cond.code (⟨"com/example/carbonfold/carbonfold/model/RosterItem$Subscription", "withFrom", "(Z)Lcom/example/carbonfold/carbonfold/model/RosterItem$Subscription;"⟩ : MethodName) prog_67_method_8_code 2 (some (.object "com/example/carbonfold/carbonfold/model/RosterItem$Subscription")) :: ws) ({ frames := 1, cells := 0, slots := 0, locals := 13 } : Room)) (fun a U => a = #[(.ref a_FROM), (.int (1 : Int32))] ∧ Z.Warmed39 U.vm ∧ U.heap = h0) (fun _ _ _ _ _ => True) (fun _ U o U' => ∃ v L, o = .returned v ∧ Q_rm_withFrom_23 a_NONE a_FROM a_BOTH a_TO h0 n0 v U'.heap L ∧ FrameEnd U o U' L ({ frames := 1, cells := 0, slots := 0, locals := 13 } : Room).cells ({ frames := 1, cells := 0, slots := 0, locals := 13 } : Room).slots) := by
  refine MetFree.of_bodySF (plainFor_of_name pn_1) hisR ?_
  intro p e s m args below meth c s₁ Bd hml0 hP hK
  obtain ⟨rfl, hZ, hh⟩ := hP
  have hx := Bd.exec
  have hby := Bd.bytes
  have hml : c.maxLocals = 2 := hml0
  have hown : s.vm.findClass "com/example/carbonfold/carbonfold/model/RosterItem$Subscription" = some m.cls := findClass_of_methodNamed Bd.named
  have hnm := (name_of_methodNamed Bd.named Bd.method).1
  have X0 : Stand p l e ({ frames := 1, cells := 0, slots := 0, locals := 13 } : Room) s m #[(.ref a_FROM), (.int (1 : Int32))] below meth c s₁ [] 0 0 := Stand.of_body Bd
  have e0 : s₁.heap = h0 := by rw [← hh, Bd.state]; rfl
  have N0 := Fr.nil n0
  have pre0 : ∀ t, Steps p.tables e below (s₁.setTop (mkF m 0 #[.val (.ref a_FROM), .val (.int (1 : Int32))] [])) t → Steps p.tables e below (s₁.setTop (entryFrame m #[(.ref a_FROM), (.int (1 : Int32))] 2)) t := fun t k => castTop (ef_3 m a_FROM (1 : Int32)) k
  obtain ⟨S_a_NONE, X_a_NONE, S_a_FROM, X_a_FROM, S_a_BOTH, X_a_BOTH, S_a_TO, X_a_TO, F_a_NONE_ordinal, F_a_FROM_ordinal, F_a_BOTH_ordinal, F_a_TO_ordinal⟩ := id En
  obtain ⟨cq1, kq1, q1a, q1b, q1c⟩ := isOf hZ e0 (Exa.ext O0.2 X_a_FROM)
  obtain ⟨_, _, ⟨T1, L1, k1, n1⟩, -, X1, ⟨Lc1, hQ1, l1, y1, z1⟩, st1⟩ := X0.virtualBack hx (y := (⟨"com/example/carbonfold/carbonfold/model/RosterItem$Subscription", "hasTo", "()Z"⟩ : MethodName)) (z := (⟨"com/example/carbonfold/carbonfold/model/RosterItem$Subscription", "hasTo", "()Z"⟩ : MethodName)) hown (mvT hZ (hw _ (List.mem_of_getElem? (i := 21) rfl))) (mvT hZ (hw _ (List.mem_of_getElem? (i := 22) rfl))) (notFace_of_selects (args := #[]) (mvT hZ (hw _ (List.mem_of_getElem? (i := 24) rfl)))) (mvT hZ (hw _ (List.mem_of_getElem? (i := 24) rfl))) (mvT hZ (hw _ (List.mem_of_getElem? (i := 23) rfl))) (by decide) (backOf (W := 0) (rm_hasTo_20 l Z a0 hw [] a_NONE a_FROM a_BOTH a_TO h0 n0 O0 En) hZ (hw _ (List.mem_of_getElem? (i := 25) rfl)) (hw _ (List.mem_of_getElem? (i := 5) rfl)) (by decide) (by decide)) q1a q1c (g := (mkF m 1 #[.val (.ref a_FROM), .val (.int (1 : Int32))] [(.ref a_FROM)])) rfl (by rw [hml]; rfl) (Steps.refl _) (argsL := []) (rest := []) (lenOf pd_1 rfl) rfl (by show 2 * 0 + _ ≤ _; exact Nat.le_of_eq rfl) (hb hby dc2_1) (fun _ _ => ⟨rfl, e0, (by decide : 0 + 0 ≤ _), (by decide : 0 + 0 ≤ _)⟩)
  dsimp only [Pt.U, Pt.locs, Pt.cells, Pt.slots] at X1 l1 y1 z1 st1 hQ1
  subst l1 y1 z1
  obtain ⟨rfl, N1q, hh1⟩ := hQ1
  have N1 := Fr.app N0 N1q
  obtain ⟨_, _, ⟨T2, L2, k2, n2⟩, -, X2, ⟨Lc2, hQ2, l2, y2, z2⟩, st2⟩ := Jvm.LawKit.callS X1 hx (y := (⟨"com/example/carbonfold/carbonfold/model/RosterItem$Subscription", "combined", "(ZZ)Lcom/example/carbonfold/carbonfold/model/RosterItem$Subscription;"⟩ : MethodName)) hown (mvT hZ (hw _ (List.mem_of_getElem? (i := 28) rfl))) (mvT hZ (hw _ (List.mem_of_getElem? (i := 29) rfl))) (mvT hZ (hw _ (List.mem_of_getElem? (i := 5) rfl))) (mvT hZ (hw _ (List.mem_of_getElem? (i := 30) rfl))) (by decide) (backOf (W := 0) (rm_combined_10 l Z a0 hw [] a_NONE a_FROM a_BOTH a_TO h0 n0 O0 En) hZ (hw _ (List.mem_of_getElem? (i := 30) rfl)) (hw _ (List.mem_of_getElem? (i := 5) rfl)) (by decide) (by decide)) (g := (mkF m 5 #[.val (.ref a_FROM), .val (.int (1 : Int32))] [(.int (1 : Int32)), (.int (0 : Int32))])) rfl (by rw [hml]; rfl) (argsL := [(.int (0 : Int32)), (.int (1 : Int32))]) (rest := []) (lenOf pd_2 rfl) rfl (by show 2 * 0 + _ ≤ _; exact Nat.le_of_eq rfl) (hb hby dc2_5) (fun _ _ => ⟨rfl, hh1, (by decide : 0 + 0 ≤ _), (by decide : 0 + 0 ≤ _)⟩)
  dsimp only [Pt.U, Pt.locs, Pt.cells, Pt.slots] at X2 l2 y2 z2 st2 hQ2
  subst l2 y2 z2
  obtain ⟨rfl, N2q, hh2⟩ := hQ2
  have N2 := Fr.app N1 N2q
  obtain ⟨fs, hr, hrun, hended, hW, hsame⟩ := X2.leave (v := some (.ref a_FROM)) (fun h => by rw [Bd.returns] at h; cases h)
  refine ⟨_, _, pre0 _ ?_, hrun, hended, _, _, rfl, ?_, ⟨_, rfl⟩, hW, hsame.mono (by decide) (by decide)⟩
  · skip
    show Steps p.tables e below (s₁.setTop (mkF m 0 #[.val (.ref a_FROM), .val (.int (1 : Int32))] [])) _
    refine XS.aloadN X0.here hx rfl (hb hby dc2_0) rfl rfl ?_
    show Steps p.tables e below (s₁.setTop (mkF m 1 #[.val (.ref a_FROM), .val (.int (1 : Int32))] [(.ref a_FROM)])) _
    refine st1.trans ?_
    show Steps p.tables e below (T1.setTop (mkF m 4 #[.val (.ref a_FROM), .val (.int (1 : Int32))] [(.int (0 : Int32))])) _
    refine XS.iloadN X1.here hx rfl (hb hby dc2_4) rfl ?_
    show Steps p.tables e below (T1.setTop (mkF m 5 #[.val (.ref a_FROM), .val (.int (1 : Int32))] [(.int (1 : Int32)), (.int (0 : Int32))])) _
    refine st2 _ ?_
    show Steps p.tables e below (T2.setTop (mkF m 8 #[.val (.ref a_FROM), .val (.int (1 : Int32))] [(.ref a_FROM)])) _
    exact retOut X2 hx (t := (.object "com/example/carbonfold/carbonfold/model/RosterItem$Subscription")) Bd.returns rfl (Or.inr (Or.inr (Or.inr (Or.inr ⟨rfl, rfl, rfl⟩)))) (hb hby dc2_8) hr
  · show Q_rm_withFrom_23 a_NONE a_FROM a_BOTH a_TO h0 n0 _ T2.heap _
    rw [hh2]
    exact ⟨rfl, N2, rfl⟩
def Q_rm_pick3 (a_NONE a_FROM a_BOTH a_TO : Addr) (h0 : Heap) (n0 : Nat) (v : Option Value) (h : Heap) (L : List Loc) : Prop := v = some (.ref a_BOTH) ∧ Fr n0 L ∧ h = h0
theorem dc0_30 : decode method_2_code 30 = .ok (.getstatic 19, 3) := by decide +kernel
theorem dc0_33 : decode method_2_code 33 = .ok (.areturn, 1) := by decide +kernel
set_option maxRecDepth 65536 in
set_option maxHeartbeats 40000000 in
theorem rm_pick3 (l : Launch) (Z : State) (a0 : Array Value) (hw : ∀ d ∈ tables_1, d.before a0 Z = true) (ws : List Jvm.Cond) (i0 : Int32) (a_NONE a_FROM a_BOTH a_TO : Addr) (h0 : Heap) (n0 : Nat) (O0 : Old Z n0 h0) (En : OwnEnv Z a_NONE a_FROM a_BOTH a_TO) (hk : (i0 &&& (3 : Int32)) = (3 : Int32)) :
    MetFree l (⟨"com/example/carbonfold/carbonfold/model/SubscriptionHasFromPinLaw", "pick", "(I)Lcom/example/carbonfold/carbonfold/model/RosterItem$Subscription;"⟩ : MethodName) (head1 (Jvm.Cond.code (⟨"com/example/carbonfold/carbonfold/model/SubscriptionHasFromPinLaw", "pick", "(I)Lcom/example/carbonfold/carbonfold/model/RosterItem$Subscription;"⟩ : MethodName) method_2_code 2 (some (.object "com/example/carbonfold/carbonfold/model/RosterItem$Subscription")) :: ws) ({ frames := 0, cells := 0, slots := 0, locals := 0 } : Room)) (fun a U => a = #[(.int i0)] ∧ Z.Warmed39 U.vm ∧ U.heap = h0) (fun _ _ _ _ _ => True) (fun _ U o U' => ∃ v L, o = .returned v ∧ Q_rm_pick3 a_NONE a_FROM a_BOTH a_TO h0 n0 v U'.heap L ∧ FrameEnd U o U' L ({ frames := 0, cells := 0, slots := 0, locals := 0 } : Room).cells ({ frames := 0, cells := 0, slots := 0, locals := 0 } : Room).slots) := by
  refine MetFree.of_bodySF (plainFor_of_name pn_0) hisR ?_
  intro p e s m args below meth c s₁ Bd hml0 hP hK
  obtain ⟨rfl, hZ, hh⟩ := hP
  have hx := Bd.exec
  have hby := Bd.bytes
  have hml : c.maxLocals = 2 := hml0
  have hown : s.vm.findClass "com/example/carbonfold/carbonfold/model/SubscriptionHasFromPinLaw" = some m.cls := findClass_of_methodNamed Bd.named
  have hnm := (name_of_methodNamed Bd.named Bd.method).1
  have X0 : Stand p l e ({ frames := 0, cells := 0, slots := 0, locals := 0 } : Room) s m #[(.int i0)] below meth c s₁ [] 0 0 := Stand.of_body Bd
  have e0 : s₁.heap = h0 := by rw [← hh, Bd.state]; rfl
  have N0 := Fr.nil n0
  have pre0 : ∀ t, Steps p.tables e below (s₁.setTop (mkF m 0 #[.val (.int i0), .unset] [])) t → Steps p.tables e below (s₁.setTop (entryFrame m #[(.int i0)] 2)) t := fun t k => castTop (ef_1 m i0) k
  obtain ⟨S_a_NONE, X_a_NONE, S_a_FROM, X_a_FROM, S_a_BOTH, X_a_BOTH, S_a_TO, X_a_TO, F_a_NONE_ordinal, F_a_FROM_ordinal, F_a_BOTH_ordinal, F_a_TO_ordinal⟩ := id En
  obtain ⟨T1, X1, e1, st1⟩ := getS2 X0 hx hZ hown (host := "") (Or.inl (hw _ (List.mem_of_getElem? (i := 39) rfl))) Via.refl e0 (Sta.ext O0.2 S_a_BOTH) (g := (mkF m 30 #[.val (.int i0), .val (.int (3 : Int32))] [])) rfl (hb hby dc0_30)
  obtain ⟨fs, hr, hrun, hended, hW, hsame⟩ := X1.leave (v := some (.ref a_BOTH)) (fun h => by rw [Bd.returns] at h; cases h)
  refine ⟨_, _, pre0 _ ?_, hrun, hended, _, _, rfl, ?_, ⟨_, rfl⟩, hW, hsame.mono (by decide) (by decide)⟩
  · skip
    show Steps p.tables e below (s₁.setTop (mkF m 0 #[.val (.int i0), .unset] [])) _
    refine XS.iloadN X0.here hx rfl (hb hby dc0_0) rfl ?_
    show Steps p.tables e below (s₁.setTop (mkF m 1 #[.val (.int i0), .unset] [(.int i0)])) _
    refine XS.iconst X0.here hx rfl (hb hby dc0_1) ?_
    show Steps p.tables e below (s₁.setTop (mkF m 2 #[.val (.int i0), .unset] [(.int (3 : Int32)), (.int i0)])) _
    refine XS.iand X0.here hx rfl (hb hby dc0_2) rfl ?_
    show Steps p.tables e below (s₁.setTop (mkF m 3 #[.val (.int i0), .unset] [(.int (i0 &&& (3 : Int32)))])) _
    rw [hk]
    show Steps p.tables e below (s₁.setTop (mkF m 3 #[.val (.int i0), .unset] [(.int (3 : Int32))])) _
    refine XS.istoreN X0.here hx rfl (hb hby dc0_3) rfl (l' := #[.val (.int i0), .val (.int (3 : Int32))]) rfl ?_
    show Steps p.tables e below (s₁.setTop (mkF m 4 #[.val (.int i0), .val (.int (3 : Int32))] [])) _
    refine XS.iloadN X0.here hx rfl (hb hby dc0_4) rfl ?_
    show Steps p.tables e below (s₁.setTop (mkF m 5 #[.val (.int i0), .val (.int (3 : Int32))] [(.int (3 : Int32))])) _
    refine XS.ifYes X0.here hx rfl (pc0 := 5) (pc' := 12) rfl (hb hby dc0_5) rfl (by decide) (by decide) (by decide) ?_
    show Steps p.tables e below (s₁.setTop (mkF m 12 #[.val (.int i0), .val (.int (3 : Int32))] [])) _
    refine XS.iloadN X0.here hx rfl (hb hby dc0_12) rfl ?_
    show Steps p.tables e below (s₁.setTop (mkF m 13 #[.val (.int i0), .val (.int (3 : Int32))] [(.int (3 : Int32))])) _
    refine XS.iconst X0.here hx rfl (hb hby dc0_13) ?_
    show Steps p.tables e below (s₁.setTop (mkF m 14 #[.val (.int i0), .val (.int (3 : Int32))] [(.int (1 : Int32)), (.int (3 : Int32))])) _
    refine XS.icmpYes X0.here hx rfl (pc0 := 14) (pc' := 21) rfl (hb hby dc0_14) rfl (by decide) (by decide) (by decide) ?_
    show Steps p.tables e below (s₁.setTop (mkF m 21 #[.val (.int i0), .val (.int (3 : Int32))] [])) _
    refine XS.iloadN X0.here hx rfl (hb hby dc0_21) rfl ?_
    show Steps p.tables e below (s₁.setTop (mkF m 22 #[.val (.int i0), .val (.int (3 : Int32))] [(.int (3 : Int32))])) _
    refine XS.iconst X0.here hx rfl (hb hby dc0_22) ?_
    show Steps p.tables e below (s₁.setTop (mkF m 23 #[.val (.int i0), .val (.int (3 : Int32))] [(.int (2 : Int32)), (.int (3 : Int32))])) _
    refine XS.icmpYes X0.here hx rfl (pc0 := 23) (pc' := 30) rfl (hb hby dc0_23) rfl (by decide) (by decide) (by decide) ?_
    show Steps p.tables e below (s₁.setTop (mkF m 30 #[.val (.int i0), .val (.int (3 : Int32))] [])) _
    refine st1 _ ?_
    show Steps p.tables e below (T1.setTop (mkF m 33 #[.val (.int i0), .val (.int (3 : Int32))] [(.ref a_BOTH)])) _
    exact retOut X1 hx (t := (.object "com/example/carbonfold/carbonfold/model/RosterItem$Subscription")) Bd.returns rfl (Or.inr (Or.inr (Or.inr (Or.inr ⟨rfl, rfl, rfl⟩)))) (hb hby dc0_33) hr
  · show Q_rm_pick3 a_NONE a_FROM a_BOTH a_TO h0 n0 _ T1.heap _
    rw [e1]
    exact ⟨rfl, N0, rfl⟩
def Q_rm_hasTo_25 (a_NONE a_FROM a_BOTH a_TO : Addr) (h0 : Heap) (n0 : Nat) (v : Option Value) (h : Heap) (L : List Loc) : Prop := v = some (.int (1 : Int32)) ∧ Fr n0 L ∧ h = h0
set_option maxRecDepth 65536 in
set_option maxHeartbeats 40000000 in
theorem rm_hasTo_25 (l : Launch) (Z : State) (a0 : Array Value) (hw : ∀ d ∈ tables_1, d.before a0 Z = true) (ws : List Jvm.Cond) (a_NONE a_FROM a_BOTH a_TO : Addr) (h0 : Heap) (n0 : Nat) (O0 : Old Z n0 h0) (En : OwnEnv Z a_NONE a_FROM a_BOTH a_TO) :
    MetFree l (⟨"com/example/carbonfold/carbonfold/model/RosterItem$Subscription", "hasTo", "()Z"⟩ : MethodName) (head1 (Jvm.Cond.code (⟨"com/example/carbonfold/carbonfold/model/RosterItem$Subscription", "hasTo", "()Z"⟩ : MethodName) prog_67_method_5_code 1 (some .boolean) :: ws) ({ frames := 0, cells := 0, slots := 0, locals := 0 } : Room)) (fun a U => a = #[(.ref a_BOTH)] ∧ Z.Warmed39 U.vm ∧ U.heap = h0) (fun _ _ _ _ _ => True) (fun _ U o U' => ∃ v L, o = .returned v ∧ Q_rm_hasTo_25 a_NONE a_FROM a_BOTH a_TO h0 n0 v U'.heap L ∧ FrameEnd U o U' L ({ frames := 0, cells := 0, slots := 0, locals := 0 } : Room).cells ({ frames := 0, cells := 0, slots := 0, locals := 0 } : Room).slots) := by
  refine MetFree.of_bodySF (plainFor_of_name pn_1) hisR ?_
  intro p e s m args below meth c s₁ Bd hml0 hP hK
  obtain ⟨rfl, hZ, hh⟩ := hP
  have hx := Bd.exec
  have hby := Bd.bytes
  have hml : c.maxLocals = 1 := hml0
  have hown : s.vm.findClass "com/example/carbonfold/carbonfold/model/RosterItem$Subscription" = some m.cls := findClass_of_methodNamed Bd.named
  have hnm := (name_of_methodNamed Bd.named Bd.method).1
  have X0 : Stand p l e ({ frames := 0, cells := 0, slots := 0, locals := 0 } : Room) s m #[(.ref a_BOTH)] below meth c s₁ [] 0 0 := Stand.of_body Bd
  have e0 : s₁.heap = h0 := by rw [← hh, Bd.state]; rfl
  have N0 := Fr.nil n0
  have pre0 : ∀ t, Steps p.tables e below (s₁.setTop (mkF m 0 #[.val (.ref a_BOTH)] [])) t → Steps p.tables e below (s₁.setTop (entryFrame m #[(.ref a_BOTH)] 1)) t := fun t k => castTop (ef_2 m a_BOTH) k
  obtain ⟨S_a_NONE, X_a_NONE, S_a_FROM, X_a_FROM, S_a_BOTH, X_a_BOTH, S_a_TO, X_a_TO, F_a_NONE_ordinal, F_a_FROM_ordinal, F_a_BOTH_ordinal, F_a_TO_ordinal⟩ := id En
  obtain ⟨T1, X1, e1, st1⟩ := getS2 X0 hx hZ hown (host := "") (Or.inl (hw _ (List.mem_of_getElem? (i := 26) rfl))) Via.refl e0 (Sta.ext O0.2 S_a_TO) (g := (mkF m 1 #[.val (.ref a_BOTH)] [(.ref a_BOTH)])) rfl (hb hby dc3_1)
  obtain ⟨T2, X2, e2, st2⟩ := getS2 X1 hx hZ hown (host := "") (Or.inl (hw _ (List.mem_of_getElem? (i := 14) rfl))) Via.refl e1 (Sta.ext O0.2 S_a_BOTH) (g := (mkF m 8 #[.val (.ref a_BOTH)] [(.ref a_BOTH)])) rfl (hb hby dc3_8)
  obtain ⟨fs, hr, hrun, hended, hW, hsame⟩ := X2.leave (v := some (.int (1 : Int32))) (fun h => by rw [Bd.returns] at h; cases h)
  refine ⟨_, _, pre0 _ ?_, hrun, hended, _, _, rfl, ?_, ⟨_, rfl⟩, hW, hsame.mono (by decide) (by decide)⟩
  · skip
    show Steps p.tables e below (s₁.setTop (mkF m 0 #[.val (.ref a_BOTH)] [])) _
    refine XS.aloadN X0.here hx rfl (hb hby dc3_0) rfl rfl ?_
    show Steps p.tables e below (s₁.setTop (mkF m 1 #[.val (.ref a_BOTH)] [(.ref a_BOTH)])) _
    refine st1 _ ?_
    show Steps p.tables e below (T1.setTop (mkF m 4 #[.val (.ref a_BOTH)] [(.ref a_TO), (.ref a_BOTH)])) _
    refine Jvm.RoadKit.acmp (g := (mkF m 4 #[.val (.ref a_BOTH)] [(.ref a_TO), (.ref a_BOTH)])) X1 hx rfl rfl rfl (pc0 := 4) (pc' := 7) (same := false) rfl (hb hby dc3_4) rfl (decide_eq_false fun q => (Fld.ne F_a_BOTH_ordinal F_a_TO_ordinal (by simp)) (Value.ref.inj q)) (by decide) (by decide) ?_
    show Steps p.tables e below (T1.setTop (mkF m 7 #[.val (.ref a_BOTH)] [])) _
    refine XS.aloadN X1.here hx rfl (hb hby dc3_7) rfl rfl ?_
    show Steps p.tables e below (T1.setTop (mkF m 8 #[.val (.ref a_BOTH)] [(.ref a_BOTH)])) _
    refine st2 _ ?_
    show Steps p.tables e below (T2.setTop (mkF m 11 #[.val (.ref a_BOTH)] [(.ref a_BOTH), (.ref a_BOTH)])) _
    refine Jvm.RoadKit.acmp (g := (mkF m 11 #[.val (.ref a_BOTH)] [(.ref a_BOTH), (.ref a_BOTH)])) X2 hx rfl rfl rfl (pc0 := 11) (pc' := 14) (same := true) rfl (hb hby dc3_11) rfl (decide_eq_true rfl) (by decide) (by decide) ?_
    show Steps p.tables e below (T2.setTop (mkF m 14 #[.val (.ref a_BOTH)] [])) _
    refine XS.iconst X2.here hx rfl (hb hby dc3_14) ?_
    show Steps p.tables e below (T2.setTop (mkF m 15 #[.val (.ref a_BOTH)] [(.int (1 : Int32))])) _
    refine XS.goto X2.here hx rfl (pc0 := 15) (pc' := 19) rfl (hb hby dc3_15) (by decide) (by decide) ?_
    show Steps p.tables e below (T2.setTop (mkF m 19 #[.val (.ref a_BOTH)] [(.int (1 : Int32))])) _
    exact retN X2 hx (t := .boolean) Bd.returns (by simp) (hb hby dc3_19) hr
  · show Q_rm_hasTo_25 a_NONE a_FROM a_BOTH a_TO h0 n0 _ T2.heap _
    rw [e2]
    exact ⟨rfl, N0, rfl⟩
def Q_rm_withFrom_24 (a_NONE a_FROM a_BOTH a_TO : Addr) (h0 : Heap) (n0 : Nat) (v : Option Value) (h : Heap) (L : List Loc) : Prop := v = some (.ref a_TO) ∧ Fr n0 L ∧ h = h0
set_option maxRecDepth 65536 in
set_option maxHeartbeats 40000000 in
theorem rm_withFrom_24 (l : Launch) (Z : State) (a0 : Array Value) (hw : ∀ d ∈ tables_1, d.before a0 Z = true) (ws : List Jvm.Cond) (a_NONE a_FROM a_BOTH a_TO : Addr) (h0 : Heap) (n0 : Nat) (O0 : Old Z n0 h0) (En : OwnEnv Z a_NONE a_FROM a_BOTH a_TO) :
    MetFree l (⟨"com/example/carbonfold/carbonfold/model/RosterItem$Subscription", "withFrom", "(Z)Lcom/example/carbonfold/carbonfold/model/RosterItem$Subscription;"⟩ : MethodName) (head1 (Jvm.Cond.code (⟨"com/example/carbonfold/carbonfold/model/RosterItem$Subscription", "withFrom", "(Z)Lcom/example/carbonfold/carbonfold/model/RosterItem$Subscription;"⟩ : MethodName) prog_67_method_8_code 2 (some (.object "com/example/carbonfold/carbonfold/model/RosterItem$Subscription")) :: ws) ({ frames := 1, cells := 0, slots := 0, locals := 13 } : Room)) (fun a U => a = #[(.ref a_BOTH), (.int (0 : Int32))] ∧ Z.Warmed39 U.vm ∧ U.heap = h0) (fun _ _ _ _ _ => True) (fun _ U o U' => ∃ v L, o = .returned v ∧ Q_rm_withFrom_24 a_NONE a_FROM a_BOTH a_TO h0 n0 v U'.heap L ∧ FrameEnd U o U' L ({ frames := 1, cells := 0, slots := 0, locals := 13 } : Room).cells ({ frames := 1, cells := 0, slots := 0, locals := 13 } : Room).slots) := by
  refine MetFree.of_bodySF (plainFor_of_name pn_1) hisR ?_
  intro p e s m args below meth c s₁ Bd hml0 hP hK
  obtain ⟨rfl, hZ, hh⟩ := hP
  have hx := Bd.exec
  have hby := Bd.bytes
  have hml : c.maxLocals = 2 := hml0
  have hown : s.vm.findClass "com/example/carbonfold/carbonfold/model/RosterItem$Subscription" = some m.cls := findClass_of_methodNamed Bd.named
  have hnm := (name_of_methodNamed Bd.named Bd.method).1
  have X0 : Stand p l e ({ frames := 1, cells := 0, slots := 0, locals := 13 } : Room) s m #[(.ref a_BOTH), (.int (0 : Int32))] below meth c s₁ [] 0 0 := Stand.of_body Bd
  have e0 : s₁.heap = h0 := by rw [← hh, Bd.state]; rfl
  have N0 := Fr.nil n0
  have pre0 : ∀ t, Steps p.tables e below (s₁.setTop (mkF m 0 #[.val (.ref a_BOTH), .val (.int (0 : Int32))] [])) t → Steps p.tables e below (s₁.setTop (entryFrame m #[(.ref a_BOTH), (.int (0 : Int32))] 2)) t := fun t k => castTop (ef_3 m a_BOTH (0 : Int32)) k
  obtain ⟨S_a_NONE, X_a_NONE, S_a_FROM, X_a_FROM, S_a_BOTH, X_a_BOTH, S_a_TO, X_a_TO, F_a_NONE_ordinal, F_a_FROM_ordinal, F_a_BOTH_ordinal, F_a_TO_ordinal⟩ := id En
  obtain ⟨cq1, kq1, q1a, q1b, q1c⟩ := isOf hZ e0 (Exa.ext O0.2 X_a_BOTH)
  obtain ⟨_, _, ⟨T1, L1, k1, n1⟩, -, X1, ⟨Lc1, hQ1, l1, y1, z1⟩, st1⟩ := X0.virtualBack hx (y := (⟨"com/example/carbonfold/carbonfold/model/RosterItem$Subscription", "hasTo", "()Z"⟩ : MethodName)) (z := (⟨"com/example/carbonfold/carbonfold/model/RosterItem$Subscription", "hasTo", "()Z"⟩ : MethodName)) hown (mvT hZ (hw _ (List.mem_of_getElem? (i := 21) rfl))) (mvT hZ (hw _ (List.mem_of_getElem? (i := 22) rfl))) (notFace_of_selects (args := #[]) (mvT hZ (hw _ (List.mem_of_getElem? (i := 24) rfl)))) (mvT hZ (hw _ (List.mem_of_getElem? (i := 24) rfl))) (mvT hZ (hw _ (List.mem_of_getElem? (i := 23) rfl))) (by decide) (backOf (W := 0) (rm_hasTo_25 l Z a0 hw [] a_NONE a_FROM a_BOTH a_TO h0 n0 O0 En) hZ (hw _ (List.mem_of_getElem? (i := 25) rfl)) (hw _ (List.mem_of_getElem? (i := 5) rfl)) (by decide) (by decide)) q1a q1c (g := (mkF m 1 #[.val (.ref a_BOTH), .val (.int (0 : Int32))] [(.ref a_BOTH)])) rfl (by rw [hml]; rfl) (Steps.refl _) (argsL := []) (rest := []) (lenOf pd_1 rfl) rfl (by show 2 * 0 + _ ≤ _; exact Nat.le_of_eq rfl) (hb hby dc2_1) (fun _ _ => ⟨rfl, e0, (by decide : 0 + 0 ≤ _), (by decide : 0 + 0 ≤ _)⟩)
  dsimp only [Pt.U, Pt.locs, Pt.cells, Pt.slots] at X1 l1 y1 z1 st1 hQ1
  subst l1 y1 z1
  obtain ⟨rfl, N1q, hh1⟩ := hQ1
  have N1 := Fr.app N0 N1q
  obtain ⟨_, _, ⟨T2, L2, k2, n2⟩, -, X2, ⟨Lc2, hQ2, l2, y2, z2⟩, st2⟩ := Jvm.LawKit.callS X1 hx (y := (⟨"com/example/carbonfold/carbonfold/model/RosterItem$Subscription", "combined", "(ZZ)Lcom/example/carbonfold/carbonfold/model/RosterItem$Subscription;"⟩ : MethodName)) hown (mvT hZ (hw _ (List.mem_of_getElem? (i := 28) rfl))) (mvT hZ (hw _ (List.mem_of_getElem? (i := 29) rfl))) (mvT hZ (hw _ (List.mem_of_getElem? (i := 5) rfl))) (mvT hZ (hw _ (List.mem_of_getElem? (i := 30) rfl))) (by decide) (backOf (W := 0) (rm_combined_7 l Z a0 hw [] a_NONE a_FROM a_BOTH a_TO h0 n0 O0 En) hZ (hw _ (List.mem_of_getElem? (i := 30) rfl)) (hw _ (List.mem_of_getElem? (i := 5) rfl)) (by decide) (by decide)) (g := (mkF m 5 #[.val (.ref a_BOTH), .val (.int (0 : Int32))] [(.int (0 : Int32)), (.int (1 : Int32))])) rfl (by rw [hml]; rfl) (argsL := [(.int (1 : Int32)), (.int (0 : Int32))]) (rest := []) (lenOf pd_2 rfl) rfl (by show 2 * 0 + _ ≤ _; exact Nat.le_of_eq rfl) (hb hby dc2_5) (fun _ _ => ⟨rfl, hh1, (by decide : 0 + 0 ≤ _), (by decide : 0 + 0 ≤ _)⟩)
  dsimp only [Pt.U, Pt.locs, Pt.cells, Pt.slots] at X2 l2 y2 z2 st2 hQ2
  subst l2 y2 z2
  obtain ⟨rfl, N2q, hh2⟩ := hQ2
  have N2 := Fr.app N1 N2q
  obtain ⟨fs, hr, hrun, hended, hW, hsame⟩ := X2.leave (v := some (.ref a_TO)) (fun h => by rw [Bd.returns] at h; cases h)
  refine ⟨_, _, pre0 _ ?_, hrun, hended, _, _, rfl, ?_, ⟨_, rfl⟩, hW, hsame.mono (by decide) (by decide)⟩
  · skip
    show Steps p.tables e below (s₁.setTop (mkF m 0 #[.val (.ref a_BOTH), .val (.int (0 : Int32))] [])) _
    refine XS.aloadN X0.here hx rfl (hb hby dc2_0) rfl rfl ?_
    show Steps p.tables e below (s₁.setTop (mkF m 1 #[.val (.ref a_BOTH), .val (.int (0 : Int32))] [(.ref a_BOTH)])) _
    refine st1.trans ?_
    show Steps p.tables e below (T1.setTop (mkF m 4 #[.val (.ref a_BOTH), .val (.int (0 : Int32))] [(.int (1 : Int32))])) _
    refine XS.iloadN X1.here hx rfl (hb hby dc2_4) rfl ?_
    show Steps p.tables e below (T1.setTop (mkF m 5 #[.val (.ref a_BOTH), .val (.int (0 : Int32))] [(.int (0 : Int32)), (.int (1 : Int32))])) _
    refine st2 _ ?_
    show Steps p.tables e below (T2.setTop (mkF m 8 #[.val (.ref a_BOTH), .val (.int (0 : Int32))] [(.ref a_TO)])) _
    exact retOut X2 hx (t := (.object "com/example/carbonfold/carbonfold/model/RosterItem$Subscription")) Bd.returns rfl (Or.inr (Or.inr (Or.inr (Or.inr ⟨rfl, rfl, rfl⟩)))) (hb hby dc2_8) hr
  · show Q_rm_withFrom_24 a_NONE a_FROM a_BOTH a_TO h0 n0 _ T2.heap _
    rw [hh2]
    exact ⟨rfl, N2, rfl⟩
def Q_rm_withTo_26 (a_NONE a_FROM a_BOTH a_TO : Addr) (h0 : Heap) (n0 : Nat) (v : Option Value) (h : Heap) (L : List Loc) : Prop := v = some (.ref a_FROM) ∧ Fr n0 L ∧ h = h0
set_option maxRecDepth 65536 in
set_option maxHeartbeats 40000000 in
theorem rm_withTo_26 (l : Launch) (Z : State) (a0 : Array Value) (hw : ∀ d ∈ tables_1, d.before a0 Z = true) (ws : List Jvm.Cond) (a_NONE a_FROM a_BOTH a_TO : Addr) (h0 : Heap) (n0 : Nat) (O0 : Old Z n0 h0) (En : OwnEnv Z a_NONE a_FROM a_BOTH a_TO) :
    MetFree l (⟨"com/example/carbonfold/carbonfold/model/RosterItem$Subscription", "withTo", "(Z)Lcom/example/carbonfold/carbonfold/model/RosterItem$Subscription;"⟩ : MethodName) (head1 (Jvm.Cond.code (⟨"com/example/carbonfold/carbonfold/model/RosterItem$Subscription", "withTo", "(Z)Lcom/example/carbonfold/carbonfold/model/RosterItem$Subscription;"⟩ : MethodName) prog_67_method_7_code 2 (some (.object "com/example/carbonfold/carbonfold/model/RosterItem$Subscription")) :: ws) ({ frames := 1, cells := 0, slots := 0, locals := 13 } : Room)) (fun a U => a = #[(.ref a_BOTH), (.int (0 : Int32))] ∧ Z.Warmed39 U.vm ∧ U.heap = h0) (fun _ _ _ _ _ => True) (fun _ U o U' => ∃ v L, o = .returned v ∧ Q_rm_withTo_26 a_NONE a_FROM a_BOTH a_TO h0 n0 v U'.heap L ∧ FrameEnd U o U' L ({ frames := 1, cells := 0, slots := 0, locals := 13 } : Room).cells ({ frames := 1, cells := 0, slots := 0, locals := 13 } : Room).slots) := by
  refine MetFree.of_bodySF (plainFor_of_name pn_1) hisR ?_
  intro p e s m args below meth c s₁ Bd hml0 hP hK
  obtain ⟨rfl, hZ, hh⟩ := hP
  have hx := Bd.exec
  have hby := Bd.bytes
  have hml : c.maxLocals = 2 := hml0
  have hown : s.vm.findClass "com/example/carbonfold/carbonfold/model/RosterItem$Subscription" = some m.cls := findClass_of_methodNamed Bd.named
  have hnm := (name_of_methodNamed Bd.named Bd.method).1
  have X0 : Stand p l e ({ frames := 1, cells := 0, slots := 0, locals := 13 } : Room) s m #[(.ref a_BOTH), (.int (0 : Int32))] below meth c s₁ [] 0 0 := Stand.of_body Bd
  have e0 : s₁.heap = h0 := by rw [← hh, Bd.state]; rfl
  have N0 := Fr.nil n0
  have pre0 : ∀ t, Steps p.tables e below (s₁.setTop (mkF m 0 #[.val (.ref a_BOTH), .val (.int (0 : Int32))] [])) t → Steps p.tables e below (s₁.setTop (entryFrame m #[(.ref a_BOTH), (.int (0 : Int32))] 2)) t := fun t k => castTop (ef_3 m a_BOTH (0 : Int32)) k
  obtain ⟨S_a_NONE, X_a_NONE, S_a_FROM, X_a_FROM, S_a_BOTH, X_a_BOTH, S_a_TO, X_a_TO, F_a_NONE_ordinal, F_a_FROM_ordinal, F_a_BOTH_ordinal, F_a_TO_ordinal⟩ := id En
  obtain ⟨cq1, kq1, q1a, q1b, q1c⟩ := isOf hZ e0 (Exa.ext O0.2 X_a_BOTH)
  obtain ⟨_, _, ⟨T1, L1, k1, n1⟩, -, X1, ⟨Lc1, hQ1, l1, y1, z1⟩, st1⟩ := X0.virtualBack hx (y := (⟨"com/example/carbonfold/carbonfold/model/RosterItem$Subscription", "hasFrom", "()Z"⟩ : MethodName)) (z := (⟨"com/example/carbonfold/carbonfold/model/RosterItem$Subscription", "hasFrom", "()Z"⟩ : MethodName)) hown (mvT hZ (hw _ (List.mem_of_getElem? (i := 36) rfl))) (mvT hZ (hw _ (List.mem_of_getElem? (i := 8) rfl))) (notFace_of_selects (args := #[]) (mvT hZ (hw _ (List.mem_of_getElem? (i := 10) rfl)))) (mvT hZ (hw _ (List.mem_of_getElem? (i := 10) rfl))) (mvT hZ (hw _ (List.mem_of_getElem? (i := 9) rfl))) (by decide) (backOf (W := 1) (rm_hasFrom_18 l Z a0 hw [] a_NONE a_FROM a_BOTH a_TO h0 n0 O0 En) hZ (hw _ (List.mem_of_getElem? (i := 11) rfl)) (hw _ (List.mem_of_getElem? (i := 5) rfl)) (by decide) (by decide)) q1a q1c (g := (mkF m 2 #[.val (.ref a_BOTH), .val (.int (0 : Int32))] [(.ref a_BOTH), (.int (0 : Int32))])) rfl (by rw [hml]; rfl) (Steps.refl _) (argsL := []) (rest := [(.int (0 : Int32))]) (lenOf pd_1 rfl) rfl (by show 2 * 0 + _ ≤ _; exact Nat.le_of_eq rfl) (hb hby dc5_2) (fun _ _ => ⟨rfl, e0, (by decide : 0 + 0 ≤ _), (by decide : 0 + 0 ≤ _)⟩)
  dsimp only [Pt.U, Pt.locs, Pt.cells, Pt.slots] at X1 l1 y1 z1 st1 hQ1
  subst l1 y1 z1
  obtain ⟨rfl, N1q, hh1⟩ := hQ1
  have N1 := Fr.app N0 N1q
  obtain ⟨_, _, ⟨T2, L2, k2, n2⟩, -, X2, ⟨Lc2, hQ2, l2, y2, z2⟩, st2⟩ := Jvm.LawKit.callS X1 hx (y := (⟨"com/example/carbonfold/carbonfold/model/RosterItem$Subscription", "combined", "(ZZ)Lcom/example/carbonfold/carbonfold/model/RosterItem$Subscription;"⟩ : MethodName)) hown (mvT hZ (hw _ (List.mem_of_getElem? (i := 28) rfl))) (mvT hZ (hw _ (List.mem_of_getElem? (i := 29) rfl))) (mvT hZ (hw _ (List.mem_of_getElem? (i := 5) rfl))) (mvT hZ (hw _ (List.mem_of_getElem? (i := 30) rfl))) (by decide) (backOf (W := 0) (rm_combined_10 l Z a0 hw [] a_NONE a_FROM a_BOTH a_TO h0 n0 O0 En) hZ (hw _ (List.mem_of_getElem? (i := 30) rfl)) (hw _ (List.mem_of_getElem? (i := 5) rfl)) (by decide) (by decide)) (g := (mkF m 5 #[.val (.ref a_BOTH), .val (.int (0 : Int32))] [(.int (1 : Int32)), (.int (0 : Int32))])) rfl (by rw [hml]; rfl) (argsL := [(.int (0 : Int32)), (.int (1 : Int32))]) (rest := []) (lenOf pd_2 rfl) rfl (by show 2 * 0 + _ ≤ _; exact Nat.le_of_eq rfl) (hb hby dc5_5) (fun _ _ => ⟨rfl, hh1, (by decide : 0 + 0 ≤ _), (by decide : 0 + 0 ≤ _)⟩)
  dsimp only [Pt.U, Pt.locs, Pt.cells, Pt.slots] at X2 l2 y2 z2 st2 hQ2
  subst l2 y2 z2
  obtain ⟨rfl, N2q, hh2⟩ := hQ2
  have N2 := Fr.app N1 N2q
  obtain ⟨fs, hr, hrun, hended, hW, hsame⟩ := X2.leave (v := some (.ref a_FROM)) (fun h => by rw [Bd.returns] at h; cases h)
  refine ⟨_, _, pre0 _ ?_, hrun, hended, _, _, rfl, ?_, ⟨_, rfl⟩, hW, hsame.mono (by decide) (by decide)⟩
  · skip
    show Steps p.tables e below (s₁.setTop (mkF m 0 #[.val (.ref a_BOTH), .val (.int (0 : Int32))] [])) _
    refine XS.iloadN X0.here hx rfl (hb hby dc5_0) rfl ?_
    show Steps p.tables e below (s₁.setTop (mkF m 1 #[.val (.ref a_BOTH), .val (.int (0 : Int32))] [(.int (0 : Int32))])) _
    refine XS.aloadN X0.here hx rfl (hb hby dc5_1) rfl rfl ?_
    show Steps p.tables e below (s₁.setTop (mkF m 2 #[.val (.ref a_BOTH), .val (.int (0 : Int32))] [(.ref a_BOTH), (.int (0 : Int32))])) _
    refine st1.trans ?_
    show Steps p.tables e below (T1.setTop (mkF m 5 #[.val (.ref a_BOTH), .val (.int (0 : Int32))] [(.int (1 : Int32)), (.int (0 : Int32))])) _
    refine st2 _ ?_
    show Steps p.tables e below (T2.setTop (mkF m 8 #[.val (.ref a_BOTH), .val (.int (0 : Int32))] [(.ref a_FROM)])) _
    exact retOut X2 hx (t := (.object "com/example/carbonfold/carbonfold/model/RosterItem$Subscription")) Bd.returns rfl (Or.inr (Or.inr (Or.inr (Or.inr ⟨rfl, rfl, rfl⟩)))) (hb hby dc5_8) hr
  · show Q_rm_withTo_26 a_NONE a_FROM a_BOTH a_TO h0 n0 _ T2.heap _
    rw [hh2]
    exact ⟨rfl, N2, rfl⟩
def Q_rm_withTo_27 (a_NONE a_FROM a_BOTH a_TO : Addr) (h0 : Heap) (n0 : Nat) (v : Option Value) (h : Heap) (L : List Loc) : Prop := v = some (.ref a_BOTH) ∧ Fr n0 L ∧ h = h0
set_option maxRecDepth 65536 in
set_option maxHeartbeats 40000000 in
theorem rm_withTo_27 (l : Launch) (Z : State) (a0 : Array Value) (hw : ∀ d ∈ tables_1, d.before a0 Z = true) (ws : List Jvm.Cond) (a_NONE a_FROM a_BOTH a_TO : Addr) (h0 : Heap) (n0 : Nat) (O0 : Old Z n0 h0) (En : OwnEnv Z a_NONE a_FROM a_BOTH a_TO) :
    MetFree l (⟨"com/example/carbonfold/carbonfold/model/RosterItem$Subscription", "withTo", "(Z)Lcom/example/carbonfold/carbonfold/model/RosterItem$Subscription;"⟩ : MethodName) (head1 (Jvm.Cond.code (⟨"com/example/carbonfold/carbonfold/model/RosterItem$Subscription", "withTo", "(Z)Lcom/example/carbonfold/carbonfold/model/RosterItem$Subscription;"⟩ : MethodName) prog_67_method_7_code 2 (some (.object "com/example/carbonfold/carbonfold/model/RosterItem$Subscription")) :: ws) ({ frames := 1, cells := 0, slots := 0, locals := 13 } : Room)) (fun a U => a = #[(.ref a_BOTH), (.int (1 : Int32))] ∧ Z.Warmed39 U.vm ∧ U.heap = h0) (fun _ _ _ _ _ => True) (fun _ U o U' => ∃ v L, o = .returned v ∧ Q_rm_withTo_27 a_NONE a_FROM a_BOTH a_TO h0 n0 v U'.heap L ∧ FrameEnd U o U' L ({ frames := 1, cells := 0, slots := 0, locals := 13 } : Room).cells ({ frames := 1, cells := 0, slots := 0, locals := 13 } : Room).slots) := by
  refine MetFree.of_bodySF (plainFor_of_name pn_1) hisR ?_
  intro p e s m args below meth c s₁ Bd hml0 hP hK
  obtain ⟨rfl, hZ, hh⟩ := hP
  have hx := Bd.exec
  have hby := Bd.bytes
  have hml : c.maxLocals = 2 := hml0
  have hown : s.vm.findClass "com/example/carbonfold/carbonfold/model/RosterItem$Subscription" = some m.cls := findClass_of_methodNamed Bd.named
  have hnm := (name_of_methodNamed Bd.named Bd.method).1
  have X0 : Stand p l e ({ frames := 1, cells := 0, slots := 0, locals := 13 } : Room) s m #[(.ref a_BOTH), (.int (1 : Int32))] below meth c s₁ [] 0 0 := Stand.of_body Bd
  have e0 : s₁.heap = h0 := by rw [← hh, Bd.state]; rfl
  have N0 := Fr.nil n0
  have pre0 : ∀ t, Steps p.tables e below (s₁.setTop (mkF m 0 #[.val (.ref a_BOTH), .val (.int (1 : Int32))] [])) t → Steps p.tables e below (s₁.setTop (entryFrame m #[(.ref a_BOTH), (.int (1 : Int32))] 2)) t := fun t k => castTop (ef_3 m a_BOTH (1 : Int32)) k
  obtain ⟨S_a_NONE, X_a_NONE, S_a_FROM, X_a_FROM, S_a_BOTH, X_a_BOTH, S_a_TO, X_a_TO, F_a_NONE_ordinal, F_a_FROM_ordinal, F_a_BOTH_ordinal, F_a_TO_ordinal⟩ := id En
  obtain ⟨cq1, kq1, q1a, q1b, q1c⟩ := isOf hZ e0 (Exa.ext O0.2 X_a_BOTH)
  obtain ⟨_, _, ⟨T1, L1, k1, n1⟩, -, X1, ⟨Lc1, hQ1, l1, y1, z1⟩, st1⟩ := X0.virtualBack hx (y := (⟨"com/example/carbonfold/carbonfold/model/RosterItem$Subscription", "hasFrom", "()Z"⟩ : MethodName)) (z := (⟨"com/example/carbonfold/carbonfold/model/RosterItem$Subscription", "hasFrom", "()Z"⟩ : MethodName)) hown (mvT hZ (hw _ (List.mem_of_getElem? (i := 36) rfl))) (mvT hZ (hw _ (List.mem_of_getElem? (i := 8) rfl))) (notFace_of_selects (args := #[]) (mvT hZ (hw _ (List.mem_of_getElem? (i := 10) rfl)))) (mvT hZ (hw _ (List.mem_of_getElem? (i := 10) rfl))) (mvT hZ (hw _ (List.mem_of_getElem? (i := 9) rfl))) (by decide) (backOf (W := 1) (rm_hasFrom_18 l Z a0 hw [] a_NONE a_FROM a_BOTH a_TO h0 n0 O0 En) hZ (hw _ (List.mem_of_getElem? (i := 11) rfl)) (hw _ (List.mem_of_getElem? (i := 5) rfl)) (by decide) (by decide)) q1a q1c (g := (mkF m 2 #[.val (.ref a_BOTH), .val (.int (1 : Int32))] [(.ref a_BOTH), (.int (1 : Int32))])) rfl (by rw [hml]; rfl) (Steps.refl _) (argsL := []) (rest := [(.int (1 : Int32))]) (lenOf pd_1 rfl) rfl (by show 2 * 0 + _ ≤ _; exact Nat.le_of_eq rfl) (hb hby dc5_2) (fun _ _ => ⟨rfl, e0, (by decide : 0 + 0 ≤ _), (by decide : 0 + 0 ≤ _)⟩)
  dsimp only [Pt.U, Pt.locs, Pt.cells, Pt.slots] at X1 l1 y1 z1 st1 hQ1
  subst l1 y1 z1
  obtain ⟨rfl, N1q, hh1⟩ := hQ1
  have N1 := Fr.app N0 N1q
  obtain ⟨_, _, ⟨T2, L2, k2, n2⟩, -, X2, ⟨Lc2, hQ2, l2, y2, z2⟩, st2⟩ := Jvm.LawKit.callS X1 hx (y := (⟨"com/example/carbonfold/carbonfold/model/RosterItem$Subscription", "combined", "(ZZ)Lcom/example/carbonfold/carbonfold/model/RosterItem$Subscription;"⟩ : MethodName)) hown (mvT hZ (hw _ (List.mem_of_getElem? (i := 28) rfl))) (mvT hZ (hw _ (List.mem_of_getElem? (i := 29) rfl))) (mvT hZ (hw _ (List.mem_of_getElem? (i := 5) rfl))) (mvT hZ (hw _ (List.mem_of_getElem? (i := 30) rfl))) (by decide) (backOf (W := 0) (rm_combined_17 l Z a0 hw [] a_NONE a_FROM a_BOTH a_TO h0 n0 O0 En) hZ (hw _ (List.mem_of_getElem? (i := 30) rfl)) (hw _ (List.mem_of_getElem? (i := 5) rfl)) (by decide) (by decide)) (g := (mkF m 5 #[.val (.ref a_BOTH), .val (.int (1 : Int32))] [(.int (1 : Int32)), (.int (1 : Int32))])) rfl (by rw [hml]; rfl) (argsL := [(.int (1 : Int32)), (.int (1 : Int32))]) (rest := []) (lenOf pd_2 rfl) rfl (by show 2 * 0 + _ ≤ _; exact Nat.le_of_eq rfl) (hb hby dc5_5) (fun _ _ => ⟨rfl, hh1, (by decide : 0 + 0 ≤ _), (by decide : 0 + 0 ≤ _)⟩)
  dsimp only [Pt.U, Pt.locs, Pt.cells, Pt.slots] at X2 l2 y2 z2 st2 hQ2
  subst l2 y2 z2
  obtain ⟨rfl, N2q, hh2⟩ := hQ2
  have N2 := Fr.app N1 N2q
  obtain ⟨fs, hr, hrun, hended, hW, hsame⟩ := X2.leave (v := some (.ref a_BOTH)) (fun h => by rw [Bd.returns] at h; cases h)
  refine ⟨_, _, pre0 _ ?_, hrun, hended, _, _, rfl, ?_, ⟨_, rfl⟩, hW, hsame.mono (by decide) (by decide)⟩
  · skip
    show Steps p.tables e below (s₁.setTop (mkF m 0 #[.val (.ref a_BOTH), .val (.int (1 : Int32))] [])) _
    refine XS.iloadN X0.here hx rfl (hb hby dc5_0) rfl ?_
    show Steps p.tables e below (s₁.setTop (mkF m 1 #[.val (.ref a_BOTH), .val (.int (1 : Int32))] [(.int (1 : Int32))])) _
    refine XS.aloadN X0.here hx rfl (hb hby dc5_1) rfl rfl ?_
    show Steps p.tables e below (s₁.setTop (mkF m 2 #[.val (.ref a_BOTH), .val (.int (1 : Int32))] [(.ref a_BOTH), (.int (1 : Int32))])) _
    refine st1.trans ?_
    show Steps p.tables e below (T1.setTop (mkF m 5 #[.val (.ref a_BOTH), .val (.int (1 : Int32))] [(.int (1 : Int32)), (.int (1 : Int32))])) _
    refine st2 _ ?_
    show Steps p.tables e below (T2.setTop (mkF m 8 #[.val (.ref a_BOTH), .val (.int (1 : Int32))] [(.ref a_BOTH)])) _
    exact retOut X2 hx (t := (.object "com/example/carbonfold/carbonfold/model/RosterItem$Subscription")) Bd.returns rfl (Or.inr (Or.inr (Or.inr (Or.inr ⟨rfl, rfl, rfl⟩)))) (hb hby dc5_8) hr
  · show Q_rm_withTo_27 a_NONE a_FROM a_BOTH a_TO h0 n0 _ T2.heap _
    rw [hh2]
    exact ⟨rfl, N2, rfl⟩
def Q_rm_withFrom_28 (a_NONE a_FROM a_BOTH a_TO : Addr) (h0 : Heap) (n0 : Nat) (v : Option Value) (h : Heap) (L : List Loc) : Prop := v = some (.ref a_BOTH) ∧ Fr n0 L ∧ h = h0
set_option maxRecDepth 65536 in
set_option maxHeartbeats 40000000 in
theorem rm_withFrom_28 (l : Launch) (Z : State) (a0 : Array Value) (hw : ∀ d ∈ tables_1, d.before a0 Z = true) (ws : List Jvm.Cond) (a_NONE a_FROM a_BOTH a_TO : Addr) (h0 : Heap) (n0 : Nat) (O0 : Old Z n0 h0) (En : OwnEnv Z a_NONE a_FROM a_BOTH a_TO) :
    MetFree l (⟨"com/example/carbonfold/carbonfold/model/RosterItem$Subscription", "withFrom", "(Z)Lcom/example/carbonfold/carbonfold/model/RosterItem$Subscription;"⟩ : MethodName) (head1 (Jvm.Cond.code (⟨"com/example/carbonfold/carbonfold/model/RosterItem$Subscription", "withFrom", "(Z)Lcom/example/carbonfold/carbonfold/model/RosterItem$Subscription;"⟩ : MethodName) prog_67_method_8_code 2 (some (.object "com/example/carbonfold/carbonfold/model/RosterItem$Subscription")) :: ws) ({ frames := 1, cells := 0, slots := 0, locals := 13 } : Room)) (fun a U => a = #[(.ref a_BOTH), (.int (1 : Int32))] ∧ Z.Warmed39 U.vm ∧ U.heap = h0) (fun _ _ _ _ _ => True) (fun _ U o U' => ∃ v L, o = .returned v ∧ Q_rm_withFrom_28 a_NONE a_FROM a_BOTH a_TO h0 n0 v U'.heap L ∧ FrameEnd U o U' L ({ frames := 1, cells := 0, slots := 0, locals := 13 } : Room).cells ({ frames := 1, cells := 0, slots := 0, locals := 13 } : Room).slots) := by
  refine MetFree.of_bodySF (plainFor_of_name pn_1) hisR ?_
  intro p e s m args below meth c s₁ Bd hml0 hP hK
  obtain ⟨rfl, hZ, hh⟩ := hP
  have hx := Bd.exec
  have hby := Bd.bytes
  have hml : c.maxLocals = 2 := hml0
  have hown : s.vm.findClass "com/example/carbonfold/carbonfold/model/RosterItem$Subscription" = some m.cls := findClass_of_methodNamed Bd.named
  have hnm := (name_of_methodNamed Bd.named Bd.method).1
  have X0 : Stand p l e ({ frames := 1, cells := 0, slots := 0, locals := 13 } : Room) s m #[(.ref a_BOTH), (.int (1 : Int32))] below meth c s₁ [] 0 0 := Stand.of_body Bd
  have e0 : s₁.heap = h0 := by rw [← hh, Bd.state]; rfl
  have N0 := Fr.nil n0
  have pre0 : ∀ t, Steps p.tables e below (s₁.setTop (mkF m 0 #[.val (.ref a_BOTH), .val (.int (1 : Int32))] [])) t → Steps p.tables e below (s₁.setTop (entryFrame m #[(.ref a_BOTH), (.int (1 : Int32))] 2)) t := fun t k => castTop (ef_3 m a_BOTH (1 : Int32)) k
  obtain ⟨S_a_NONE, X_a_NONE, S_a_FROM, X_a_FROM, S_a_BOTH, X_a_BOTH, S_a_TO, X_a_TO, F_a_NONE_ordinal, F_a_FROM_ordinal, F_a_BOTH_ordinal, F_a_TO_ordinal⟩ := id En
  obtain ⟨cq1, kq1, q1a, q1b, q1c⟩ := isOf hZ e0 (Exa.ext O0.2 X_a_BOTH)
  obtain ⟨_, _, ⟨T1, L1, k1, n1⟩, -, X1, ⟨Lc1, hQ1, l1, y1, z1⟩, st1⟩ := X0.virtualBack hx (y := (⟨"com/example/carbonfold/carbonfold/model/RosterItem$Subscription", "hasTo", "()Z"⟩ : MethodName)) (z := (⟨"com/example/carbonfold/carbonfold/model/RosterItem$Subscription", "hasTo", "()Z"⟩ : MethodName)) hown (mvT hZ (hw _ (List.mem_of_getElem? (i := 21) rfl))) (mvT hZ (hw _ (List.mem_of_getElem? (i := 22) rfl))) (notFace_of_selects (args := #[]) (mvT hZ (hw _ (List.mem_of_getElem? (i := 24) rfl)))) (mvT hZ (hw _ (List.mem_of_getElem? (i := 24) rfl))) (mvT hZ (hw _ (List.mem_of_getElem? (i := 23) rfl))) (by decide) (backOf (W := 0) (rm_hasTo_25 l Z a0 hw [] a_NONE a_FROM a_BOTH a_TO h0 n0 O0 En) hZ (hw _ (List.mem_of_getElem? (i := 25) rfl)) (hw _ (List.mem_of_getElem? (i := 5) rfl)) (by decide) (by decide)) q1a q1c (g := (mkF m 1 #[.val (.ref a_BOTH), .val (.int (1 : Int32))] [(.ref a_BOTH)])) rfl (by rw [hml]; rfl) (Steps.refl _) (argsL := []) (rest := []) (lenOf pd_1 rfl) rfl (by show 2 * 0 + _ ≤ _; exact Nat.le_of_eq rfl) (hb hby dc2_1) (fun _ _ => ⟨rfl, e0, (by decide : 0 + 0 ≤ _), (by decide : 0 + 0 ≤ _)⟩)
  dsimp only [Pt.U, Pt.locs, Pt.cells, Pt.slots] at X1 l1 y1 z1 st1 hQ1
  subst l1 y1 z1
  obtain ⟨rfl, N1q, hh1⟩ := hQ1
  have N1 := Fr.app N0 N1q
  obtain ⟨_, _, ⟨T2, L2, k2, n2⟩, -, X2, ⟨Lc2, hQ2, l2, y2, z2⟩, st2⟩ := Jvm.LawKit.callS X1 hx (y := (⟨"com/example/carbonfold/carbonfold/model/RosterItem$Subscription", "combined", "(ZZ)Lcom/example/carbonfold/carbonfold/model/RosterItem$Subscription;"⟩ : MethodName)) hown (mvT hZ (hw _ (List.mem_of_getElem? (i := 28) rfl))) (mvT hZ (hw _ (List.mem_of_getElem? (i := 29) rfl))) (mvT hZ (hw _ (List.mem_of_getElem? (i := 5) rfl))) (mvT hZ (hw _ (List.mem_of_getElem? (i := 30) rfl))) (by decide) (backOf (W := 0) (rm_combined_17 l Z a0 hw [] a_NONE a_FROM a_BOTH a_TO h0 n0 O0 En) hZ (hw _ (List.mem_of_getElem? (i := 30) rfl)) (hw _ (List.mem_of_getElem? (i := 5) rfl)) (by decide) (by decide)) (g := (mkF m 5 #[.val (.ref a_BOTH), .val (.int (1 : Int32))] [(.int (1 : Int32)), (.int (1 : Int32))])) rfl (by rw [hml]; rfl) (argsL := [(.int (1 : Int32)), (.int (1 : Int32))]) (rest := []) (lenOf pd_2 rfl) rfl (by show 2 * 0 + _ ≤ _; exact Nat.le_of_eq rfl) (hb hby dc2_5) (fun _ _ => ⟨rfl, hh1, (by decide : 0 + 0 ≤ _), (by decide : 0 + 0 ≤ _)⟩)
  dsimp only [Pt.U, Pt.locs, Pt.cells, Pt.slots] at X2 l2 y2 z2 st2 hQ2
  subst l2 y2 z2
  obtain ⟨rfl, N2q, hh2⟩ := hQ2
  have N2 := Fr.app N1 N2q
  obtain ⟨fs, hr, hrun, hended, hW, hsame⟩ := X2.leave (v := some (.ref a_BOTH)) (fun h => by rw [Bd.returns] at h; cases h)
  refine ⟨_, _, pre0 _ ?_, hrun, hended, _, _, rfl, ?_, ⟨_, rfl⟩, hW, hsame.mono (by decide) (by decide)⟩
  · skip
    show Steps p.tables e below (s₁.setTop (mkF m 0 #[.val (.ref a_BOTH), .val (.int (1 : Int32))] [])) _
    refine XS.aloadN X0.here hx rfl (hb hby dc2_0) rfl rfl ?_
    show Steps p.tables e below (s₁.setTop (mkF m 1 #[.val (.ref a_BOTH), .val (.int (1 : Int32))] [(.ref a_BOTH)])) _
    refine st1.trans ?_
    show Steps p.tables e below (T1.setTop (mkF m 4 #[.val (.ref a_BOTH), .val (.int (1 : Int32))] [(.int (1 : Int32))])) _
    refine XS.iloadN X1.here hx rfl (hb hby dc2_4) rfl ?_
    show Steps p.tables e below (T1.setTop (mkF m 5 #[.val (.ref a_BOTH), .val (.int (1 : Int32))] [(.int (1 : Int32)), (.int (1 : Int32))])) _
    refine st2 _ ?_
    show Steps p.tables e below (T2.setTop (mkF m 8 #[.val (.ref a_BOTH), .val (.int (1 : Int32))] [(.ref a_BOTH)])) _
    exact retOut X2 hx (t := (.object "com/example/carbonfold/carbonfold/model/RosterItem$Subscription")) Bd.returns rfl (Or.inr (Or.inr (Or.inr (Or.inr ⟨rfl, rfl, rfl⟩)))) (hb hby dc2_8) hr
  · show Q_rm_withFrom_28 a_NONE a_FROM a_BOTH a_TO h0 n0 _ T2.heap _
    rw [hh2]
    exact ⟨rfl, N2, rfl⟩
set_option maxRecDepth 65536 in
set_option maxHeartbeats 40000000 in
theorem rm0 (l : Launch) (Z : State) (a0 : Array Value) (hw : ∀ d ∈ tables_1, d.before a0 Z = true) (ws : List Jvm.Cond) (i0 i1 i2 : Int32) (a_NONE a_FROM a_BOTH a_TO : Addr) (h0 : Heap) (n0 : Nat) (O0 : Old Z n0 h0) (En : OwnEnv Z a_NONE a_FROM a_BOTH a_TO) :
    MetFree l x (head1 (Jvm.Cond.code x code maxLocals ret :: ws) room_1) (fun a U => a = #[(.int i0), (.int i1), (.int i2)] ∧ Z.Warmed39 U.vm ∧ U.heap = h0) (fun _ _ _ _ _ => True) (fun _ U o U' => ∃ v L, o = .returned v ∧ QL n0 v U'.heap L ∧ FrameEnd U o U' L room_1.cells room_1.slots) := by
  refine MetFree.of_bodySF (plainFor_of_name pn_0) hisR ?_
  intro p e s m args below meth c s₁ Bd hml0 hP hK
  obtain ⟨rfl, hZ, hh⟩ := hP
  have hx := Bd.exec
  have hby := Bd.bytes
  have hml : c.maxLocals = 10 := hml0
  have hown : s.vm.findClass "com/example/carbonfold/carbonfold/model/SubscriptionHasFromPinLaw" = some m.cls := findClass_of_methodNamed Bd.named
  have hnm := (name_of_methodNamed Bd.named Bd.method).1
  have X0 : Stand p l e room_1 s m #[(.int i0), (.int i1), (.int i2)] below meth c s₁ [] 0 0 := Stand.of_body Bd
  have e0 : s₁.heap = h0 := by rw [← hh, Bd.state]; rfl
  have N0 := Fr.nil n0
  have pre0 : ∀ t, Steps p.tables e below (s₁.setTop (mkF m 0 #[.val (.int i0), .val (.int i1), .val (.int i2), .unset, .unset, .unset, .unset, .unset, .unset, .unset] [])) t → Steps p.tables e below (s₁.setTop (entryFrame m #[(.int i0), (.int i1), (.int i2)] maxLocals)) t := fun t k => castTop (ef_0 m i0 i1 i2) k
  obtain ⟨S_a_NONE, X_a_NONE, S_a_FROM, X_a_FROM, S_a_BOTH, X_a_BOTH, S_a_TO, X_a_TO, F_a_NONE_ordinal, F_a_FROM_ordinal, F_a_BOTH_ordinal, F_a_TO_ordinal⟩ := id En
  rcases own_k i0 with hk | hk | hk | hk
  · skip
    have hk2 : (i0 &&& (2 : Int32)) = (0 : Int32) := own_k2 hk rfl
    obtain ⟨_, _, ⟨T1, L1, k1, n1⟩, -, X1, ⟨Lc1, hQ1, l1, y1, z1⟩, st1⟩ := Jvm.LawKit.callS X0 hx (y := (⟨"com/example/carbonfold/carbonfold/model/SubscriptionHasFromPinLaw", "pick", "(I)Lcom/example/carbonfold/carbonfold/model/RosterItem$Subscription;"⟩ : MethodName)) hown (mvT hZ (hw _ (List.mem_of_getElem? (i := 0) rfl))) (mvT hZ (hw _ (List.mem_of_getElem? (i := 1) rfl))) (mvT hZ (hw _ (List.mem_of_getElem? (i := 2) rfl))) (mvT hZ (hw _ (List.mem_of_getElem? (i := 3) rfl))) (by decide) (backOf (W := 0) (rm_pick0 l Z a0 hw [] i0 a_NONE a_FROM a_BOTH a_TO h0 n0 O0 En hk) hZ (hw _ (List.mem_of_getElem? (i := 3) rfl)) (hw _ (List.mem_of_getElem? (i := 2) rfl)) (by decide) (by decide)) (g := (mkF m 1 #[.val (.int i0), .val (.int i1), .val (.int i2), .unset, .unset, .unset, .unset, .unset, .unset, .unset] [(.int i0)])) rfl (by rw [hml]; rfl) (argsL := [(.int i0)]) (rest := []) (lenOf pd_0 rfl) rfl (by show 2 * 0 + _ ≤ _; exact Nat.le_of_eq rfl) (hb hby at_1) (fun _ _ => ⟨rfl, e0, (by decide : 0 + 0 ≤ _), (by decide : 0 + 0 ≤ _)⟩)
    dsimp only [Pt.U, Pt.locs, Pt.cells, Pt.slots] at X1 l1 y1 z1 st1 hQ1
    subst l1 y1 z1
    obtain ⟨rfl, N1q, hh1⟩ := hQ1
    have N1 := Fr.app N0 N1q
    have pre2 : ∀ t, Steps p.tables e below (T1.setTop (mkF m 21 #[.val (.int i0), .val (.int i1), .val (.int i2), .val (.ref a_NONE), .val (.int (0 : Int32)), .unset, .unset, .unset, .unset, .unset] [(.int (i1 &&& (1 : Int32)))])) t → Steps p.tables e below (s₁.setTop (entryFrame m #[(.int i0), (.int i1), (.int i2)] maxLocals)) t := fun t kt => pre0 t (by
        show Steps p.tables e below (s₁.setTop (mkF m 0 #[.val (.int i0), .val (.int i1), .val (.int i2), .unset, .unset, .unset, .unset, .unset, .unset, .unset] [])) _
        refine XS.iloadN X0.here hx rfl (hb hby at_0) rfl ?_
        show Steps p.tables e below (s₁.setTop (mkF m 1 #[.val (.int i0), .val (.int i1), .val (.int i2), .unset, .unset, .unset, .unset, .unset, .unset, .unset] [(.int i0)])) _
        refine st1 _ ?_
        show Steps p.tables e below (T1.setTop (mkF m 4 #[.val (.int i0), .val (.int i1), .val (.int i2), .unset, .unset, .unset, .unset, .unset, .unset, .unset] [(.ref a_NONE)])) _
        refine XS.astoreN X1.here hx rfl (hb hby at_4) rfl rfl (l' := #[.val (.int i0), .val (.int i1), .val (.int i2), .val (.ref a_NONE), .unset, .unset, .unset, .unset, .unset, .unset]) rfl ?_
        show Steps p.tables e below (T1.setTop (mkF m 5 #[.val (.int i0), .val (.int i1), .val (.int i2), .val (.ref a_NONE), .unset, .unset, .unset, .unset, .unset, .unset] [])) _
        refine XS.iloadN X1.here hx rfl (hb hby at_5) rfl ?_
        show Steps p.tables e below (T1.setTop (mkF m 6 #[.val (.int i0), .val (.int i1), .val (.int i2), .val (.ref a_NONE), .unset, .unset, .unset, .unset, .unset, .unset] [(.int i0)])) _
        refine XS.iconst X1.here hx rfl (hb hby at_6) ?_
        show Steps p.tables e below (T1.setTop (mkF m 7 #[.val (.int i0), .val (.int i1), .val (.int i2), .val (.ref a_NONE), .unset, .unset, .unset, .unset, .unset, .unset] [(.int (2 : Int32)), (.int i0)])) _
        refine XS.iand X1.here hx rfl (hb hby at_7) rfl ?_
        show Steps p.tables e below (T1.setTop (mkF m 8 #[.val (.int i0), .val (.int i1), .val (.int i2), .val (.ref a_NONE), .unset, .unset, .unset, .unset, .unset, .unset] [(.int (i0 &&& (2 : Int32)))])) _
        rw [hk2]
        show Steps p.tables e below (T1.setTop (mkF m 8 #[.val (.int i0), .val (.int i1), .val (.int i2), .val (.ref a_NONE), .unset, .unset, .unset, .unset, .unset, .unset] [(.int (0 : Int32))])) _
        refine XS.ifYes X1.here hx rfl (pc0 := 8) (pc' := 15) rfl (hb hby at_8) rfl (by decide) (by decide) (by decide) ?_
        show Steps p.tables e below (T1.setTop (mkF m 15 #[.val (.int i0), .val (.int i1), .val (.int i2), .val (.ref a_NONE), .unset, .unset, .unset, .unset, .unset, .unset] [])) _
        refine XS.iconst X1.here hx rfl (hb hby at_15) ?_
        show Steps p.tables e below (T1.setTop (mkF m 16 #[.val (.int i0), .val (.int i1), .val (.int i2), .val (.ref a_NONE), .unset, .unset, .unset, .unset, .unset, .unset] [(.int (0 : Int32))])) _
        refine XS.istore X1.here hx rfl (hb hby at_16) rfl (l' := #[.val (.int i0), .val (.int i1), .val (.int i2), .val (.ref a_NONE), .val (.int (0 : Int32)), .unset, .unset, .unset, .unset, .unset]) rfl ?_
        show Steps p.tables e below (T1.setTop (mkF m 18 #[.val (.int i0), .val (.int i1), .val (.int i2), .val (.ref a_NONE), .val (.int (0 : Int32)), .unset, .unset, .unset, .unset, .unset] [])) _
        refine XS.iloadN X1.here hx rfl (hb hby at_18) rfl ?_
        show Steps p.tables e below (T1.setTop (mkF m 19 #[.val (.int i0), .val (.int i1), .val (.int i2), .val (.ref a_NONE), .val (.int (0 : Int32)), .unset, .unset, .unset, .unset, .unset] [(.int i1)])) _
        refine XS.iconst X1.here hx rfl (hb hby at_19) ?_
        show Steps p.tables e below (T1.setTop (mkF m 20 #[.val (.int i0), .val (.int i1), .val (.int i2), .val (.ref a_NONE), .val (.int (0 : Int32)), .unset, .unset, .unset, .unset, .unset] [(.int (1 : Int32)), (.int i1)])) _
        refine XS.iand X1.here hx rfl (hb hby at_20) rfl ?_
        exact kt)
    rcases own_b i1 with hk3 | hk3
    · skip
      have pre4 : ∀ t, Steps p.tables e below (T1.setTop (mkF m 34 #[.val (.int i0), .val (.int i1), .val (.int i2), .val (.ref a_NONE), .val (.int (0 : Int32)), .val (.int (0 : Int32)), .unset, .unset, .unset, .unset] [(.int (i2 &&& (1 : Int32)))])) t → Steps p.tables e below (s₁.setTop (entryFrame m #[(.int i0), (.int i1), (.int i2)] maxLocals)) t := fun t kt => pre2 t (by
          show Steps p.tables e below (T1.setTop (mkF m 21 #[.val (.int i0), .val (.int i1), .val (.int i2), .val (.ref a_NONE), .val (.int (0 : Int32)), .unset, .unset, .unset, .unset, .unset] [(.int (i1 &&& (1 : Int32)))])) _
          rw [hk3]
          show Steps p.tables e below (T1.setTop (mkF m 21 #[.val (.int i0), .val (.int i1), .val (.int i2), .val (.ref a_NONE), .val (.int (0 : Int32)), .unset, .unset, .unset, .unset, .unset] [(.int (0 : Int32))])) _
          refine XS.ifYes X1.here hx rfl (pc0 := 21) (pc' := 28) rfl (hb hby at_21) rfl (by decide) (by decide) (by decide) ?_
          show Steps p.tables e below (T1.setTop (mkF m 28 #[.val (.int i0), .val (.int i1), .val (.int i2), .val (.ref a_NONE), .val (.int (0 : Int32)), .unset, .unset, .unset, .unset, .unset] [])) _
          refine XS.iconst X1.here hx rfl (hb hby at_28) ?_
          show Steps p.tables e below (T1.setTop (mkF m 29 #[.val (.int i0), .val (.int i1), .val (.int i2), .val (.ref a_NONE), .val (.int (0 : Int32)), .unset, .unset, .unset, .unset, .unset] [(.int (0 : Int32))])) _
          refine XS.istore X1.here hx rfl (hb hby at_29) rfl (l' := #[.val (.int i0), .val (.int i1), .val (.int i2), .val (.ref a_NONE), .val (.int (0 : Int32)), .val (.int (0 : Int32)), .unset, .unset, .unset, .unset]) rfl ?_
          show Steps p.tables e below (T1.setTop (mkF m 31 #[.val (.int i0), .val (.int i1), .val (.int i2), .val (.ref a_NONE), .val (.int (0 : Int32)), .val (.int (0 : Int32)), .unset, .unset, .unset, .unset] [])) _
          refine XS.iloadN X1.here hx rfl (hb hby at_31) rfl ?_
          show Steps p.tables e below (T1.setTop (mkF m 32 #[.val (.int i0), .val (.int i1), .val (.int i2), .val (.ref a_NONE), .val (.int (0 : Int32)), .val (.int (0 : Int32)), .unset, .unset, .unset, .unset] [(.int i2)])) _
          refine XS.iconst X1.here hx rfl (hb hby at_32) ?_
          show Steps p.tables e below (T1.setTop (mkF m 33 #[.val (.int i0), .val (.int i1), .val (.int i2), .val (.ref a_NONE), .val (.int (0 : Int32)), .val (.int (0 : Int32)), .unset, .unset, .unset, .unset] [(.int (1 : Int32)), (.int i2)])) _
          refine XS.iand X1.here hx rfl (hb hby at_33) rfl ?_
          exact kt)
      rcases own_b i2 with hk5 | hk5
      · skip
        obtain ⟨cq6, kq6, q6a, q6b, q6c⟩ := isOf hZ hh1 (Exa.ext O0.2 X_a_NONE)
        obtain ⟨_, _, ⟨T6, L6, k6, n6⟩, -, X6, ⟨Lc6, hQ6, l6, y6, z6⟩, st6⟩ := X1.virtualBack hx (y := (⟨"com/example/carbonfold/carbonfold/model/RosterItem$Subscription", "hasFrom", "()Z"⟩ : MethodName)) (z := (⟨"com/example/carbonfold/carbonfold/model/RosterItem$Subscription", "hasFrom", "()Z"⟩ : MethodName)) hown (mvT hZ (hw _ (List.mem_of_getElem? (i := 7) rfl))) (mvT hZ (hw _ (List.mem_of_getElem? (i := 8) rfl))) (notFace_of_selects (args := #[]) (mvT hZ (hw _ (List.mem_of_getElem? (i := 10) rfl)))) (mvT hZ (hw _ (List.mem_of_getElem? (i := 10) rfl))) (mvT hZ (hw _ (List.mem_of_getElem? (i := 9) rfl))) (by decide) (backOf (W := 0) (rm_hasFrom_1 l Z a0 hw [] a_NONE a_FROM a_BOTH a_TO h0 n0 O0 En) hZ (hw _ (List.mem_of_getElem? (i := 11) rfl)) (hw _ (List.mem_of_getElem? (i := 5) rfl)) (by decide) (by decide)) q6a q6c (g := (mkF m 45 #[.val (.int i0), .val (.int i1), .val (.int i2), .val (.ref a_NONE), .val (.int (0 : Int32)), .val (.int (0 : Int32)), .val (.int (0 : Int32)), .unset, .unset, .unset] [(.ref a_NONE)])) rfl (by rw [hml]; rfl) (Steps.refl _) (argsL := []) (rest := []) (lenOf pd_1 rfl) rfl (by show 2 * 0 + _ ≤ _; exact Nat.le_of_eq rfl) (hb hby at_45) (fun _ _ => ⟨rfl, hh1, (by decide : 0 + 0 ≤ _), (by decide : 0 + 0 ≤ _)⟩)
        dsimp only [Pt.U, Pt.locs, Pt.cells, Pt.slots] at X6 l6 y6 z6 st6 hQ6
        subst l6 y6 z6
        obtain ⟨rfl, N6q, hh6⟩ := hQ6
        have N6 := Fr.app N1 N6q
        obtain ⟨cq7, kq7, q7a, q7b, q7c⟩ := isOf hZ hh6 (Exa.ext O0.2 X_a_NONE)
        obtain ⟨_, _, ⟨T7, L7, k7, n7⟩, -, X7, ⟨Lc7, hQ7, l7, y7, z7⟩, st7⟩ := X6.virtualBack hx (y := (⟨"com/example/carbonfold/carbonfold/model/RosterItem$Subscription", "withFrom", "(Z)Lcom/example/carbonfold/carbonfold/model/RosterItem$Subscription;"⟩ : MethodName)) (z := (⟨"com/example/carbonfold/carbonfold/model/RosterItem$Subscription", "withFrom", "(Z)Lcom/example/carbonfold/carbonfold/model/RosterItem$Subscription;"⟩ : MethodName)) hown (mvT hZ (hw _ (List.mem_of_getElem? (i := 16) rfl))) (mvT hZ (hw _ (List.mem_of_getElem? (i := 17) rfl))) (notFace_of_selects (args := #[]) (mvT hZ (hw _ (List.mem_of_getElem? (i := 19) rfl)))) (mvT hZ (hw _ (List.mem_of_getElem? (i := 19) rfl))) (mvT hZ (hw _ (List.mem_of_getElem? (i := 18) rfl))) (by decide) (backOf (W := 0) (rm_withFrom_2 l Z a0 hw [] a_NONE a_FROM a_BOTH a_TO h0 n0 O0 En) hZ (hw _ (List.mem_of_getElem? (i := 20) rfl)) (hw _ (List.mem_of_getElem? (i := 5) rfl)) (by decide) (by decide)) q7a q7c (g := (mkF m 63 #[.val (.int i0), .val (.int i1), .val (.int i2), .val (.ref a_NONE), .val (.int (0 : Int32)), .val (.int (0 : Int32)), .val (.int (0 : Int32)), .val (.int (1 : Int32)), .unset, .unset] [(.int (0 : Int32)), (.ref a_NONE)])) rfl (by rw [hml]; rfl) (Steps.refl _) (argsL := [(.int (0 : Int32))]) (rest := []) (lenOf pd_3 rfl) rfl (by show 2 * 0 + _ ≤ _; exact Nat.le_of_eq rfl) (hb hby at_63) (fun _ _ => ⟨rfl, hh6, (by decide : 0 + 0 ≤ _), (by decide : 0 + 0 ≤ _)⟩)
        dsimp only [Pt.U, Pt.locs, Pt.cells, Pt.slots] at X7 l7 y7 z7 st7 hQ7
        subst l7 y7 z7
        obtain ⟨rfl, N7q, hh7⟩ := hQ7
        have N7 := Fr.app N6 N7q
        obtain ⟨cq8, kq8, q8a, q8b, q8c⟩ := isOf hZ hh7 (Exa.ext O0.2 X_a_NONE)
        obtain ⟨_, _, ⟨T8, L8, k8, n8⟩, -, X8, ⟨Lc8, hQ8, l8, y8, z8⟩, st8⟩ := X7.virtualBack hx (y := (⟨"com/example/carbonfold/carbonfold/model/RosterItem$Subscription", "hasFrom", "()Z"⟩ : MethodName)) (z := (⟨"com/example/carbonfold/carbonfold/model/RosterItem$Subscription", "hasFrom", "()Z"⟩ : MethodName)) hown (mvT hZ (hw _ (List.mem_of_getElem? (i := 7) rfl))) (mvT hZ (hw _ (List.mem_of_getElem? (i := 8) rfl))) (notFace_of_selects (args := #[]) (mvT hZ (hw _ (List.mem_of_getElem? (i := 10) rfl)))) (mvT hZ (hw _ (List.mem_of_getElem? (i := 10) rfl))) (mvT hZ (hw _ (List.mem_of_getElem? (i := 9) rfl))) (by decide) (backOf (W := 0) (rm_hasFrom_1 l Z a0 hw [] a_NONE a_FROM a_BOTH a_TO h0 n0 O0 En) hZ (hw _ (List.mem_of_getElem? (i := 11) rfl)) (hw _ (List.mem_of_getElem? (i := 5) rfl)) (by decide) (by decide)) q8a q8c (g := (mkF m 66 #[.val (.int i0), .val (.int i1), .val (.int i2), .val (.ref a_NONE), .val (.int (0 : Int32)), .val (.int (0 : Int32)), .val (.int (0 : Int32)), .val (.int (1 : Int32)), .unset, .unset] [(.ref a_NONE)])) rfl (by rw [hml]; rfl) (Steps.refl _) (argsL := []) (rest := []) (lenOf pd_1 rfl) rfl (by show 2 * 0 + _ ≤ _; exact Nat.le_of_eq rfl) (hb hby at_66) (fun _ _ => ⟨rfl, hh7, (by decide : 0 + 0 ≤ _), (by decide : 0 + 0 ≤ _)⟩)
        dsimp only [Pt.U, Pt.locs, Pt.cells, Pt.slots] at X8 l8 y8 z8 st8 hQ8
        subst l8 y8 z8
        obtain ⟨rfl, N8q, hh8⟩ := hQ8
        have N8 := Fr.app N7 N8q
        obtain ⟨cq9, kq9, q9a, q9b, q9c⟩ := isOf hZ hh8 (Exa.ext O0.2 X_a_NONE)
        obtain ⟨_, _, ⟨T9, L9, k9, n9⟩, -, X9, ⟨Lc9, hQ9, l9, y9, z9⟩, st9⟩ := X8.virtualBack hx (y := (⟨"com/example/carbonfold/carbonfold/model/RosterItem$Subscription", "withTo", "(Z)Lcom/example/carbonfold/carbonfold/model/RosterItem$Subscription;"⟩ : MethodName)) (z := (⟨"com/example/carbonfold/carbonfold/model/RosterItem$Subscription", "withTo", "(Z)Lcom/example/carbonfold/carbonfold/model/RosterItem$Subscription;"⟩ : MethodName)) hown (mvT hZ (hw _ (List.mem_of_getElem? (i := 31) rfl))) (mvT hZ (hw _ (List.mem_of_getElem? (i := 32) rfl))) (notFace_of_selects (args := #[]) (mvT hZ (hw _ (List.mem_of_getElem? (i := 34) rfl)))) (mvT hZ (hw _ (List.mem_of_getElem? (i := 34) rfl))) (mvT hZ (hw _ (List.mem_of_getElem? (i := 33) rfl))) (by decide) (backOf (W := 0) (rm_withTo_5 l Z a0 hw [] a_NONE a_FROM a_BOTH a_TO h0 n0 O0 En) hZ (hw _ (List.mem_of_getElem? (i := 35) rfl)) (hw _ (List.mem_of_getElem? (i := 5) rfl)) (by decide) (by decide)) q9a q9c (g := (mkF m 84 #[.val (.int i0), .val (.int i1), .val (.int i2), .val (.ref a_NONE), .val (.int (0 : Int32)), .val (.int (0 : Int32)), .val (.int (0 : Int32)), .val (.int (1 : Int32)), .val (.int (1 : Int32)), .unset] [(.int (0 : Int32)), (.ref a_NONE)])) rfl (by rw [hml]; rfl) (Steps.refl _) (argsL := [(.int (0 : Int32))]) (rest := []) (lenOf pd_3 rfl) rfl (by show 2 * 0 + _ ≤ _; exact Nat.le_of_eq rfl) (hb hby at_84) (fun _ _ => ⟨rfl, hh8, (by decide : 0 + 0 ≤ _), (by decide : 0 + 0 ≤ _)⟩)
        dsimp only [Pt.U, Pt.locs, Pt.cells, Pt.slots] at X9 l9 y9 z9 st9 hQ9
        subst l9 y9 z9
        obtain ⟨rfl, N9q, hh9⟩ := hQ9
        have N9 := Fr.app N8 N9q
        obtain ⟨cq10, kq10, q10a, q10b, q10c⟩ := isOf hZ hh9 (Exa.ext O0.2 X_a_NONE)
        obtain ⟨_, _, ⟨T10, L10, k10, n10⟩, -, X10, ⟨Lc10, hQ10, l10, y10, z10⟩, st10⟩ := X9.virtualBack hx (y := (⟨"com/example/carbonfold/carbonfold/model/RosterItem$Subscription", "hasFrom", "()Z"⟩ : MethodName)) (z := (⟨"com/example/carbonfold/carbonfold/model/RosterItem$Subscription", "hasFrom", "()Z"⟩ : MethodName)) hown (mvT hZ (hw _ (List.mem_of_getElem? (i := 7) rfl))) (mvT hZ (hw _ (List.mem_of_getElem? (i := 8) rfl))) (notFace_of_selects (args := #[]) (mvT hZ (hw _ (List.mem_of_getElem? (i := 10) rfl)))) (mvT hZ (hw _ (List.mem_of_getElem? (i := 10) rfl))) (mvT hZ (hw _ (List.mem_of_getElem? (i := 9) rfl))) (by decide) (backOf (W := 0) (rm_hasFrom_1 l Z a0 hw [] a_NONE a_FROM a_BOTH a_TO h0 n0 O0 En) hZ (hw _ (List.mem_of_getElem? (i := 11) rfl)) (hw _ (List.mem_of_getElem? (i := 5) rfl)) (by decide) (by decide)) q10a q10c (g := (mkF m 87 #[.val (.int i0), .val (.int i1), .val (.int i2), .val (.ref a_NONE), .val (.int (0 : Int32)), .val (.int (0 : Int32)), .val (.int (0 : Int32)), .val (.int (1 : Int32)), .val (.int (1 : Int32)), .unset] [(.ref a_NONE)])) rfl (by rw [hml]; rfl) (Steps.refl _) (argsL := []) (rest := []) (lenOf pd_1 rfl) rfl (by show 2 * 0 + _ ≤ _; exact Nat.le_of_eq rfl) (hb hby at_87) (fun _ _ => ⟨rfl, hh9, (by decide : 0 + 0 ≤ _), (by decide : 0 + 0 ≤ _)⟩)
        dsimp only [Pt.U, Pt.locs, Pt.cells, Pt.slots] at X10 l10 y10 z10 st10 hQ10
        subst l10 y10 z10
        obtain ⟨rfl, N10q, hh10⟩ := hQ10
        have N10 := Fr.app N9 N10q
        obtain ⟨fs, hr, hrun, hended, hW, hsame⟩ := X10.leave (v := some (.int (1 : Int32))) (fun h => by rw [Bd.returns] at h; cases h)
        refine ⟨_, _, pre4 _ ?_, hrun, hended, _, _, rfl, ?_, ⟨_, rfl⟩, hW, hsame.mono (by decide) (by decide)⟩
        · skip
          show Steps p.tables e below (T1.setTop (mkF m 34 #[.val (.int i0), .val (.int i1), .val (.int i2), .val (.ref a_NONE), .val (.int (0 : Int32)), .val (.int (0 : Int32)), .unset, .unset, .unset, .unset] [(.int (i2 &&& (1 : Int32)))])) _
          rw [hk5]
          show Steps p.tables e below (T1.setTop (mkF m 34 #[.val (.int i0), .val (.int i1), .val (.int i2), .val (.ref a_NONE), .val (.int (0 : Int32)), .val (.int (0 : Int32)), .unset, .unset, .unset, .unset] [(.int (0 : Int32))])) _
          refine XS.ifYes X1.here hx rfl (pc0 := 34) (pc' := 41) rfl (hb hby at_34) rfl (by decide) (by decide) (by decide) ?_
          show Steps p.tables e below (T1.setTop (mkF m 41 #[.val (.int i0), .val (.int i1), .val (.int i2), .val (.ref a_NONE), .val (.int (0 : Int32)), .val (.int (0 : Int32)), .unset, .unset, .unset, .unset] [])) _
          refine XS.iconst X1.here hx rfl (hb hby at_41) ?_
          show Steps p.tables e below (T1.setTop (mkF m 42 #[.val (.int i0), .val (.int i1), .val (.int i2), .val (.ref a_NONE), .val (.int (0 : Int32)), .val (.int (0 : Int32)), .unset, .unset, .unset, .unset] [(.int (0 : Int32))])) _
          refine XS.istore X1.here hx rfl (hb hby at_42) rfl (l' := #[.val (.int i0), .val (.int i1), .val (.int i2), .val (.ref a_NONE), .val (.int (0 : Int32)), .val (.int (0 : Int32)), .val (.int (0 : Int32)), .unset, .unset, .unset]) rfl ?_
          show Steps p.tables e below (T1.setTop (mkF m 44 #[.val (.int i0), .val (.int i1), .val (.int i2), .val (.ref a_NONE), .val (.int (0 : Int32)), .val (.int (0 : Int32)), .val (.int (0 : Int32)), .unset, .unset, .unset] [])) _
          refine XS.aloadN X1.here hx rfl (hb hby at_44) rfl rfl ?_
          show Steps p.tables e below (T1.setTop (mkF m 45 #[.val (.int i0), .val (.int i1), .val (.int i2), .val (.ref a_NONE), .val (.int (0 : Int32)), .val (.int (0 : Int32)), .val (.int (0 : Int32)), .unset, .unset, .unset] [(.ref a_NONE)])) _
          refine st6.trans ?_
          show Steps p.tables e below (T6.setTop (mkF m 48 #[.val (.int i0), .val (.int i1), .val (.int i2), .val (.ref a_NONE), .val (.int (0 : Int32)), .val (.int (0 : Int32)), .val (.int (0 : Int32)), .unset, .unset, .unset] [(.int (0 : Int32))])) _
          refine XS.iload X6.here hx rfl (hb hby at_48) rfl ?_
          show Steps p.tables e below (T6.setTop (mkF m 50 #[.val (.int i0), .val (.int i1), .val (.int i2), .val (.ref a_NONE), .val (.int (0 : Int32)), .val (.int (0 : Int32)), .val (.int (0 : Int32)), .unset, .unset, .unset] [(.int (0 : Int32)), (.int (0 : Int32))])) _
          refine XS.icmpNo X6.here hx rfl (hb hby at_50) rfl (by decide) ?_
          show Steps p.tables e below (T6.setTop (mkF m 53 #[.val (.int i0), .val (.int i1), .val (.int i2), .val (.ref a_NONE), .val (.int (0 : Int32)), .val (.int (0 : Int32)), .val (.int (0 : Int32)), .unset, .unset, .unset] [])) _
          refine XS.iconst X6.here hx rfl (hb hby at_53) ?_
          show Steps p.tables e below (T6.setTop (mkF m 54 #[.val (.int i0), .val (.int i1), .val (.int i2), .val (.ref a_NONE), .val (.int (0 : Int32)), .val (.int (0 : Int32)), .val (.int (0 : Int32)), .unset, .unset, .unset] [(.int (1 : Int32))])) _
          refine XS.goto X6.here hx rfl (pc0 := 54) (pc' := 58) rfl (hb hby at_54) (by decide) (by decide) ?_
          show Steps p.tables e below (T6.setTop (mkF m 58 #[.val (.int i0), .val (.int i1), .val (.int i2), .val (.ref a_NONE), .val (.int (0 : Int32)), .val (.int (0 : Int32)), .val (.int (0 : Int32)), .unset, .unset, .unset] [(.int (1 : Int32))])) _
          refine XS.istore X6.here hx rfl (hb hby at_58) rfl (l' := #[.val (.int i0), .val (.int i1), .val (.int i2), .val (.ref a_NONE), .val (.int (0 : Int32)), .val (.int (0 : Int32)), .val (.int (0 : Int32)), .val (.int (1 : Int32)), .unset, .unset]) rfl ?_
          show Steps p.tables e below (T6.setTop (mkF m 60 #[.val (.int i0), .val (.int i1), .val (.int i2), .val (.ref a_NONE), .val (.int (0 : Int32)), .val (.int (0 : Int32)), .val (.int (0 : Int32)), .val (.int (1 : Int32)), .unset, .unset] [])) _
          refine XS.aloadN X6.here hx rfl (hb hby at_60) rfl rfl ?_
          show Steps p.tables e below (T6.setTop (mkF m 61 #[.val (.int i0), .val (.int i1), .val (.int i2), .val (.ref a_NONE), .val (.int (0 : Int32)), .val (.int (0 : Int32)), .val (.int (0 : Int32)), .val (.int (1 : Int32)), .unset, .unset] [(.ref a_NONE)])) _
          refine XS.iload X6.here hx rfl (hb hby at_61) rfl ?_
          show Steps p.tables e below (T6.setTop (mkF m 63 #[.val (.int i0), .val (.int i1), .val (.int i2), .val (.ref a_NONE), .val (.int (0 : Int32)), .val (.int (0 : Int32)), .val (.int (0 : Int32)), .val (.int (1 : Int32)), .unset, .unset] [(.int (0 : Int32)), (.ref a_NONE)])) _
          refine st7.trans ?_
          show Steps p.tables e below (T7.setTop (mkF m 66 #[.val (.int i0), .val (.int i1), .val (.int i2), .val (.ref a_NONE), .val (.int (0 : Int32)), .val (.int (0 : Int32)), .val (.int (0 : Int32)), .val (.int (1 : Int32)), .unset, .unset] [(.ref a_NONE)])) _
          refine st8.trans ?_
          show Steps p.tables e below (T8.setTop (mkF m 69 #[.val (.int i0), .val (.int i1), .val (.int i2), .val (.ref a_NONE), .val (.int (0 : Int32)), .val (.int (0 : Int32)), .val (.int (0 : Int32)), .val (.int (1 : Int32)), .unset, .unset] [(.int (0 : Int32))])) _
          refine XS.iload X8.here hx rfl (hb hby at_69) rfl ?_
          show Steps p.tables e below (T8.setTop (mkF m 71 #[.val (.int i0), .val (.int i1), .val (.int i2), .val (.ref a_NONE), .val (.int (0 : Int32)), .val (.int (0 : Int32)), .val (.int (0 : Int32)), .val (.int (1 : Int32)), .unset, .unset] [(.int (0 : Int32)), (.int (0 : Int32))])) _
          refine XS.icmpNo X8.here hx rfl (hb hby at_71) rfl (by decide) ?_
          show Steps p.tables e below (T8.setTop (mkF m 74 #[.val (.int i0), .val (.int i1), .val (.int i2), .val (.ref a_NONE), .val (.int (0 : Int32)), .val (.int (0 : Int32)), .val (.int (0 : Int32)), .val (.int (1 : Int32)), .unset, .unset] [])) _
          refine XS.iconst X8.here hx rfl (hb hby at_74) ?_
          show Steps p.tables e below (T8.setTop (mkF m 75 #[.val (.int i0), .val (.int i1), .val (.int i2), .val (.ref a_NONE), .val (.int (0 : Int32)), .val (.int (0 : Int32)), .val (.int (0 : Int32)), .val (.int (1 : Int32)), .unset, .unset] [(.int (1 : Int32))])) _
          refine XS.goto X8.here hx rfl (pc0 := 75) (pc' := 79) rfl (hb hby at_75) (by decide) (by decide) ?_
          show Steps p.tables e below (T8.setTop (mkF m 79 #[.val (.int i0), .val (.int i1), .val (.int i2), .val (.ref a_NONE), .val (.int (0 : Int32)), .val (.int (0 : Int32)), .val (.int (0 : Int32)), .val (.int (1 : Int32)), .unset, .unset] [(.int (1 : Int32))])) _
          refine XS.istore X8.here hx rfl (hb hby at_79) rfl (l' := #[.val (.int i0), .val (.int i1), .val (.int i2), .val (.ref a_NONE), .val (.int (0 : Int32)), .val (.int (0 : Int32)), .val (.int (0 : Int32)), .val (.int (1 : Int32)), .val (.int (1 : Int32)), .unset]) rfl ?_
          show Steps p.tables e below (T8.setTop (mkF m 81 #[.val (.int i0), .val (.int i1), .val (.int i2), .val (.ref a_NONE), .val (.int (0 : Int32)), .val (.int (0 : Int32)), .val (.int (0 : Int32)), .val (.int (1 : Int32)), .val (.int (1 : Int32)), .unset] [])) _
          refine XS.aloadN X8.here hx rfl (hb hby at_81) rfl rfl ?_
          show Steps p.tables e below (T8.setTop (mkF m 82 #[.val (.int i0), .val (.int i1), .val (.int i2), .val (.ref a_NONE), .val (.int (0 : Int32)), .val (.int (0 : Int32)), .val (.int (0 : Int32)), .val (.int (1 : Int32)), .val (.int (1 : Int32)), .unset] [(.ref a_NONE)])) _
          refine XS.iload X8.here hx rfl (hb hby at_82) rfl ?_
          show Steps p.tables e below (T8.setTop (mkF m 84 #[.val (.int i0), .val (.int i1), .val (.int i2), .val (.ref a_NONE), .val (.int (0 : Int32)), .val (.int (0 : Int32)), .val (.int (0 : Int32)), .val (.int (1 : Int32)), .val (.int (1 : Int32)), .unset] [(.int (0 : Int32)), (.ref a_NONE)])) _
          refine st9.trans ?_
          show Steps p.tables e below (T9.setTop (mkF m 87 #[.val (.int i0), .val (.int i1), .val (.int i2), .val (.ref a_NONE), .val (.int (0 : Int32)), .val (.int (0 : Int32)), .val (.int (0 : Int32)), .val (.int (1 : Int32)), .val (.int (1 : Int32)), .unset] [(.ref a_NONE)])) _
          refine st10.trans ?_
          show Steps p.tables e below (T10.setTop (mkF m 90 #[.val (.int i0), .val (.int i1), .val (.int i2), .val (.ref a_NONE), .val (.int (0 : Int32)), .val (.int (0 : Int32)), .val (.int (0 : Int32)), .val (.int (1 : Int32)), .val (.int (1 : Int32)), .unset] [(.int (0 : Int32))])) _
          refine XS.iload X10.here hx rfl (hb hby at_90) rfl ?_
          show Steps p.tables e below (T10.setTop (mkF m 92 #[.val (.int i0), .val (.int i1), .val (.int i2), .val (.ref a_NONE), .val (.int (0 : Int32)), .val (.int (0 : Int32)), .val (.int (0 : Int32)), .val (.int (1 : Int32)), .val (.int (1 : Int32)), .unset] [(.int (0 : Int32)), (.int (0 : Int32))])) _
          refine XS.icmpNo X10.here hx rfl (hb hby at_92) rfl (by decide) ?_
          show Steps p.tables e below (T10.setTop (mkF m 95 #[.val (.int i0), .val (.int i1), .val (.int i2), .val (.ref a_NONE), .val (.int (0 : Int32)), .val (.int (0 : Int32)), .val (.int (0 : Int32)), .val (.int (1 : Int32)), .val (.int (1 : Int32)), .unset] [])) _
          refine XS.iconst X10.here hx rfl (hb hby at_95) ?_
          show Steps p.tables e below (T10.setTop (mkF m 96 #[.val (.int i0), .val (.int i1), .val (.int i2), .val (.ref a_NONE), .val (.int (0 : Int32)), .val (.int (0 : Int32)), .val (.int (0 : Int32)), .val (.int (1 : Int32)), .val (.int (1 : Int32)), .unset] [(.int (1 : Int32))])) _
          refine XS.goto X10.here hx rfl (pc0 := 96) (pc' := 100) rfl (hb hby at_96) (by decide) (by decide) ?_
          show Steps p.tables e below (T10.setTop (mkF m 100 #[.val (.int i0), .val (.int i1), .val (.int i2), .val (.ref a_NONE), .val (.int (0 : Int32)), .val (.int (0 : Int32)), .val (.int (0 : Int32)), .val (.int (1 : Int32)), .val (.int (1 : Int32)), .unset] [(.int (1 : Int32))])) _
          refine XS.istore X10.here hx rfl (hb hby at_100) rfl (l' := #[.val (.int i0), .val (.int i1), .val (.int i2), .val (.ref a_NONE), .val (.int (0 : Int32)), .val (.int (0 : Int32)), .val (.int (0 : Int32)), .val (.int (1 : Int32)), .val (.int (1 : Int32)), .val (.int (1 : Int32))]) rfl ?_
          show Steps p.tables e below (T10.setTop (mkF m 102 #[.val (.int i0), .val (.int i1), .val (.int i2), .val (.ref a_NONE), .val (.int (0 : Int32)), .val (.int (0 : Int32)), .val (.int (0 : Int32)), .val (.int (1 : Int32)), .val (.int (1 : Int32)), .val (.int (1 : Int32))] [])) _
          refine XS.iload X10.here hx rfl (hb hby at_102) rfl ?_
          show Steps p.tables e below (T10.setTop (mkF m 104 #[.val (.int i0), .val (.int i1), .val (.int i2), .val (.ref a_NONE), .val (.int (0 : Int32)), .val (.int (0 : Int32)), .val (.int (0 : Int32)), .val (.int (1 : Int32)), .val (.int (1 : Int32)), .val (.int (1 : Int32))] [(.int (1 : Int32))])) _
          refine XS.ifNo X10.here hx rfl (hb hby at_104) rfl (by decide) ?_
          show Steps p.tables e below (T10.setTop (mkF m 107 #[.val (.int i0), .val (.int i1), .val (.int i2), .val (.ref a_NONE), .val (.int (0 : Int32)), .val (.int (0 : Int32)), .val (.int (0 : Int32)), .val (.int (1 : Int32)), .val (.int (1 : Int32)), .val (.int (1 : Int32))] [])) _
          refine XS.iload X10.here hx rfl (hb hby at_107) rfl ?_
          show Steps p.tables e below (T10.setTop (mkF m 109 #[.val (.int i0), .val (.int i1), .val (.int i2), .val (.ref a_NONE), .val (.int (0 : Int32)), .val (.int (0 : Int32)), .val (.int (0 : Int32)), .val (.int (1 : Int32)), .val (.int (1 : Int32)), .val (.int (1 : Int32))] [(.int (1 : Int32))])) _
          refine XS.ifNo X10.here hx rfl (hb hby at_109) rfl (by decide) ?_
          show Steps p.tables e below (T10.setTop (mkF m 112 #[.val (.int i0), .val (.int i1), .val (.int i2), .val (.ref a_NONE), .val (.int (0 : Int32)), .val (.int (0 : Int32)), .val (.int (0 : Int32)), .val (.int (1 : Int32)), .val (.int (1 : Int32)), .val (.int (1 : Int32))] [])) _
          refine XS.iload X10.here hx rfl (hb hby at_112) rfl ?_
          show Steps p.tables e below (T10.setTop (mkF m 114 #[.val (.int i0), .val (.int i1), .val (.int i2), .val (.ref a_NONE), .val (.int (0 : Int32)), .val (.int (0 : Int32)), .val (.int (0 : Int32)), .val (.int (1 : Int32)), .val (.int (1 : Int32)), .val (.int (1 : Int32))] [(.int (1 : Int32))])) _
          refine XS.ifNo X10.here hx rfl (hb hby at_114) rfl (by decide) ?_
          show Steps p.tables e below (T10.setTop (mkF m 117 #[.val (.int i0), .val (.int i1), .val (.int i2), .val (.ref a_NONE), .val (.int (0 : Int32)), .val (.int (0 : Int32)), .val (.int (0 : Int32)), .val (.int (1 : Int32)), .val (.int (1 : Int32)), .val (.int (1 : Int32))] [])) _
          refine XS.iconst X10.here hx rfl (hb hby at_117) ?_
          show Steps p.tables e below (T10.setTop (mkF m 118 #[.val (.int i0), .val (.int i1), .val (.int i2), .val (.ref a_NONE), .val (.int (0 : Int32)), .val (.int (0 : Int32)), .val (.int (0 : Int32)), .val (.int (1 : Int32)), .val (.int (1 : Int32)), .val (.int (1 : Int32))] [(.int (1 : Int32))])) _
          refine XS.goto X10.here hx rfl (pc0 := 118) (pc' := 122) rfl (hb hby at_118) (by decide) (by decide) ?_
          show Steps p.tables e below (T10.setTop (mkF m 122 #[.val (.int i0), .val (.int i1), .val (.int i2), .val (.ref a_NONE), .val (.int (0 : Int32)), .val (.int (0 : Int32)), .val (.int (0 : Int32)), .val (.int (1 : Int32)), .val (.int (1 : Int32)), .val (.int (1 : Int32))] [(.int (1 : Int32))])) _
          exact retN X10 hx (t := .boolean) Bd.returns (by simp) (hb hby at_122) hr
        · show QL n0 _ T10.heap _
          rw [hh10]
          exact ⟨rfl, N10⟩
      · skip
        obtain ⟨cq11, kq11, q11a, q11b, q11c⟩ := isOf hZ hh1 (Exa.ext O0.2 X_a_NONE)
        obtain ⟨_, _, ⟨T11, L11, k11, n11⟩, -, X11, ⟨Lc11, hQ11, l11, y11, z11⟩, st11⟩ := X1.virtualBack hx (y := (⟨"com/example/carbonfold/carbonfold/model/RosterItem$Subscription", "hasFrom", "()Z"⟩ : MethodName)) (z := (⟨"com/example/carbonfold/carbonfold/model/RosterItem$Subscription", "hasFrom", "()Z"⟩ : MethodName)) hown (mvT hZ (hw _ (List.mem_of_getElem? (i := 7) rfl))) (mvT hZ (hw _ (List.mem_of_getElem? (i := 8) rfl))) (notFace_of_selects (args := #[]) (mvT hZ (hw _ (List.mem_of_getElem? (i := 10) rfl)))) (mvT hZ (hw _ (List.mem_of_getElem? (i := 10) rfl))) (mvT hZ (hw _ (List.mem_of_getElem? (i := 9) rfl))) (by decide) (backOf (W := 0) (rm_hasFrom_1 l Z a0 hw [] a_NONE a_FROM a_BOTH a_TO h0 n0 O0 En) hZ (hw _ (List.mem_of_getElem? (i := 11) rfl)) (hw _ (List.mem_of_getElem? (i := 5) rfl)) (by decide) (by decide)) q11a q11c (g := (mkF m 45 #[.val (.int i0), .val (.int i1), .val (.int i2), .val (.ref a_NONE), .val (.int (0 : Int32)), .val (.int (0 : Int32)), .val (.int (1 : Int32)), .unset, .unset, .unset] [(.ref a_NONE)])) rfl (by rw [hml]; rfl) (Steps.refl _) (argsL := []) (rest := []) (lenOf pd_1 rfl) rfl (by show 2 * 0 + _ ≤ _; exact Nat.le_of_eq rfl) (hb hby at_45) (fun _ _ => ⟨rfl, hh1, (by decide : 0 + 0 ≤ _), (by decide : 0 + 0 ≤ _)⟩)
        dsimp only [Pt.U, Pt.locs, Pt.cells, Pt.slots] at X11 l11 y11 z11 st11 hQ11
        subst l11 y11 z11
        obtain ⟨rfl, N11q, hh11⟩ := hQ11
        have N11 := Fr.app N1 N11q
        obtain ⟨cq12, kq12, q12a, q12b, q12c⟩ := isOf hZ hh11 (Exa.ext O0.2 X_a_NONE)
        obtain ⟨_, _, ⟨T12, L12, k12, n12⟩, -, X12, ⟨Lc12, hQ12, l12, y12, z12⟩, st12⟩ := X11.virtualBack hx (y := (⟨"com/example/carbonfold/carbonfold/model/RosterItem$Subscription", "withFrom", "(Z)Lcom/example/carbonfold/carbonfold/model/RosterItem$Subscription;"⟩ : MethodName)) (z := (⟨"com/example/carbonfold/carbonfold/model/RosterItem$Subscription", "withFrom", "(Z)Lcom/example/carbonfold/carbonfold/model/RosterItem$Subscription;"⟩ : MethodName)) hown (mvT hZ (hw _ (List.mem_of_getElem? (i := 16) rfl))) (mvT hZ (hw _ (List.mem_of_getElem? (i := 17) rfl))) (notFace_of_selects (args := #[]) (mvT hZ (hw _ (List.mem_of_getElem? (i := 19) rfl)))) (mvT hZ (hw _ (List.mem_of_getElem? (i := 19) rfl))) (mvT hZ (hw _ (List.mem_of_getElem? (i := 18) rfl))) (by decide) (backOf (W := 0) (rm_withFrom_2 l Z a0 hw [] a_NONE a_FROM a_BOTH a_TO h0 n0 O0 En) hZ (hw _ (List.mem_of_getElem? (i := 20) rfl)) (hw _ (List.mem_of_getElem? (i := 5) rfl)) (by decide) (by decide)) q12a q12c (g := (mkF m 63 #[.val (.int i0), .val (.int i1), .val (.int i2), .val (.ref a_NONE), .val (.int (0 : Int32)), .val (.int (0 : Int32)), .val (.int (1 : Int32)), .val (.int (1 : Int32)), .unset, .unset] [(.int (0 : Int32)), (.ref a_NONE)])) rfl (by rw [hml]; rfl) (Steps.refl _) (argsL := [(.int (0 : Int32))]) (rest := []) (lenOf pd_3 rfl) rfl (by show 2 * 0 + _ ≤ _; exact Nat.le_of_eq rfl) (hb hby at_63) (fun _ _ => ⟨rfl, hh11, (by decide : 0 + 0 ≤ _), (by decide : 0 + 0 ≤ _)⟩)
        dsimp only [Pt.U, Pt.locs, Pt.cells, Pt.slots] at X12 l12 y12 z12 st12 hQ12
        subst l12 y12 z12
        obtain ⟨rfl, N12q, hh12⟩ := hQ12
        have N12 := Fr.app N11 N12q
        obtain ⟨cq13, kq13, q13a, q13b, q13c⟩ := isOf hZ hh12 (Exa.ext O0.2 X_a_NONE)
        obtain ⟨_, _, ⟨T13, L13, k13, n13⟩, -, X13, ⟨Lc13, hQ13, l13, y13, z13⟩, st13⟩ := X12.virtualBack hx (y := (⟨"com/example/carbonfold/carbonfold/model/RosterItem$Subscription", "hasFrom", "()Z"⟩ : MethodName)) (z := (⟨"com/example/carbonfold/carbonfold/model/RosterItem$Subscription", "hasFrom", "()Z"⟩ : MethodName)) hown (mvT hZ (hw _ (List.mem_of_getElem? (i := 7) rfl))) (mvT hZ (hw _ (List.mem_of_getElem? (i := 8) rfl))) (notFace_of_selects (args := #[]) (mvT hZ (hw _ (List.mem_of_getElem? (i := 10) rfl)))) (mvT hZ (hw _ (List.mem_of_getElem? (i := 10) rfl))) (mvT hZ (hw _ (List.mem_of_getElem? (i := 9) rfl))) (by decide) (backOf (W := 0) (rm_hasFrom_1 l Z a0 hw [] a_NONE a_FROM a_BOTH a_TO h0 n0 O0 En) hZ (hw _ (List.mem_of_getElem? (i := 11) rfl)) (hw _ (List.mem_of_getElem? (i := 5) rfl)) (by decide) (by decide)) q13a q13c (g := (mkF m 66 #[.val (.int i0), .val (.int i1), .val (.int i2), .val (.ref a_NONE), .val (.int (0 : Int32)), .val (.int (0 : Int32)), .val (.int (1 : Int32)), .val (.int (1 : Int32)), .unset, .unset] [(.ref a_NONE)])) rfl (by rw [hml]; rfl) (Steps.refl _) (argsL := []) (rest := []) (lenOf pd_1 rfl) rfl (by show 2 * 0 + _ ≤ _; exact Nat.le_of_eq rfl) (hb hby at_66) (fun _ _ => ⟨rfl, hh12, (by decide : 0 + 0 ≤ _), (by decide : 0 + 0 ≤ _)⟩)
        dsimp only [Pt.U, Pt.locs, Pt.cells, Pt.slots] at X13 l13 y13 z13 st13 hQ13
        subst l13 y13 z13
        obtain ⟨rfl, N13q, hh13⟩ := hQ13
        have N13 := Fr.app N12 N13q
        obtain ⟨cq14, kq14, q14a, q14b, q14c⟩ := isOf hZ hh13 (Exa.ext O0.2 X_a_NONE)
        obtain ⟨_, _, ⟨T14, L14, k14, n14⟩, -, X14, ⟨Lc14, hQ14, l14, y14, z14⟩, st14⟩ := X13.virtualBack hx (y := (⟨"com/example/carbonfold/carbonfold/model/RosterItem$Subscription", "withTo", "(Z)Lcom/example/carbonfold/carbonfold/model/RosterItem$Subscription;"⟩ : MethodName)) (z := (⟨"com/example/carbonfold/carbonfold/model/RosterItem$Subscription", "withTo", "(Z)Lcom/example/carbonfold/carbonfold/model/RosterItem$Subscription;"⟩ : MethodName)) hown (mvT hZ (hw _ (List.mem_of_getElem? (i := 31) rfl))) (mvT hZ (hw _ (List.mem_of_getElem? (i := 32) rfl))) (notFace_of_selects (args := #[]) (mvT hZ (hw _ (List.mem_of_getElem? (i := 34) rfl)))) (mvT hZ (hw _ (List.mem_of_getElem? (i := 34) rfl))) (mvT hZ (hw _ (List.mem_of_getElem? (i := 33) rfl))) (by decide) (backOf (W := 0) (rm_withTo_6 l Z a0 hw [] a_NONE a_FROM a_BOTH a_TO h0 n0 O0 En) hZ (hw _ (List.mem_of_getElem? (i := 35) rfl)) (hw _ (List.mem_of_getElem? (i := 5) rfl)) (by decide) (by decide)) q14a q14c (g := (mkF m 84 #[.val (.int i0), .val (.int i1), .val (.int i2), .val (.ref a_NONE), .val (.int (0 : Int32)), .val (.int (0 : Int32)), .val (.int (1 : Int32)), .val (.int (1 : Int32)), .val (.int (1 : Int32)), .unset] [(.int (1 : Int32)), (.ref a_NONE)])) rfl (by rw [hml]; rfl) (Steps.refl _) (argsL := [(.int (1 : Int32))]) (rest := []) (lenOf pd_3 rfl) rfl (by show 2 * 0 + _ ≤ _; exact Nat.le_of_eq rfl) (hb hby at_84) (fun _ _ => ⟨rfl, hh13, (by decide : 0 + 0 ≤ _), (by decide : 0 + 0 ≤ _)⟩)
        dsimp only [Pt.U, Pt.locs, Pt.cells, Pt.slots] at X14 l14 y14 z14 st14 hQ14
        subst l14 y14 z14
        obtain ⟨rfl, N14q, hh14⟩ := hQ14
        have N14 := Fr.app N13 N14q
        obtain ⟨cq15, kq15, q15a, q15b, q15c⟩ := isOf hZ hh14 (Exa.ext O0.2 X_a_TO)
        obtain ⟨_, _, ⟨T15, L15, k15, n15⟩, -, X15, ⟨Lc15, hQ15, l15, y15, z15⟩, st15⟩ := X14.virtualBack hx (y := (⟨"com/example/carbonfold/carbonfold/model/RosterItem$Subscription", "hasFrom", "()Z"⟩ : MethodName)) (z := (⟨"com/example/carbonfold/carbonfold/model/RosterItem$Subscription", "hasFrom", "()Z"⟩ : MethodName)) hown (mvT hZ (hw _ (List.mem_of_getElem? (i := 7) rfl))) (mvT hZ (hw _ (List.mem_of_getElem? (i := 8) rfl))) (notFace_of_selects (args := #[]) (mvT hZ (hw _ (List.mem_of_getElem? (i := 10) rfl)))) (mvT hZ (hw _ (List.mem_of_getElem? (i := 10) rfl))) (mvT hZ (hw _ (List.mem_of_getElem? (i := 9) rfl))) (by decide) (backOf (W := 0) (rm_hasFrom_8 l Z a0 hw [] a_NONE a_FROM a_BOTH a_TO h0 n0 O0 En) hZ (hw _ (List.mem_of_getElem? (i := 11) rfl)) (hw _ (List.mem_of_getElem? (i := 5) rfl)) (by decide) (by decide)) q15a q15c (g := (mkF m 87 #[.val (.int i0), .val (.int i1), .val (.int i2), .val (.ref a_NONE), .val (.int (0 : Int32)), .val (.int (0 : Int32)), .val (.int (1 : Int32)), .val (.int (1 : Int32)), .val (.int (1 : Int32)), .unset] [(.ref a_TO)])) rfl (by rw [hml]; rfl) (Steps.refl _) (argsL := []) (rest := []) (lenOf pd_1 rfl) rfl (by show 2 * 0 + _ ≤ _; exact Nat.le_of_eq rfl) (hb hby at_87) (fun _ _ => ⟨rfl, hh14, (by decide : 0 + 0 ≤ _), (by decide : 0 + 0 ≤ _)⟩)
        dsimp only [Pt.U, Pt.locs, Pt.cells, Pt.slots] at X15 l15 y15 z15 st15 hQ15
        subst l15 y15 z15
        obtain ⟨rfl, N15q, hh15⟩ := hQ15
        have N15 := Fr.app N14 N15q
        obtain ⟨fs, hr, hrun, hended, hW, hsame⟩ := X15.leave (v := some (.int (1 : Int32))) (fun h => by rw [Bd.returns] at h; cases h)
        refine ⟨_, _, pre4 _ ?_, hrun, hended, _, _, rfl, ?_, ⟨_, rfl⟩, hW, hsame.mono (by decide) (by decide)⟩
        · skip
          show Steps p.tables e below (T1.setTop (mkF m 34 #[.val (.int i0), .val (.int i1), .val (.int i2), .val (.ref a_NONE), .val (.int (0 : Int32)), .val (.int (0 : Int32)), .unset, .unset, .unset, .unset] [(.int (i2 &&& (1 : Int32)))])) _
          rw [hk5]
          show Steps p.tables e below (T1.setTop (mkF m 34 #[.val (.int i0), .val (.int i1), .val (.int i2), .val (.ref a_NONE), .val (.int (0 : Int32)), .val (.int (0 : Int32)), .unset, .unset, .unset, .unset] [(.int (1 : Int32))])) _
          refine XS.ifNo X1.here hx rfl (hb hby at_34) rfl (by decide) ?_
          show Steps p.tables e below (T1.setTop (mkF m 37 #[.val (.int i0), .val (.int i1), .val (.int i2), .val (.ref a_NONE), .val (.int (0 : Int32)), .val (.int (0 : Int32)), .unset, .unset, .unset, .unset] [])) _
          refine XS.iconst X1.here hx rfl (hb hby at_37) ?_
          show Steps p.tables e below (T1.setTop (mkF m 38 #[.val (.int i0), .val (.int i1), .val (.int i2), .val (.ref a_NONE), .val (.int (0 : Int32)), .val (.int (0 : Int32)), .unset, .unset, .unset, .unset] [(.int (1 : Int32))])) _
          refine XS.goto X1.here hx rfl (pc0 := 38) (pc' := 42) rfl (hb hby at_38) (by decide) (by decide) ?_
          show Steps p.tables e below (T1.setTop (mkF m 42 #[.val (.int i0), .val (.int i1), .val (.int i2), .val (.ref a_NONE), .val (.int (0 : Int32)), .val (.int (0 : Int32)), .unset, .unset, .unset, .unset] [(.int (1 : Int32))])) _
          refine XS.istore X1.here hx rfl (hb hby at_42) rfl (l' := #[.val (.int i0), .val (.int i1), .val (.int i2), .val (.ref a_NONE), .val (.int (0 : Int32)), .val (.int (0 : Int32)), .val (.int (1 : Int32)), .unset, .unset, .unset]) rfl ?_
          show Steps p.tables e below (T1.setTop (mkF m 44 #[.val (.int i0), .val (.int i1), .val (.int i2), .val (.ref a_NONE), .val (.int (0 : Int32)), .val (.int (0 : Int32)), .val (.int (1 : Int32)), .unset, .unset, .unset] [])) _
          refine XS.aloadN X1.here hx rfl (hb hby at_44) rfl rfl ?_
          show Steps p.tables e below (T1.setTop (mkF m 45 #[.val (.int i0), .val (.int i1), .val (.int i2), .val (.ref a_NONE), .val (.int (0 : Int32)), .val (.int (0 : Int32)), .val (.int (1 : Int32)), .unset, .unset, .unset] [(.ref a_NONE)])) _
          refine st11.trans ?_
          show Steps p.tables e below (T11.setTop (mkF m 48 #[.val (.int i0), .val (.int i1), .val (.int i2), .val (.ref a_NONE), .val (.int (0 : Int32)), .val (.int (0 : Int32)), .val (.int (1 : Int32)), .unset, .unset, .unset] [(.int (0 : Int32))])) _
          refine XS.iload X11.here hx rfl (hb hby at_48) rfl ?_
          show Steps p.tables e below (T11.setTop (mkF m 50 #[.val (.int i0), .val (.int i1), .val (.int i2), .val (.ref a_NONE), .val (.int (0 : Int32)), .val (.int (0 : Int32)), .val (.int (1 : Int32)), .unset, .unset, .unset] [(.int (0 : Int32)), (.int (0 : Int32))])) _
          refine XS.icmpNo X11.here hx rfl (hb hby at_50) rfl (by decide) ?_
          show Steps p.tables e below (T11.setTop (mkF m 53 #[.val (.int i0), .val (.int i1), .val (.int i2), .val (.ref a_NONE), .val (.int (0 : Int32)), .val (.int (0 : Int32)), .val (.int (1 : Int32)), .unset, .unset, .unset] [])) _
          refine XS.iconst X11.here hx rfl (hb hby at_53) ?_
          show Steps p.tables e below (T11.setTop (mkF m 54 #[.val (.int i0), .val (.int i1), .val (.int i2), .val (.ref a_NONE), .val (.int (0 : Int32)), .val (.int (0 : Int32)), .val (.int (1 : Int32)), .unset, .unset, .unset] [(.int (1 : Int32))])) _
          refine XS.goto X11.here hx rfl (pc0 := 54) (pc' := 58) rfl (hb hby at_54) (by decide) (by decide) ?_
          show Steps p.tables e below (T11.setTop (mkF m 58 #[.val (.int i0), .val (.int i1), .val (.int i2), .val (.ref a_NONE), .val (.int (0 : Int32)), .val (.int (0 : Int32)), .val (.int (1 : Int32)), .unset, .unset, .unset] [(.int (1 : Int32))])) _
          refine XS.istore X11.here hx rfl (hb hby at_58) rfl (l' := #[.val (.int i0), .val (.int i1), .val (.int i2), .val (.ref a_NONE), .val (.int (0 : Int32)), .val (.int (0 : Int32)), .val (.int (1 : Int32)), .val (.int (1 : Int32)), .unset, .unset]) rfl ?_
          show Steps p.tables e below (T11.setTop (mkF m 60 #[.val (.int i0), .val (.int i1), .val (.int i2), .val (.ref a_NONE), .val (.int (0 : Int32)), .val (.int (0 : Int32)), .val (.int (1 : Int32)), .val (.int (1 : Int32)), .unset, .unset] [])) _
          refine XS.aloadN X11.here hx rfl (hb hby at_60) rfl rfl ?_
          show Steps p.tables e below (T11.setTop (mkF m 61 #[.val (.int i0), .val (.int i1), .val (.int i2), .val (.ref a_NONE), .val (.int (0 : Int32)), .val (.int (0 : Int32)), .val (.int (1 : Int32)), .val (.int (1 : Int32)), .unset, .unset] [(.ref a_NONE)])) _
          refine XS.iload X11.here hx rfl (hb hby at_61) rfl ?_
          show Steps p.tables e below (T11.setTop (mkF m 63 #[.val (.int i0), .val (.int i1), .val (.int i2), .val (.ref a_NONE), .val (.int (0 : Int32)), .val (.int (0 : Int32)), .val (.int (1 : Int32)), .val (.int (1 : Int32)), .unset, .unset] [(.int (0 : Int32)), (.ref a_NONE)])) _
          refine st12.trans ?_
          show Steps p.tables e below (T12.setTop (mkF m 66 #[.val (.int i0), .val (.int i1), .val (.int i2), .val (.ref a_NONE), .val (.int (0 : Int32)), .val (.int (0 : Int32)), .val (.int (1 : Int32)), .val (.int (1 : Int32)), .unset, .unset] [(.ref a_NONE)])) _
          refine st13.trans ?_
          show Steps p.tables e below (T13.setTop (mkF m 69 #[.val (.int i0), .val (.int i1), .val (.int i2), .val (.ref a_NONE), .val (.int (0 : Int32)), .val (.int (0 : Int32)), .val (.int (1 : Int32)), .val (.int (1 : Int32)), .unset, .unset] [(.int (0 : Int32))])) _
          refine XS.iload X13.here hx rfl (hb hby at_69) rfl ?_
          show Steps p.tables e below (T13.setTop (mkF m 71 #[.val (.int i0), .val (.int i1), .val (.int i2), .val (.ref a_NONE), .val (.int (0 : Int32)), .val (.int (0 : Int32)), .val (.int (1 : Int32)), .val (.int (1 : Int32)), .unset, .unset] [(.int (0 : Int32)), (.int (0 : Int32))])) _
          refine XS.icmpNo X13.here hx rfl (hb hby at_71) rfl (by decide) ?_
          show Steps p.tables e below (T13.setTop (mkF m 74 #[.val (.int i0), .val (.int i1), .val (.int i2), .val (.ref a_NONE), .val (.int (0 : Int32)), .val (.int (0 : Int32)), .val (.int (1 : Int32)), .val (.int (1 : Int32)), .unset, .unset] [])) _
          refine XS.iconst X13.here hx rfl (hb hby at_74) ?_
          show Steps p.tables e below (T13.setTop (mkF m 75 #[.val (.int i0), .val (.int i1), .val (.int i2), .val (.ref a_NONE), .val (.int (0 : Int32)), .val (.int (0 : Int32)), .val (.int (1 : Int32)), .val (.int (1 : Int32)), .unset, .unset] [(.int (1 : Int32))])) _
          refine XS.goto X13.here hx rfl (pc0 := 75) (pc' := 79) rfl (hb hby at_75) (by decide) (by decide) ?_
          show Steps p.tables e below (T13.setTop (mkF m 79 #[.val (.int i0), .val (.int i1), .val (.int i2), .val (.ref a_NONE), .val (.int (0 : Int32)), .val (.int (0 : Int32)), .val (.int (1 : Int32)), .val (.int (1 : Int32)), .unset, .unset] [(.int (1 : Int32))])) _
          refine XS.istore X13.here hx rfl (hb hby at_79) rfl (l' := #[.val (.int i0), .val (.int i1), .val (.int i2), .val (.ref a_NONE), .val (.int (0 : Int32)), .val (.int (0 : Int32)), .val (.int (1 : Int32)), .val (.int (1 : Int32)), .val (.int (1 : Int32)), .unset]) rfl ?_
          show Steps p.tables e below (T13.setTop (mkF m 81 #[.val (.int i0), .val (.int i1), .val (.int i2), .val (.ref a_NONE), .val (.int (0 : Int32)), .val (.int (0 : Int32)), .val (.int (1 : Int32)), .val (.int (1 : Int32)), .val (.int (1 : Int32)), .unset] [])) _
          refine XS.aloadN X13.here hx rfl (hb hby at_81) rfl rfl ?_
          show Steps p.tables e below (T13.setTop (mkF m 82 #[.val (.int i0), .val (.int i1), .val (.int i2), .val (.ref a_NONE), .val (.int (0 : Int32)), .val (.int (0 : Int32)), .val (.int (1 : Int32)), .val (.int (1 : Int32)), .val (.int (1 : Int32)), .unset] [(.ref a_NONE)])) _
          refine XS.iload X13.here hx rfl (hb hby at_82) rfl ?_
          show Steps p.tables e below (T13.setTop (mkF m 84 #[.val (.int i0), .val (.int i1), .val (.int i2), .val (.ref a_NONE), .val (.int (0 : Int32)), .val (.int (0 : Int32)), .val (.int (1 : Int32)), .val (.int (1 : Int32)), .val (.int (1 : Int32)), .unset] [(.int (1 : Int32)), (.ref a_NONE)])) _
          refine st14.trans ?_
          show Steps p.tables e below (T14.setTop (mkF m 87 #[.val (.int i0), .val (.int i1), .val (.int i2), .val (.ref a_NONE), .val (.int (0 : Int32)), .val (.int (0 : Int32)), .val (.int (1 : Int32)), .val (.int (1 : Int32)), .val (.int (1 : Int32)), .unset] [(.ref a_TO)])) _
          refine st15.trans ?_
          show Steps p.tables e below (T15.setTop (mkF m 90 #[.val (.int i0), .val (.int i1), .val (.int i2), .val (.ref a_NONE), .val (.int (0 : Int32)), .val (.int (0 : Int32)), .val (.int (1 : Int32)), .val (.int (1 : Int32)), .val (.int (1 : Int32)), .unset] [(.int (0 : Int32))])) _
          refine XS.iload X15.here hx rfl (hb hby at_90) rfl ?_
          show Steps p.tables e below (T15.setTop (mkF m 92 #[.val (.int i0), .val (.int i1), .val (.int i2), .val (.ref a_NONE), .val (.int (0 : Int32)), .val (.int (0 : Int32)), .val (.int (1 : Int32)), .val (.int (1 : Int32)), .val (.int (1 : Int32)), .unset] [(.int (0 : Int32)), (.int (0 : Int32))])) _
          refine XS.icmpNo X15.here hx rfl (hb hby at_92) rfl (by decide) ?_
          show Steps p.tables e below (T15.setTop (mkF m 95 #[.val (.int i0), .val (.int i1), .val (.int i2), .val (.ref a_NONE), .val (.int (0 : Int32)), .val (.int (0 : Int32)), .val (.int (1 : Int32)), .val (.int (1 : Int32)), .val (.int (1 : Int32)), .unset] [])) _
          refine XS.iconst X15.here hx rfl (hb hby at_95) ?_
          show Steps p.tables e below (T15.setTop (mkF m 96 #[.val (.int i0), .val (.int i1), .val (.int i2), .val (.ref a_NONE), .val (.int (0 : Int32)), .val (.int (0 : Int32)), .val (.int (1 : Int32)), .val (.int (1 : Int32)), .val (.int (1 : Int32)), .unset] [(.int (1 : Int32))])) _
          refine XS.goto X15.here hx rfl (pc0 := 96) (pc' := 100) rfl (hb hby at_96) (by decide) (by decide) ?_
          show Steps p.tables e below (T15.setTop (mkF m 100 #[.val (.int i0), .val (.int i1), .val (.int i2), .val (.ref a_NONE), .val (.int (0 : Int32)), .val (.int (0 : Int32)), .val (.int (1 : Int32)), .val (.int (1 : Int32)), .val (.int (1 : Int32)), .unset] [(.int (1 : Int32))])) _
          refine XS.istore X15.here hx rfl (hb hby at_100) rfl (l' := #[.val (.int i0), .val (.int i1), .val (.int i2), .val (.ref a_NONE), .val (.int (0 : Int32)), .val (.int (0 : Int32)), .val (.int (1 : Int32)), .val (.int (1 : Int32)), .val (.int (1 : Int32)), .val (.int (1 : Int32))]) rfl ?_
          show Steps p.tables e below (T15.setTop (mkF m 102 #[.val (.int i0), .val (.int i1), .val (.int i2), .val (.ref a_NONE), .val (.int (0 : Int32)), .val (.int (0 : Int32)), .val (.int (1 : Int32)), .val (.int (1 : Int32)), .val (.int (1 : Int32)), .val (.int (1 : Int32))] [])) _
          refine XS.iload X15.here hx rfl (hb hby at_102) rfl ?_
          show Steps p.tables e below (T15.setTop (mkF m 104 #[.val (.int i0), .val (.int i1), .val (.int i2), .val (.ref a_NONE), .val (.int (0 : Int32)), .val (.int (0 : Int32)), .val (.int (1 : Int32)), .val (.int (1 : Int32)), .val (.int (1 : Int32)), .val (.int (1 : Int32))] [(.int (1 : Int32))])) _
          refine XS.ifNo X15.here hx rfl (hb hby at_104) rfl (by decide) ?_
          show Steps p.tables e below (T15.setTop (mkF m 107 #[.val (.int i0), .val (.int i1), .val (.int i2), .val (.ref a_NONE), .val (.int (0 : Int32)), .val (.int (0 : Int32)), .val (.int (1 : Int32)), .val (.int (1 : Int32)), .val (.int (1 : Int32)), .val (.int (1 : Int32))] [])) _
          refine XS.iload X15.here hx rfl (hb hby at_107) rfl ?_
          show Steps p.tables e below (T15.setTop (mkF m 109 #[.val (.int i0), .val (.int i1), .val (.int i2), .val (.ref a_NONE), .val (.int (0 : Int32)), .val (.int (0 : Int32)), .val (.int (1 : Int32)), .val (.int (1 : Int32)), .val (.int (1 : Int32)), .val (.int (1 : Int32))] [(.int (1 : Int32))])) _
          refine XS.ifNo X15.here hx rfl (hb hby at_109) rfl (by decide) ?_
          show Steps p.tables e below (T15.setTop (mkF m 112 #[.val (.int i0), .val (.int i1), .val (.int i2), .val (.ref a_NONE), .val (.int (0 : Int32)), .val (.int (0 : Int32)), .val (.int (1 : Int32)), .val (.int (1 : Int32)), .val (.int (1 : Int32)), .val (.int (1 : Int32))] [])) _
          refine XS.iload X15.here hx rfl (hb hby at_112) rfl ?_
          show Steps p.tables e below (T15.setTop (mkF m 114 #[.val (.int i0), .val (.int i1), .val (.int i2), .val (.ref a_NONE), .val (.int (0 : Int32)), .val (.int (0 : Int32)), .val (.int (1 : Int32)), .val (.int (1 : Int32)), .val (.int (1 : Int32)), .val (.int (1 : Int32))] [(.int (1 : Int32))])) _
          refine XS.ifNo X15.here hx rfl (hb hby at_114) rfl (by decide) ?_
          show Steps p.tables e below (T15.setTop (mkF m 117 #[.val (.int i0), .val (.int i1), .val (.int i2), .val (.ref a_NONE), .val (.int (0 : Int32)), .val (.int (0 : Int32)), .val (.int (1 : Int32)), .val (.int (1 : Int32)), .val (.int (1 : Int32)), .val (.int (1 : Int32))] [])) _
          refine XS.iconst X15.here hx rfl (hb hby at_117) ?_
          show Steps p.tables e below (T15.setTop (mkF m 118 #[.val (.int i0), .val (.int i1), .val (.int i2), .val (.ref a_NONE), .val (.int (0 : Int32)), .val (.int (0 : Int32)), .val (.int (1 : Int32)), .val (.int (1 : Int32)), .val (.int (1 : Int32)), .val (.int (1 : Int32))] [(.int (1 : Int32))])) _
          refine XS.goto X15.here hx rfl (pc0 := 118) (pc' := 122) rfl (hb hby at_118) (by decide) (by decide) ?_
          show Steps p.tables e below (T15.setTop (mkF m 122 #[.val (.int i0), .val (.int i1), .val (.int i2), .val (.ref a_NONE), .val (.int (0 : Int32)), .val (.int (0 : Int32)), .val (.int (1 : Int32)), .val (.int (1 : Int32)), .val (.int (1 : Int32)), .val (.int (1 : Int32))] [(.int (1 : Int32))])) _
          exact retN X15 hx (t := .boolean) Bd.returns (by simp) (hb hby at_122) hr
        · show QL n0 _ T15.heap _
          rw [hh15]
          exact ⟨rfl, N15⟩
    · skip
      have pre16 : ∀ t, Steps p.tables e below (T1.setTop (mkF m 34 #[.val (.int i0), .val (.int i1), .val (.int i2), .val (.ref a_NONE), .val (.int (0 : Int32)), .val (.int (1 : Int32)), .unset, .unset, .unset, .unset] [(.int (i2 &&& (1 : Int32)))])) t → Steps p.tables e below (s₁.setTop (entryFrame m #[(.int i0), (.int i1), (.int i2)] maxLocals)) t := fun t kt => pre2 t (by
          show Steps p.tables e below (T1.setTop (mkF m 21 #[.val (.int i0), .val (.int i1), .val (.int i2), .val (.ref a_NONE), .val (.int (0 : Int32)), .unset, .unset, .unset, .unset, .unset] [(.int (i1 &&& (1 : Int32)))])) _
          rw [hk3]
          show Steps p.tables e below (T1.setTop (mkF m 21 #[.val (.int i0), .val (.int i1), .val (.int i2), .val (.ref a_NONE), .val (.int (0 : Int32)), .unset, .unset, .unset, .unset, .unset] [(.int (1 : Int32))])) _
          refine XS.ifNo X1.here hx rfl (hb hby at_21) rfl (by decide) ?_
          show Steps p.tables e below (T1.setTop (mkF m 24 #[.val (.int i0), .val (.int i1), .val (.int i2), .val (.ref a_NONE), .val (.int (0 : Int32)), .unset, .unset, .unset, .unset, .unset] [])) _
          refine XS.iconst X1.here hx rfl (hb hby at_24) ?_
          show Steps p.tables e below (T1.setTop (mkF m 25 #[.val (.int i0), .val (.int i1), .val (.int i2), .val (.ref a_NONE), .val (.int (0 : Int32)), .unset, .unset, .unset, .unset, .unset] [(.int (1 : Int32))])) _
          refine XS.goto X1.here hx rfl (pc0 := 25) (pc' := 29) rfl (hb hby at_25) (by decide) (by decide) ?_
          show Steps p.tables e below (T1.setTop (mkF m 29 #[.val (.int i0), .val (.int i1), .val (.int i2), .val (.ref a_NONE), .val (.int (0 : Int32)), .unset, .unset, .unset, .unset, .unset] [(.int (1 : Int32))])) _
          refine XS.istore X1.here hx rfl (hb hby at_29) rfl (l' := #[.val (.int i0), .val (.int i1), .val (.int i2), .val (.ref a_NONE), .val (.int (0 : Int32)), .val (.int (1 : Int32)), .unset, .unset, .unset, .unset]) rfl ?_
          show Steps p.tables e below (T1.setTop (mkF m 31 #[.val (.int i0), .val (.int i1), .val (.int i2), .val (.ref a_NONE), .val (.int (0 : Int32)), .val (.int (1 : Int32)), .unset, .unset, .unset, .unset] [])) _
          refine XS.iloadN X1.here hx rfl (hb hby at_31) rfl ?_
          show Steps p.tables e below (T1.setTop (mkF m 32 #[.val (.int i0), .val (.int i1), .val (.int i2), .val (.ref a_NONE), .val (.int (0 : Int32)), .val (.int (1 : Int32)), .unset, .unset, .unset, .unset] [(.int i2)])) _
          refine XS.iconst X1.here hx rfl (hb hby at_32) ?_
          show Steps p.tables e below (T1.setTop (mkF m 33 #[.val (.int i0), .val (.int i1), .val (.int i2), .val (.ref a_NONE), .val (.int (0 : Int32)), .val (.int (1 : Int32)), .unset, .unset, .unset, .unset] [(.int (1 : Int32)), (.int i2)])) _
          refine XS.iand X1.here hx rfl (hb hby at_33) rfl ?_
          exact kt)
      rcases own_b i2 with hk17 | hk17
      · skip
        obtain ⟨cq18, kq18, q18a, q18b, q18c⟩ := isOf hZ hh1 (Exa.ext O0.2 X_a_NONE)
        obtain ⟨_, _, ⟨T18, L18, k18, n18⟩, -, X18, ⟨Lc18, hQ18, l18, y18, z18⟩, st18⟩ := X1.virtualBack hx (y := (⟨"com/example/carbonfold/carbonfold/model/RosterItem$Subscription", "hasFrom", "()Z"⟩ : MethodName)) (z := (⟨"com/example/carbonfold/carbonfold/model/RosterItem$Subscription", "hasFrom", "()Z"⟩ : MethodName)) hown (mvT hZ (hw _ (List.mem_of_getElem? (i := 7) rfl))) (mvT hZ (hw _ (List.mem_of_getElem? (i := 8) rfl))) (notFace_of_selects (args := #[]) (mvT hZ (hw _ (List.mem_of_getElem? (i := 10) rfl)))) (mvT hZ (hw _ (List.mem_of_getElem? (i := 10) rfl))) (mvT hZ (hw _ (List.mem_of_getElem? (i := 9) rfl))) (by decide) (backOf (W := 0) (rm_hasFrom_1 l Z a0 hw [] a_NONE a_FROM a_BOTH a_TO h0 n0 O0 En) hZ (hw _ (List.mem_of_getElem? (i := 11) rfl)) (hw _ (List.mem_of_getElem? (i := 5) rfl)) (by decide) (by decide)) q18a q18c (g := (mkF m 45 #[.val (.int i0), .val (.int i1), .val (.int i2), .val (.ref a_NONE), .val (.int (0 : Int32)), .val (.int (1 : Int32)), .val (.int (0 : Int32)), .unset, .unset, .unset] [(.ref a_NONE)])) rfl (by rw [hml]; rfl) (Steps.refl _) (argsL := []) (rest := []) (lenOf pd_1 rfl) rfl (by show 2 * 0 + _ ≤ _; exact Nat.le_of_eq rfl) (hb hby at_45) (fun _ _ => ⟨rfl, hh1, (by decide : 0 + 0 ≤ _), (by decide : 0 + 0 ≤ _)⟩)
        dsimp only [Pt.U, Pt.locs, Pt.cells, Pt.slots] at X18 l18 y18 z18 st18 hQ18
        subst l18 y18 z18
        obtain ⟨rfl, N18q, hh18⟩ := hQ18
        have N18 := Fr.app N1 N18q
        obtain ⟨cq19, kq19, q19a, q19b, q19c⟩ := isOf hZ hh18 (Exa.ext O0.2 X_a_NONE)
        obtain ⟨_, _, ⟨T19, L19, k19, n19⟩, -, X19, ⟨Lc19, hQ19, l19, y19, z19⟩, st19⟩ := X18.virtualBack hx (y := (⟨"com/example/carbonfold/carbonfold/model/RosterItem$Subscription", "withFrom", "(Z)Lcom/example/carbonfold/carbonfold/model/RosterItem$Subscription;"⟩ : MethodName)) (z := (⟨"com/example/carbonfold/carbonfold/model/RosterItem$Subscription", "withFrom", "(Z)Lcom/example/carbonfold/carbonfold/model/RosterItem$Subscription;"⟩ : MethodName)) hown (mvT hZ (hw _ (List.mem_of_getElem? (i := 16) rfl))) (mvT hZ (hw _ (List.mem_of_getElem? (i := 17) rfl))) (notFace_of_selects (args := #[]) (mvT hZ (hw _ (List.mem_of_getElem? (i := 19) rfl)))) (mvT hZ (hw _ (List.mem_of_getElem? (i := 19) rfl))) (mvT hZ (hw _ (List.mem_of_getElem? (i := 18) rfl))) (by decide) (backOf (W := 0) (rm_withFrom_9 l Z a0 hw [] a_NONE a_FROM a_BOTH a_TO h0 n0 O0 En) hZ (hw _ (List.mem_of_getElem? (i := 20) rfl)) (hw _ (List.mem_of_getElem? (i := 5) rfl)) (by decide) (by decide)) q19a q19c (g := (mkF m 63 #[.val (.int i0), .val (.int i1), .val (.int i2), .val (.ref a_NONE), .val (.int (0 : Int32)), .val (.int (1 : Int32)), .val (.int (0 : Int32)), .val (.int (1 : Int32)), .unset, .unset] [(.int (1 : Int32)), (.ref a_NONE)])) rfl (by rw [hml]; rfl) (Steps.refl _) (argsL := [(.int (1 : Int32))]) (rest := []) (lenOf pd_3 rfl) rfl (by show 2 * 0 + _ ≤ _; exact Nat.le_of_eq rfl) (hb hby at_63) (fun _ _ => ⟨rfl, hh18, (by decide : 0 + 0 ≤ _), (by decide : 0 + 0 ≤ _)⟩)
        dsimp only [Pt.U, Pt.locs, Pt.cells, Pt.slots] at X19 l19 y19 z19 st19 hQ19
        subst l19 y19 z19
        obtain ⟨rfl, N19q, hh19⟩ := hQ19
        have N19 := Fr.app N18 N19q
        obtain ⟨cq20, kq20, q20a, q20b, q20c⟩ := isOf hZ hh19 (Exa.ext O0.2 X_a_FROM)
        obtain ⟨_, _, ⟨T20, L20, k20, n20⟩, -, X20, ⟨Lc20, hQ20, l20, y20, z20⟩, st20⟩ := X19.virtualBack hx (y := (⟨"com/example/carbonfold/carbonfold/model/RosterItem$Subscription", "hasFrom", "()Z"⟩ : MethodName)) (z := (⟨"com/example/carbonfold/carbonfold/model/RosterItem$Subscription", "hasFrom", "()Z"⟩ : MethodName)) hown (mvT hZ (hw _ (List.mem_of_getElem? (i := 7) rfl))) (mvT hZ (hw _ (List.mem_of_getElem? (i := 8) rfl))) (notFace_of_selects (args := #[]) (mvT hZ (hw _ (List.mem_of_getElem? (i := 10) rfl)))) (mvT hZ (hw _ (List.mem_of_getElem? (i := 10) rfl))) (mvT hZ (hw _ (List.mem_of_getElem? (i := 9) rfl))) (by decide) (backOf (W := 0) (rm_hasFrom_11 l Z a0 hw [] a_NONE a_FROM a_BOTH a_TO h0 n0 O0 En) hZ (hw _ (List.mem_of_getElem? (i := 11) rfl)) (hw _ (List.mem_of_getElem? (i := 5) rfl)) (by decide) (by decide)) q20a q20c (g := (mkF m 66 #[.val (.int i0), .val (.int i1), .val (.int i2), .val (.ref a_NONE), .val (.int (0 : Int32)), .val (.int (1 : Int32)), .val (.int (0 : Int32)), .val (.int (1 : Int32)), .unset, .unset] [(.ref a_FROM)])) rfl (by rw [hml]; rfl) (Steps.refl _) (argsL := []) (rest := []) (lenOf pd_1 rfl) rfl (by show 2 * 0 + _ ≤ _; exact Nat.le_of_eq rfl) (hb hby at_66) (fun _ _ => ⟨rfl, hh19, (by decide : 0 + 0 ≤ _), (by decide : 0 + 0 ≤ _)⟩)
        dsimp only [Pt.U, Pt.locs, Pt.cells, Pt.slots] at X20 l20 y20 z20 st20 hQ20
        subst l20 y20 z20
        obtain ⟨rfl, N20q, hh20⟩ := hQ20
        have N20 := Fr.app N19 N20q
        obtain ⟨cq21, kq21, q21a, q21b, q21c⟩ := isOf hZ hh20 (Exa.ext O0.2 X_a_NONE)
        obtain ⟨_, _, ⟨T21, L21, k21, n21⟩, -, X21, ⟨Lc21, hQ21, l21, y21, z21⟩, st21⟩ := X20.virtualBack hx (y := (⟨"com/example/carbonfold/carbonfold/model/RosterItem$Subscription", "withTo", "(Z)Lcom/example/carbonfold/carbonfold/model/RosterItem$Subscription;"⟩ : MethodName)) (z := (⟨"com/example/carbonfold/carbonfold/model/RosterItem$Subscription", "withTo", "(Z)Lcom/example/carbonfold/carbonfold/model/RosterItem$Subscription;"⟩ : MethodName)) hown (mvT hZ (hw _ (List.mem_of_getElem? (i := 31) rfl))) (mvT hZ (hw _ (List.mem_of_getElem? (i := 32) rfl))) (notFace_of_selects (args := #[]) (mvT hZ (hw _ (List.mem_of_getElem? (i := 34) rfl)))) (mvT hZ (hw _ (List.mem_of_getElem? (i := 34) rfl))) (mvT hZ (hw _ (List.mem_of_getElem? (i := 33) rfl))) (by decide) (backOf (W := 0) (rm_withTo_5 l Z a0 hw [] a_NONE a_FROM a_BOTH a_TO h0 n0 O0 En) hZ (hw _ (List.mem_of_getElem? (i := 35) rfl)) (hw _ (List.mem_of_getElem? (i := 5) rfl)) (by decide) (by decide)) q21a q21c (g := (mkF m 84 #[.val (.int i0), .val (.int i1), .val (.int i2), .val (.ref a_NONE), .val (.int (0 : Int32)), .val (.int (1 : Int32)), .val (.int (0 : Int32)), .val (.int (1 : Int32)), .val (.int (1 : Int32)), .unset] [(.int (0 : Int32)), (.ref a_NONE)])) rfl (by rw [hml]; rfl) (Steps.refl _) (argsL := [(.int (0 : Int32))]) (rest := []) (lenOf pd_3 rfl) rfl (by show 2 * 0 + _ ≤ _; exact Nat.le_of_eq rfl) (hb hby at_84) (fun _ _ => ⟨rfl, hh20, (by decide : 0 + 0 ≤ _), (by decide : 0 + 0 ≤ _)⟩)
        dsimp only [Pt.U, Pt.locs, Pt.cells, Pt.slots] at X21 l21 y21 z21 st21 hQ21
        subst l21 y21 z21
        obtain ⟨rfl, N21q, hh21⟩ := hQ21
        have N21 := Fr.app N20 N21q
        obtain ⟨cq22, kq22, q22a, q22b, q22c⟩ := isOf hZ hh21 (Exa.ext O0.2 X_a_NONE)
        obtain ⟨_, _, ⟨T22, L22, k22, n22⟩, -, X22, ⟨Lc22, hQ22, l22, y22, z22⟩, st22⟩ := X21.virtualBack hx (y := (⟨"com/example/carbonfold/carbonfold/model/RosterItem$Subscription", "hasFrom", "()Z"⟩ : MethodName)) (z := (⟨"com/example/carbonfold/carbonfold/model/RosterItem$Subscription", "hasFrom", "()Z"⟩ : MethodName)) hown (mvT hZ (hw _ (List.mem_of_getElem? (i := 7) rfl))) (mvT hZ (hw _ (List.mem_of_getElem? (i := 8) rfl))) (notFace_of_selects (args := #[]) (mvT hZ (hw _ (List.mem_of_getElem? (i := 10) rfl)))) (mvT hZ (hw _ (List.mem_of_getElem? (i := 10) rfl))) (mvT hZ (hw _ (List.mem_of_getElem? (i := 9) rfl))) (by decide) (backOf (W := 0) (rm_hasFrom_1 l Z a0 hw [] a_NONE a_FROM a_BOTH a_TO h0 n0 O0 En) hZ (hw _ (List.mem_of_getElem? (i := 11) rfl)) (hw _ (List.mem_of_getElem? (i := 5) rfl)) (by decide) (by decide)) q22a q22c (g := (mkF m 87 #[.val (.int i0), .val (.int i1), .val (.int i2), .val (.ref a_NONE), .val (.int (0 : Int32)), .val (.int (1 : Int32)), .val (.int (0 : Int32)), .val (.int (1 : Int32)), .val (.int (1 : Int32)), .unset] [(.ref a_NONE)])) rfl (by rw [hml]; rfl) (Steps.refl _) (argsL := []) (rest := []) (lenOf pd_1 rfl) rfl (by show 2 * 0 + _ ≤ _; exact Nat.le_of_eq rfl) (hb hby at_87) (fun _ _ => ⟨rfl, hh21, (by decide : 0 + 0 ≤ _), (by decide : 0 + 0 ≤ _)⟩)
        dsimp only [Pt.U, Pt.locs, Pt.cells, Pt.slots] at X22 l22 y22 z22 st22 hQ22
        subst l22 y22 z22
        obtain ⟨rfl, N22q, hh22⟩ := hQ22
        have N22 := Fr.app N21 N22q
        obtain ⟨fs, hr, hrun, hended, hW, hsame⟩ := X22.leave (v := some (.int (1 : Int32))) (fun h => by rw [Bd.returns] at h; cases h)
        refine ⟨_, _, pre16 _ ?_, hrun, hended, _, _, rfl, ?_, ⟨_, rfl⟩, hW, hsame.mono (by decide) (by decide)⟩
        · skip
          show Steps p.tables e below (T1.setTop (mkF m 34 #[.val (.int i0), .val (.int i1), .val (.int i2), .val (.ref a_NONE), .val (.int (0 : Int32)), .val (.int (1 : Int32)), .unset, .unset, .unset, .unset] [(.int (i2 &&& (1 : Int32)))])) _
          rw [hk17]
          show Steps p.tables e below (T1.setTop (mkF m 34 #[.val (.int i0), .val (.int i1), .val (.int i2), .val (.ref a_NONE), .val (.int (0 : Int32)), .val (.int (1 : Int32)), .unset, .unset, .unset, .unset] [(.int (0 : Int32))])) _
          refine XS.ifYes X1.here hx rfl (pc0 := 34) (pc' := 41) rfl (hb hby at_34) rfl (by decide) (by decide) (by decide) ?_
          show Steps p.tables e below (T1.setTop (mkF m 41 #[.val (.int i0), .val (.int i1), .val (.int i2), .val (.ref a_NONE), .val (.int (0 : Int32)), .val (.int (1 : Int32)), .unset, .unset, .unset, .unset] [])) _
          refine XS.iconst X1.here hx rfl (hb hby at_41) ?_
          show Steps p.tables e below (T1.setTop (mkF m 42 #[.val (.int i0), .val (.int i1), .val (.int i2), .val (.ref a_NONE), .val (.int (0 : Int32)), .val (.int (1 : Int32)), .unset, .unset, .unset, .unset] [(.int (0 : Int32))])) _
          refine XS.istore X1.here hx rfl (hb hby at_42) rfl (l' := #[.val (.int i0), .val (.int i1), .val (.int i2), .val (.ref a_NONE), .val (.int (0 : Int32)), .val (.int (1 : Int32)), .val (.int (0 : Int32)), .unset, .unset, .unset]) rfl ?_
          show Steps p.tables e below (T1.setTop (mkF m 44 #[.val (.int i0), .val (.int i1), .val (.int i2), .val (.ref a_NONE), .val (.int (0 : Int32)), .val (.int (1 : Int32)), .val (.int (0 : Int32)), .unset, .unset, .unset] [])) _
          refine XS.aloadN X1.here hx rfl (hb hby at_44) rfl rfl ?_
          show Steps p.tables e below (T1.setTop (mkF m 45 #[.val (.int i0), .val (.int i1), .val (.int i2), .val (.ref a_NONE), .val (.int (0 : Int32)), .val (.int (1 : Int32)), .val (.int (0 : Int32)), .unset, .unset, .unset] [(.ref a_NONE)])) _
          refine st18.trans ?_
          show Steps p.tables e below (T18.setTop (mkF m 48 #[.val (.int i0), .val (.int i1), .val (.int i2), .val (.ref a_NONE), .val (.int (0 : Int32)), .val (.int (1 : Int32)), .val (.int (0 : Int32)), .unset, .unset, .unset] [(.int (0 : Int32))])) _
          refine XS.iload X18.here hx rfl (hb hby at_48) rfl ?_
          show Steps p.tables e below (T18.setTop (mkF m 50 #[.val (.int i0), .val (.int i1), .val (.int i2), .val (.ref a_NONE), .val (.int (0 : Int32)), .val (.int (1 : Int32)), .val (.int (0 : Int32)), .unset, .unset, .unset] [(.int (0 : Int32)), (.int (0 : Int32))])) _
          refine XS.icmpNo X18.here hx rfl (hb hby at_50) rfl (by decide) ?_
          show Steps p.tables e below (T18.setTop (mkF m 53 #[.val (.int i0), .val (.int i1), .val (.int i2), .val (.ref a_NONE), .val (.int (0 : Int32)), .val (.int (1 : Int32)), .val (.int (0 : Int32)), .unset, .unset, .unset] [])) _
          refine XS.iconst X18.here hx rfl (hb hby at_53) ?_
          show Steps p.tables e below (T18.setTop (mkF m 54 #[.val (.int i0), .val (.int i1), .val (.int i2), .val (.ref a_NONE), .val (.int (0 : Int32)), .val (.int (1 : Int32)), .val (.int (0 : Int32)), .unset, .unset, .unset] [(.int (1 : Int32))])) _
          refine XS.goto X18.here hx rfl (pc0 := 54) (pc' := 58) rfl (hb hby at_54) (by decide) (by decide) ?_
          show Steps p.tables e below (T18.setTop (mkF m 58 #[.val (.int i0), .val (.int i1), .val (.int i2), .val (.ref a_NONE), .val (.int (0 : Int32)), .val (.int (1 : Int32)), .val (.int (0 : Int32)), .unset, .unset, .unset] [(.int (1 : Int32))])) _
          refine XS.istore X18.here hx rfl (hb hby at_58) rfl (l' := #[.val (.int i0), .val (.int i1), .val (.int i2), .val (.ref a_NONE), .val (.int (0 : Int32)), .val (.int (1 : Int32)), .val (.int (0 : Int32)), .val (.int (1 : Int32)), .unset, .unset]) rfl ?_
          show Steps p.tables e below (T18.setTop (mkF m 60 #[.val (.int i0), .val (.int i1), .val (.int i2), .val (.ref a_NONE), .val (.int (0 : Int32)), .val (.int (1 : Int32)), .val (.int (0 : Int32)), .val (.int (1 : Int32)), .unset, .unset] [])) _
          refine XS.aloadN X18.here hx rfl (hb hby at_60) rfl rfl ?_
          show Steps p.tables e below (T18.setTop (mkF m 61 #[.val (.int i0), .val (.int i1), .val (.int i2), .val (.ref a_NONE), .val (.int (0 : Int32)), .val (.int (1 : Int32)), .val (.int (0 : Int32)), .val (.int (1 : Int32)), .unset, .unset] [(.ref a_NONE)])) _
          refine XS.iload X18.here hx rfl (hb hby at_61) rfl ?_
          show Steps p.tables e below (T18.setTop (mkF m 63 #[.val (.int i0), .val (.int i1), .val (.int i2), .val (.ref a_NONE), .val (.int (0 : Int32)), .val (.int (1 : Int32)), .val (.int (0 : Int32)), .val (.int (1 : Int32)), .unset, .unset] [(.int (1 : Int32)), (.ref a_NONE)])) _
          refine st19.trans ?_
          show Steps p.tables e below (T19.setTop (mkF m 66 #[.val (.int i0), .val (.int i1), .val (.int i2), .val (.ref a_NONE), .val (.int (0 : Int32)), .val (.int (1 : Int32)), .val (.int (0 : Int32)), .val (.int (1 : Int32)), .unset, .unset] [(.ref a_FROM)])) _
          refine st20.trans ?_
          show Steps p.tables e below (T20.setTop (mkF m 69 #[.val (.int i0), .val (.int i1), .val (.int i2), .val (.ref a_NONE), .val (.int (0 : Int32)), .val (.int (1 : Int32)), .val (.int (0 : Int32)), .val (.int (1 : Int32)), .unset, .unset] [(.int (1 : Int32))])) _
          refine XS.iload X20.here hx rfl (hb hby at_69) rfl ?_
          show Steps p.tables e below (T20.setTop (mkF m 71 #[.val (.int i0), .val (.int i1), .val (.int i2), .val (.ref a_NONE), .val (.int (0 : Int32)), .val (.int (1 : Int32)), .val (.int (0 : Int32)), .val (.int (1 : Int32)), .unset, .unset] [(.int (1 : Int32)), (.int (1 : Int32))])) _
          refine XS.icmpNo X20.here hx rfl (hb hby at_71) rfl (by decide) ?_
          show Steps p.tables e below (T20.setTop (mkF m 74 #[.val (.int i0), .val (.int i1), .val (.int i2), .val (.ref a_NONE), .val (.int (0 : Int32)), .val (.int (1 : Int32)), .val (.int (0 : Int32)), .val (.int (1 : Int32)), .unset, .unset] [])) _
          refine XS.iconst X20.here hx rfl (hb hby at_74) ?_
          show Steps p.tables e below (T20.setTop (mkF m 75 #[.val (.int i0), .val (.int i1), .val (.int i2), .val (.ref a_NONE), .val (.int (0 : Int32)), .val (.int (1 : Int32)), .val (.int (0 : Int32)), .val (.int (1 : Int32)), .unset, .unset] [(.int (1 : Int32))])) _
          refine XS.goto X20.here hx rfl (pc0 := 75) (pc' := 79) rfl (hb hby at_75) (by decide) (by decide) ?_
          show Steps p.tables e below (T20.setTop (mkF m 79 #[.val (.int i0), .val (.int i1), .val (.int i2), .val (.ref a_NONE), .val (.int (0 : Int32)), .val (.int (1 : Int32)), .val (.int (0 : Int32)), .val (.int (1 : Int32)), .unset, .unset] [(.int (1 : Int32))])) _
          refine XS.istore X20.here hx rfl (hb hby at_79) rfl (l' := #[.val (.int i0), .val (.int i1), .val (.int i2), .val (.ref a_NONE), .val (.int (0 : Int32)), .val (.int (1 : Int32)), .val (.int (0 : Int32)), .val (.int (1 : Int32)), .val (.int (1 : Int32)), .unset]) rfl ?_
          show Steps p.tables e below (T20.setTop (mkF m 81 #[.val (.int i0), .val (.int i1), .val (.int i2), .val (.ref a_NONE), .val (.int (0 : Int32)), .val (.int (1 : Int32)), .val (.int (0 : Int32)), .val (.int (1 : Int32)), .val (.int (1 : Int32)), .unset] [])) _
          refine XS.aloadN X20.here hx rfl (hb hby at_81) rfl rfl ?_
          show Steps p.tables e below (T20.setTop (mkF m 82 #[.val (.int i0), .val (.int i1), .val (.int i2), .val (.ref a_NONE), .val (.int (0 : Int32)), .val (.int (1 : Int32)), .val (.int (0 : Int32)), .val (.int (1 : Int32)), .val (.int (1 : Int32)), .unset] [(.ref a_NONE)])) _
          refine XS.iload X20.here hx rfl (hb hby at_82) rfl ?_
          show Steps p.tables e below (T20.setTop (mkF m 84 #[.val (.int i0), .val (.int i1), .val (.int i2), .val (.ref a_NONE), .val (.int (0 : Int32)), .val (.int (1 : Int32)), .val (.int (0 : Int32)), .val (.int (1 : Int32)), .val (.int (1 : Int32)), .unset] [(.int (0 : Int32)), (.ref a_NONE)])) _
          refine st21.trans ?_
          show Steps p.tables e below (T21.setTop (mkF m 87 #[.val (.int i0), .val (.int i1), .val (.int i2), .val (.ref a_NONE), .val (.int (0 : Int32)), .val (.int (1 : Int32)), .val (.int (0 : Int32)), .val (.int (1 : Int32)), .val (.int (1 : Int32)), .unset] [(.ref a_NONE)])) _
          refine st22.trans ?_
          show Steps p.tables e below (T22.setTop (mkF m 90 #[.val (.int i0), .val (.int i1), .val (.int i2), .val (.ref a_NONE), .val (.int (0 : Int32)), .val (.int (1 : Int32)), .val (.int (0 : Int32)), .val (.int (1 : Int32)), .val (.int (1 : Int32)), .unset] [(.int (0 : Int32))])) _
          refine XS.iload X22.here hx rfl (hb hby at_90) rfl ?_
          show Steps p.tables e below (T22.setTop (mkF m 92 #[.val (.int i0), .val (.int i1), .val (.int i2), .val (.ref a_NONE), .val (.int (0 : Int32)), .val (.int (1 : Int32)), .val (.int (0 : Int32)), .val (.int (1 : Int32)), .val (.int (1 : Int32)), .unset] [(.int (0 : Int32)), (.int (0 : Int32))])) _
          refine XS.icmpNo X22.here hx rfl (hb hby at_92) rfl (by decide) ?_
          show Steps p.tables e below (T22.setTop (mkF m 95 #[.val (.int i0), .val (.int i1), .val (.int i2), .val (.ref a_NONE), .val (.int (0 : Int32)), .val (.int (1 : Int32)), .val (.int (0 : Int32)), .val (.int (1 : Int32)), .val (.int (1 : Int32)), .unset] [])) _
          refine XS.iconst X22.here hx rfl (hb hby at_95) ?_
          show Steps p.tables e below (T22.setTop (mkF m 96 #[.val (.int i0), .val (.int i1), .val (.int i2), .val (.ref a_NONE), .val (.int (0 : Int32)), .val (.int (1 : Int32)), .val (.int (0 : Int32)), .val (.int (1 : Int32)), .val (.int (1 : Int32)), .unset] [(.int (1 : Int32))])) _
          refine XS.goto X22.here hx rfl (pc0 := 96) (pc' := 100) rfl (hb hby at_96) (by decide) (by decide) ?_
          show Steps p.tables e below (T22.setTop (mkF m 100 #[.val (.int i0), .val (.int i1), .val (.int i2), .val (.ref a_NONE), .val (.int (0 : Int32)), .val (.int (1 : Int32)), .val (.int (0 : Int32)), .val (.int (1 : Int32)), .val (.int (1 : Int32)), .unset] [(.int (1 : Int32))])) _
          refine XS.istore X22.here hx rfl (hb hby at_100) rfl (l' := #[.val (.int i0), .val (.int i1), .val (.int i2), .val (.ref a_NONE), .val (.int (0 : Int32)), .val (.int (1 : Int32)), .val (.int (0 : Int32)), .val (.int (1 : Int32)), .val (.int (1 : Int32)), .val (.int (1 : Int32))]) rfl ?_
          show Steps p.tables e below (T22.setTop (mkF m 102 #[.val (.int i0), .val (.int i1), .val (.int i2), .val (.ref a_NONE), .val (.int (0 : Int32)), .val (.int (1 : Int32)), .val (.int (0 : Int32)), .val (.int (1 : Int32)), .val (.int (1 : Int32)), .val (.int (1 : Int32))] [])) _
          refine XS.iload X22.here hx rfl (hb hby at_102) rfl ?_
          show Steps p.tables e below (T22.setTop (mkF m 104 #[.val (.int i0), .val (.int i1), .val (.int i2), .val (.ref a_NONE), .val (.int (0 : Int32)), .val (.int (1 : Int32)), .val (.int (0 : Int32)), .val (.int (1 : Int32)), .val (.int (1 : Int32)), .val (.int (1 : Int32))] [(.int (1 : Int32))])) _
          refine XS.ifNo X22.here hx rfl (hb hby at_104) rfl (by decide) ?_
          show Steps p.tables e below (T22.setTop (mkF m 107 #[.val (.int i0), .val (.int i1), .val (.int i2), .val (.ref a_NONE), .val (.int (0 : Int32)), .val (.int (1 : Int32)), .val (.int (0 : Int32)), .val (.int (1 : Int32)), .val (.int (1 : Int32)), .val (.int (1 : Int32))] [])) _
          refine XS.iload X22.here hx rfl (hb hby at_107) rfl ?_
          show Steps p.tables e below (T22.setTop (mkF m 109 #[.val (.int i0), .val (.int i1), .val (.int i2), .val (.ref a_NONE), .val (.int (0 : Int32)), .val (.int (1 : Int32)), .val (.int (0 : Int32)), .val (.int (1 : Int32)), .val (.int (1 : Int32)), .val (.int (1 : Int32))] [(.int (1 : Int32))])) _
          refine XS.ifNo X22.here hx rfl (hb hby at_109) rfl (by decide) ?_
          show Steps p.tables e below (T22.setTop (mkF m 112 #[.val (.int i0), .val (.int i1), .val (.int i2), .val (.ref a_NONE), .val (.int (0 : Int32)), .val (.int (1 : Int32)), .val (.int (0 : Int32)), .val (.int (1 : Int32)), .val (.int (1 : Int32)), .val (.int (1 : Int32))] [])) _
          refine XS.iload X22.here hx rfl (hb hby at_112) rfl ?_
          show Steps p.tables e below (T22.setTop (mkF m 114 #[.val (.int i0), .val (.int i1), .val (.int i2), .val (.ref a_NONE), .val (.int (0 : Int32)), .val (.int (1 : Int32)), .val (.int (0 : Int32)), .val (.int (1 : Int32)), .val (.int (1 : Int32)), .val (.int (1 : Int32))] [(.int (1 : Int32))])) _
          refine XS.ifNo X22.here hx rfl (hb hby at_114) rfl (by decide) ?_
          show Steps p.tables e below (T22.setTop (mkF m 117 #[.val (.int i0), .val (.int i1), .val (.int i2), .val (.ref a_NONE), .val (.int (0 : Int32)), .val (.int (1 : Int32)), .val (.int (0 : Int32)), .val (.int (1 : Int32)), .val (.int (1 : Int32)), .val (.int (1 : Int32))] [])) _
          refine XS.iconst X22.here hx rfl (hb hby at_117) ?_
          show Steps p.tables e below (T22.setTop (mkF m 118 #[.val (.int i0), .val (.int i1), .val (.int i2), .val (.ref a_NONE), .val (.int (0 : Int32)), .val (.int (1 : Int32)), .val (.int (0 : Int32)), .val (.int (1 : Int32)), .val (.int (1 : Int32)), .val (.int (1 : Int32))] [(.int (1 : Int32))])) _
          refine XS.goto X22.here hx rfl (pc0 := 118) (pc' := 122) rfl (hb hby at_118) (by decide) (by decide) ?_
          show Steps p.tables e below (T22.setTop (mkF m 122 #[.val (.int i0), .val (.int i1), .val (.int i2), .val (.ref a_NONE), .val (.int (0 : Int32)), .val (.int (1 : Int32)), .val (.int (0 : Int32)), .val (.int (1 : Int32)), .val (.int (1 : Int32)), .val (.int (1 : Int32))] [(.int (1 : Int32))])) _
          exact retN X22 hx (t := .boolean) Bd.returns (by simp) (hb hby at_122) hr
        · show QL n0 _ T22.heap _
          rw [hh22]
          exact ⟨rfl, N22⟩
      · skip
        obtain ⟨cq23, kq23, q23a, q23b, q23c⟩ := isOf hZ hh1 (Exa.ext O0.2 X_a_NONE)
        obtain ⟨_, _, ⟨T23, L23, k23, n23⟩, -, X23, ⟨Lc23, hQ23, l23, y23, z23⟩, st23⟩ := X1.virtualBack hx (y := (⟨"com/example/carbonfold/carbonfold/model/RosterItem$Subscription", "hasFrom", "()Z"⟩ : MethodName)) (z := (⟨"com/example/carbonfold/carbonfold/model/RosterItem$Subscription", "hasFrom", "()Z"⟩ : MethodName)) hown (mvT hZ (hw _ (List.mem_of_getElem? (i := 7) rfl))) (mvT hZ (hw _ (List.mem_of_getElem? (i := 8) rfl))) (notFace_of_selects (args := #[]) (mvT hZ (hw _ (List.mem_of_getElem? (i := 10) rfl)))) (mvT hZ (hw _ (List.mem_of_getElem? (i := 10) rfl))) (mvT hZ (hw _ (List.mem_of_getElem? (i := 9) rfl))) (by decide) (backOf (W := 0) (rm_hasFrom_1 l Z a0 hw [] a_NONE a_FROM a_BOTH a_TO h0 n0 O0 En) hZ (hw _ (List.mem_of_getElem? (i := 11) rfl)) (hw _ (List.mem_of_getElem? (i := 5) rfl)) (by decide) (by decide)) q23a q23c (g := (mkF m 45 #[.val (.int i0), .val (.int i1), .val (.int i2), .val (.ref a_NONE), .val (.int (0 : Int32)), .val (.int (1 : Int32)), .val (.int (1 : Int32)), .unset, .unset, .unset] [(.ref a_NONE)])) rfl (by rw [hml]; rfl) (Steps.refl _) (argsL := []) (rest := []) (lenOf pd_1 rfl) rfl (by show 2 * 0 + _ ≤ _; exact Nat.le_of_eq rfl) (hb hby at_45) (fun _ _ => ⟨rfl, hh1, (by decide : 0 + 0 ≤ _), (by decide : 0 + 0 ≤ _)⟩)
        dsimp only [Pt.U, Pt.locs, Pt.cells, Pt.slots] at X23 l23 y23 z23 st23 hQ23
        subst l23 y23 z23
        obtain ⟨rfl, N23q, hh23⟩ := hQ23
        have N23 := Fr.app N1 N23q
        obtain ⟨cq24, kq24, q24a, q24b, q24c⟩ := isOf hZ hh23 (Exa.ext O0.2 X_a_NONE)
        obtain ⟨_, _, ⟨T24, L24, k24, n24⟩, -, X24, ⟨Lc24, hQ24, l24, y24, z24⟩, st24⟩ := X23.virtualBack hx (y := (⟨"com/example/carbonfold/carbonfold/model/RosterItem$Subscription", "withFrom", "(Z)Lcom/example/carbonfold/carbonfold/model/RosterItem$Subscription;"⟩ : MethodName)) (z := (⟨"com/example/carbonfold/carbonfold/model/RosterItem$Subscription", "withFrom", "(Z)Lcom/example/carbonfold/carbonfold/model/RosterItem$Subscription;"⟩ : MethodName)) hown (mvT hZ (hw _ (List.mem_of_getElem? (i := 16) rfl))) (mvT hZ (hw _ (List.mem_of_getElem? (i := 17) rfl))) (notFace_of_selects (args := #[]) (mvT hZ (hw _ (List.mem_of_getElem? (i := 19) rfl)))) (mvT hZ (hw _ (List.mem_of_getElem? (i := 19) rfl))) (mvT hZ (hw _ (List.mem_of_getElem? (i := 18) rfl))) (by decide) (backOf (W := 0) (rm_withFrom_9 l Z a0 hw [] a_NONE a_FROM a_BOTH a_TO h0 n0 O0 En) hZ (hw _ (List.mem_of_getElem? (i := 20) rfl)) (hw _ (List.mem_of_getElem? (i := 5) rfl)) (by decide) (by decide)) q24a q24c (g := (mkF m 63 #[.val (.int i0), .val (.int i1), .val (.int i2), .val (.ref a_NONE), .val (.int (0 : Int32)), .val (.int (1 : Int32)), .val (.int (1 : Int32)), .val (.int (1 : Int32)), .unset, .unset] [(.int (1 : Int32)), (.ref a_NONE)])) rfl (by rw [hml]; rfl) (Steps.refl _) (argsL := [(.int (1 : Int32))]) (rest := []) (lenOf pd_3 rfl) rfl (by show 2 * 0 + _ ≤ _; exact Nat.le_of_eq rfl) (hb hby at_63) (fun _ _ => ⟨rfl, hh23, (by decide : 0 + 0 ≤ _), (by decide : 0 + 0 ≤ _)⟩)
        dsimp only [Pt.U, Pt.locs, Pt.cells, Pt.slots] at X24 l24 y24 z24 st24 hQ24
        subst l24 y24 z24
        obtain ⟨rfl, N24q, hh24⟩ := hQ24
        have N24 := Fr.app N23 N24q
        obtain ⟨cq25, kq25, q25a, q25b, q25c⟩ := isOf hZ hh24 (Exa.ext O0.2 X_a_FROM)
        obtain ⟨_, _, ⟨T25, L25, k25, n25⟩, -, X25, ⟨Lc25, hQ25, l25, y25, z25⟩, st25⟩ := X24.virtualBack hx (y := (⟨"com/example/carbonfold/carbonfold/model/RosterItem$Subscription", "hasFrom", "()Z"⟩ : MethodName)) (z := (⟨"com/example/carbonfold/carbonfold/model/RosterItem$Subscription", "hasFrom", "()Z"⟩ : MethodName)) hown (mvT hZ (hw _ (List.mem_of_getElem? (i := 7) rfl))) (mvT hZ (hw _ (List.mem_of_getElem? (i := 8) rfl))) (notFace_of_selects (args := #[]) (mvT hZ (hw _ (List.mem_of_getElem? (i := 10) rfl)))) (mvT hZ (hw _ (List.mem_of_getElem? (i := 10) rfl))) (mvT hZ (hw _ (List.mem_of_getElem? (i := 9) rfl))) (by decide) (backOf (W := 0) (rm_hasFrom_11 l Z a0 hw [] a_NONE a_FROM a_BOTH a_TO h0 n0 O0 En) hZ (hw _ (List.mem_of_getElem? (i := 11) rfl)) (hw _ (List.mem_of_getElem? (i := 5) rfl)) (by decide) (by decide)) q25a q25c (g := (mkF m 66 #[.val (.int i0), .val (.int i1), .val (.int i2), .val (.ref a_NONE), .val (.int (0 : Int32)), .val (.int (1 : Int32)), .val (.int (1 : Int32)), .val (.int (1 : Int32)), .unset, .unset] [(.ref a_FROM)])) rfl (by rw [hml]; rfl) (Steps.refl _) (argsL := []) (rest := []) (lenOf pd_1 rfl) rfl (by show 2 * 0 + _ ≤ _; exact Nat.le_of_eq rfl) (hb hby at_66) (fun _ _ => ⟨rfl, hh24, (by decide : 0 + 0 ≤ _), (by decide : 0 + 0 ≤ _)⟩)
        dsimp only [Pt.U, Pt.locs, Pt.cells, Pt.slots] at X25 l25 y25 z25 st25 hQ25
        subst l25 y25 z25
        obtain ⟨rfl, N25q, hh25⟩ := hQ25
        have N25 := Fr.app N24 N25q
        obtain ⟨cq26, kq26, q26a, q26b, q26c⟩ := isOf hZ hh25 (Exa.ext O0.2 X_a_NONE)
        obtain ⟨_, _, ⟨T26, L26, k26, n26⟩, -, X26, ⟨Lc26, hQ26, l26, y26, z26⟩, st26⟩ := X25.virtualBack hx (y := (⟨"com/example/carbonfold/carbonfold/model/RosterItem$Subscription", "withTo", "(Z)Lcom/example/carbonfold/carbonfold/model/RosterItem$Subscription;"⟩ : MethodName)) (z := (⟨"com/example/carbonfold/carbonfold/model/RosterItem$Subscription", "withTo", "(Z)Lcom/example/carbonfold/carbonfold/model/RosterItem$Subscription;"⟩ : MethodName)) hown (mvT hZ (hw _ (List.mem_of_getElem? (i := 31) rfl))) (mvT hZ (hw _ (List.mem_of_getElem? (i := 32) rfl))) (notFace_of_selects (args := #[]) (mvT hZ (hw _ (List.mem_of_getElem? (i := 34) rfl)))) (mvT hZ (hw _ (List.mem_of_getElem? (i := 34) rfl))) (mvT hZ (hw _ (List.mem_of_getElem? (i := 33) rfl))) (by decide) (backOf (W := 0) (rm_withTo_6 l Z a0 hw [] a_NONE a_FROM a_BOTH a_TO h0 n0 O0 En) hZ (hw _ (List.mem_of_getElem? (i := 35) rfl)) (hw _ (List.mem_of_getElem? (i := 5) rfl)) (by decide) (by decide)) q26a q26c (g := (mkF m 84 #[.val (.int i0), .val (.int i1), .val (.int i2), .val (.ref a_NONE), .val (.int (0 : Int32)), .val (.int (1 : Int32)), .val (.int (1 : Int32)), .val (.int (1 : Int32)), .val (.int (1 : Int32)), .unset] [(.int (1 : Int32)), (.ref a_NONE)])) rfl (by rw [hml]; rfl) (Steps.refl _) (argsL := [(.int (1 : Int32))]) (rest := []) (lenOf pd_3 rfl) rfl (by show 2 * 0 + _ ≤ _; exact Nat.le_of_eq rfl) (hb hby at_84) (fun _ _ => ⟨rfl, hh25, (by decide : 0 + 0 ≤ _), (by decide : 0 + 0 ≤ _)⟩)
        dsimp only [Pt.U, Pt.locs, Pt.cells, Pt.slots] at X26 l26 y26 z26 st26 hQ26
        subst l26 y26 z26
        obtain ⟨rfl, N26q, hh26⟩ := hQ26
        have N26 := Fr.app N25 N26q
        obtain ⟨cq27, kq27, q27a, q27b, q27c⟩ := isOf hZ hh26 (Exa.ext O0.2 X_a_TO)
        obtain ⟨_, _, ⟨T27, L27, k27, n27⟩, -, X27, ⟨Lc27, hQ27, l27, y27, z27⟩, st27⟩ := X26.virtualBack hx (y := (⟨"com/example/carbonfold/carbonfold/model/RosterItem$Subscription", "hasFrom", "()Z"⟩ : MethodName)) (z := (⟨"com/example/carbonfold/carbonfold/model/RosterItem$Subscription", "hasFrom", "()Z"⟩ : MethodName)) hown (mvT hZ (hw _ (List.mem_of_getElem? (i := 7) rfl))) (mvT hZ (hw _ (List.mem_of_getElem? (i := 8) rfl))) (notFace_of_selects (args := #[]) (mvT hZ (hw _ (List.mem_of_getElem? (i := 10) rfl)))) (mvT hZ (hw _ (List.mem_of_getElem? (i := 10) rfl))) (mvT hZ (hw _ (List.mem_of_getElem? (i := 9) rfl))) (by decide) (backOf (W := 0) (rm_hasFrom_8 l Z a0 hw [] a_NONE a_FROM a_BOTH a_TO h0 n0 O0 En) hZ (hw _ (List.mem_of_getElem? (i := 11) rfl)) (hw _ (List.mem_of_getElem? (i := 5) rfl)) (by decide) (by decide)) q27a q27c (g := (mkF m 87 #[.val (.int i0), .val (.int i1), .val (.int i2), .val (.ref a_NONE), .val (.int (0 : Int32)), .val (.int (1 : Int32)), .val (.int (1 : Int32)), .val (.int (1 : Int32)), .val (.int (1 : Int32)), .unset] [(.ref a_TO)])) rfl (by rw [hml]; rfl) (Steps.refl _) (argsL := []) (rest := []) (lenOf pd_1 rfl) rfl (by show 2 * 0 + _ ≤ _; exact Nat.le_of_eq rfl) (hb hby at_87) (fun _ _ => ⟨rfl, hh26, (by decide : 0 + 0 ≤ _), (by decide : 0 + 0 ≤ _)⟩)
        dsimp only [Pt.U, Pt.locs, Pt.cells, Pt.slots] at X27 l27 y27 z27 st27 hQ27
        subst l27 y27 z27
        obtain ⟨rfl, N27q, hh27⟩ := hQ27
        have N27 := Fr.app N26 N27q
        obtain ⟨fs, hr, hrun, hended, hW, hsame⟩ := X27.leave (v := some (.int (1 : Int32))) (fun h => by rw [Bd.returns] at h; cases h)
        refine ⟨_, _, pre16 _ ?_, hrun, hended, _, _, rfl, ?_, ⟨_, rfl⟩, hW, hsame.mono (by decide) (by decide)⟩
        · skip
          show Steps p.tables e below (T1.setTop (mkF m 34 #[.val (.int i0), .val (.int i1), .val (.int i2), .val (.ref a_NONE), .val (.int (0 : Int32)), .val (.int (1 : Int32)), .unset, .unset, .unset, .unset] [(.int (i2 &&& (1 : Int32)))])) _
          rw [hk17]
          show Steps p.tables e below (T1.setTop (mkF m 34 #[.val (.int i0), .val (.int i1), .val (.int i2), .val (.ref a_NONE), .val (.int (0 : Int32)), .val (.int (1 : Int32)), .unset, .unset, .unset, .unset] [(.int (1 : Int32))])) _
          refine XS.ifNo X1.here hx rfl (hb hby at_34) rfl (by decide) ?_
          show Steps p.tables e below (T1.setTop (mkF m 37 #[.val (.int i0), .val (.int i1), .val (.int i2), .val (.ref a_NONE), .val (.int (0 : Int32)), .val (.int (1 : Int32)), .unset, .unset, .unset, .unset] [])) _
          refine XS.iconst X1.here hx rfl (hb hby at_37) ?_
          show Steps p.tables e below (T1.setTop (mkF m 38 #[.val (.int i0), .val (.int i1), .val (.int i2), .val (.ref a_NONE), .val (.int (0 : Int32)), .val (.int (1 : Int32)), .unset, .unset, .unset, .unset] [(.int (1 : Int32))])) _
          refine XS.goto X1.here hx rfl (pc0 := 38) (pc' := 42) rfl (hb hby at_38) (by decide) (by decide) ?_
          show Steps p.tables e below (T1.setTop (mkF m 42 #[.val (.int i0), .val (.int i1), .val (.int i2), .val (.ref a_NONE), .val (.int (0 : Int32)), .val (.int (1 : Int32)), .unset, .unset, .unset, .unset] [(.int (1 : Int32))])) _
          refine XS.istore X1.here hx rfl (hb hby at_42) rfl (l' := #[.val (.int i0), .val (.int i1), .val (.int i2), .val (.ref a_NONE), .val (.int (0 : Int32)), .val (.int (1 : Int32)), .val (.int (1 : Int32)), .unset, .unset, .unset]) rfl ?_
          show Steps p.tables e below (T1.setTop (mkF m 44 #[.val (.int i0), .val (.int i1), .val (.int i2), .val (.ref a_NONE), .val (.int (0 : Int32)), .val (.int (1 : Int32)), .val (.int (1 : Int32)), .unset, .unset, .unset] [])) _
          refine XS.aloadN X1.here hx rfl (hb hby at_44) rfl rfl ?_
          show Steps p.tables e below (T1.setTop (mkF m 45 #[.val (.int i0), .val (.int i1), .val (.int i2), .val (.ref a_NONE), .val (.int (0 : Int32)), .val (.int (1 : Int32)), .val (.int (1 : Int32)), .unset, .unset, .unset] [(.ref a_NONE)])) _
          refine st23.trans ?_
          show Steps p.tables e below (T23.setTop (mkF m 48 #[.val (.int i0), .val (.int i1), .val (.int i2), .val (.ref a_NONE), .val (.int (0 : Int32)), .val (.int (1 : Int32)), .val (.int (1 : Int32)), .unset, .unset, .unset] [(.int (0 : Int32))])) _
          refine XS.iload X23.here hx rfl (hb hby at_48) rfl ?_
          show Steps p.tables e below (T23.setTop (mkF m 50 #[.val (.int i0), .val (.int i1), .val (.int i2), .val (.ref a_NONE), .val (.int (0 : Int32)), .val (.int (1 : Int32)), .val (.int (1 : Int32)), .unset, .unset, .unset] [(.int (0 : Int32)), (.int (0 : Int32))])) _
          refine XS.icmpNo X23.here hx rfl (hb hby at_50) rfl (by decide) ?_
          show Steps p.tables e below (T23.setTop (mkF m 53 #[.val (.int i0), .val (.int i1), .val (.int i2), .val (.ref a_NONE), .val (.int (0 : Int32)), .val (.int (1 : Int32)), .val (.int (1 : Int32)), .unset, .unset, .unset] [])) _
          refine XS.iconst X23.here hx rfl (hb hby at_53) ?_
          show Steps p.tables e below (T23.setTop (mkF m 54 #[.val (.int i0), .val (.int i1), .val (.int i2), .val (.ref a_NONE), .val (.int (0 : Int32)), .val (.int (1 : Int32)), .val (.int (1 : Int32)), .unset, .unset, .unset] [(.int (1 : Int32))])) _
          refine XS.goto X23.here hx rfl (pc0 := 54) (pc' := 58) rfl (hb hby at_54) (by decide) (by decide) ?_
          show Steps p.tables e below (T23.setTop (mkF m 58 #[.val (.int i0), .val (.int i1), .val (.int i2), .val (.ref a_NONE), .val (.int (0 : Int32)), .val (.int (1 : Int32)), .val (.int (1 : Int32)), .unset, .unset, .unset] [(.int (1 : Int32))])) _
          refine XS.istore X23.here hx rfl (hb hby at_58) rfl (l' := #[.val (.int i0), .val (.int i1), .val (.int i2), .val (.ref a_NONE), .val (.int (0 : Int32)), .val (.int (1 : Int32)), .val (.int (1 : Int32)), .val (.int (1 : Int32)), .unset, .unset]) rfl ?_
          show Steps p.tables e below (T23.setTop (mkF m 60 #[.val (.int i0), .val (.int i1), .val (.int i2), .val (.ref a_NONE), .val (.int (0 : Int32)), .val (.int (1 : Int32)), .val (.int (1 : Int32)), .val (.int (1 : Int32)), .unset, .unset] [])) _
          refine XS.aloadN X23.here hx rfl (hb hby at_60) rfl rfl ?_
          show Steps p.tables e below (T23.setTop (mkF m 61 #[.val (.int i0), .val (.int i1), .val (.int i2), .val (.ref a_NONE), .val (.int (0 : Int32)), .val (.int (1 : Int32)), .val (.int (1 : Int32)), .val (.int (1 : Int32)), .unset, .unset] [(.ref a_NONE)])) _
          refine XS.iload X23.here hx rfl (hb hby at_61) rfl ?_
          show Steps p.tables e below (T23.setTop (mkF m 63 #[.val (.int i0), .val (.int i1), .val (.int i2), .val (.ref a_NONE), .val (.int (0 : Int32)), .val (.int (1 : Int32)), .val (.int (1 : Int32)), .val (.int (1 : Int32)), .unset, .unset] [(.int (1 : Int32)), (.ref a_NONE)])) _
          refine st24.trans ?_
          show Steps p.tables e below (T24.setTop (mkF m 66 #[.val (.int i0), .val (.int i1), .val (.int i2), .val (.ref a_NONE), .val (.int (0 : Int32)), .val (.int (1 : Int32)), .val (.int (1 : Int32)), .val (.int (1 : Int32)), .unset, .unset] [(.ref a_FROM)])) _
          refine st25.trans ?_
          show Steps p.tables e below (T25.setTop (mkF m 69 #[.val (.int i0), .val (.int i1), .val (.int i2), .val (.ref a_NONE), .val (.int (0 : Int32)), .val (.int (1 : Int32)), .val (.int (1 : Int32)), .val (.int (1 : Int32)), .unset, .unset] [(.int (1 : Int32))])) _
          refine XS.iload X25.here hx rfl (hb hby at_69) rfl ?_
          show Steps p.tables e below (T25.setTop (mkF m 71 #[.val (.int i0), .val (.int i1), .val (.int i2), .val (.ref a_NONE), .val (.int (0 : Int32)), .val (.int (1 : Int32)), .val (.int (1 : Int32)), .val (.int (1 : Int32)), .unset, .unset] [(.int (1 : Int32)), (.int (1 : Int32))])) _
          refine XS.icmpNo X25.here hx rfl (hb hby at_71) rfl (by decide) ?_
          show Steps p.tables e below (T25.setTop (mkF m 74 #[.val (.int i0), .val (.int i1), .val (.int i2), .val (.ref a_NONE), .val (.int (0 : Int32)), .val (.int (1 : Int32)), .val (.int (1 : Int32)), .val (.int (1 : Int32)), .unset, .unset] [])) _
          refine XS.iconst X25.here hx rfl (hb hby at_74) ?_
          show Steps p.tables e below (T25.setTop (mkF m 75 #[.val (.int i0), .val (.int i1), .val (.int i2), .val (.ref a_NONE), .val (.int (0 : Int32)), .val (.int (1 : Int32)), .val (.int (1 : Int32)), .val (.int (1 : Int32)), .unset, .unset] [(.int (1 : Int32))])) _
          refine XS.goto X25.here hx rfl (pc0 := 75) (pc' := 79) rfl (hb hby at_75) (by decide) (by decide) ?_
          show Steps p.tables e below (T25.setTop (mkF m 79 #[.val (.int i0), .val (.int i1), .val (.int i2), .val (.ref a_NONE), .val (.int (0 : Int32)), .val (.int (1 : Int32)), .val (.int (1 : Int32)), .val (.int (1 : Int32)), .unset, .unset] [(.int (1 : Int32))])) _
          refine XS.istore X25.here hx rfl (hb hby at_79) rfl (l' := #[.val (.int i0), .val (.int i1), .val (.int i2), .val (.ref a_NONE), .val (.int (0 : Int32)), .val (.int (1 : Int32)), .val (.int (1 : Int32)), .val (.int (1 : Int32)), .val (.int (1 : Int32)), .unset]) rfl ?_
          show Steps p.tables e below (T25.setTop (mkF m 81 #[.val (.int i0), .val (.int i1), .val (.int i2), .val (.ref a_NONE), .val (.int (0 : Int32)), .val (.int (1 : Int32)), .val (.int (1 : Int32)), .val (.int (1 : Int32)), .val (.int (1 : Int32)), .unset] [])) _
          refine XS.aloadN X25.here hx rfl (hb hby at_81) rfl rfl ?_
          show Steps p.tables e below (T25.setTop (mkF m 82 #[.val (.int i0), .val (.int i1), .val (.int i2), .val (.ref a_NONE), .val (.int (0 : Int32)), .val (.int (1 : Int32)), .val (.int (1 : Int32)), .val (.int (1 : Int32)), .val (.int (1 : Int32)), .unset] [(.ref a_NONE)])) _
          refine XS.iload X25.here hx rfl (hb hby at_82) rfl ?_
          show Steps p.tables e below (T25.setTop (mkF m 84 #[.val (.int i0), .val (.int i1), .val (.int i2), .val (.ref a_NONE), .val (.int (0 : Int32)), .val (.int (1 : Int32)), .val (.int (1 : Int32)), .val (.int (1 : Int32)), .val (.int (1 : Int32)), .unset] [(.int (1 : Int32)), (.ref a_NONE)])) _
          refine st26.trans ?_
          show Steps p.tables e below (T26.setTop (mkF m 87 #[.val (.int i0), .val (.int i1), .val (.int i2), .val (.ref a_NONE), .val (.int (0 : Int32)), .val (.int (1 : Int32)), .val (.int (1 : Int32)), .val (.int (1 : Int32)), .val (.int (1 : Int32)), .unset] [(.ref a_TO)])) _
          refine st27.trans ?_
          show Steps p.tables e below (T27.setTop (mkF m 90 #[.val (.int i0), .val (.int i1), .val (.int i2), .val (.ref a_NONE), .val (.int (0 : Int32)), .val (.int (1 : Int32)), .val (.int (1 : Int32)), .val (.int (1 : Int32)), .val (.int (1 : Int32)), .unset] [(.int (0 : Int32))])) _
          refine XS.iload X27.here hx rfl (hb hby at_90) rfl ?_
          show Steps p.tables e below (T27.setTop (mkF m 92 #[.val (.int i0), .val (.int i1), .val (.int i2), .val (.ref a_NONE), .val (.int (0 : Int32)), .val (.int (1 : Int32)), .val (.int (1 : Int32)), .val (.int (1 : Int32)), .val (.int (1 : Int32)), .unset] [(.int (0 : Int32)), (.int (0 : Int32))])) _
          refine XS.icmpNo X27.here hx rfl (hb hby at_92) rfl (by decide) ?_
          show Steps p.tables e below (T27.setTop (mkF m 95 #[.val (.int i0), .val (.int i1), .val (.int i2), .val (.ref a_NONE), .val (.int (0 : Int32)), .val (.int (1 : Int32)), .val (.int (1 : Int32)), .val (.int (1 : Int32)), .val (.int (1 : Int32)), .unset] [])) _
          refine XS.iconst X27.here hx rfl (hb hby at_95) ?_
          show Steps p.tables e below (T27.setTop (mkF m 96 #[.val (.int i0), .val (.int i1), .val (.int i2), .val (.ref a_NONE), .val (.int (0 : Int32)), .val (.int (1 : Int32)), .val (.int (1 : Int32)), .val (.int (1 : Int32)), .val (.int (1 : Int32)), .unset] [(.int (1 : Int32))])) _
          refine XS.goto X27.here hx rfl (pc0 := 96) (pc' := 100) rfl (hb hby at_96) (by decide) (by decide) ?_
          show Steps p.tables e below (T27.setTop (mkF m 100 #[.val (.int i0), .val (.int i1), .val (.int i2), .val (.ref a_NONE), .val (.int (0 : Int32)), .val (.int (1 : Int32)), .val (.int (1 : Int32)), .val (.int (1 : Int32)), .val (.int (1 : Int32)), .unset] [(.int (1 : Int32))])) _
          refine XS.istore X27.here hx rfl (hb hby at_100) rfl (l' := #[.val (.int i0), .val (.int i1), .val (.int i2), .val (.ref a_NONE), .val (.int (0 : Int32)), .val (.int (1 : Int32)), .val (.int (1 : Int32)), .val (.int (1 : Int32)), .val (.int (1 : Int32)), .val (.int (1 : Int32))]) rfl ?_
          show Steps p.tables e below (T27.setTop (mkF m 102 #[.val (.int i0), .val (.int i1), .val (.int i2), .val (.ref a_NONE), .val (.int (0 : Int32)), .val (.int (1 : Int32)), .val (.int (1 : Int32)), .val (.int (1 : Int32)), .val (.int (1 : Int32)), .val (.int (1 : Int32))] [])) _
          refine XS.iload X27.here hx rfl (hb hby at_102) rfl ?_
          show Steps p.tables e below (T27.setTop (mkF m 104 #[.val (.int i0), .val (.int i1), .val (.int i2), .val (.ref a_NONE), .val (.int (0 : Int32)), .val (.int (1 : Int32)), .val (.int (1 : Int32)), .val (.int (1 : Int32)), .val (.int (1 : Int32)), .val (.int (1 : Int32))] [(.int (1 : Int32))])) _
          refine XS.ifNo X27.here hx rfl (hb hby at_104) rfl (by decide) ?_
          show Steps p.tables e below (T27.setTop (mkF m 107 #[.val (.int i0), .val (.int i1), .val (.int i2), .val (.ref a_NONE), .val (.int (0 : Int32)), .val (.int (1 : Int32)), .val (.int (1 : Int32)), .val (.int (1 : Int32)), .val (.int (1 : Int32)), .val (.int (1 : Int32))] [])) _
          refine XS.iload X27.here hx rfl (hb hby at_107) rfl ?_
          show Steps p.tables e below (T27.setTop (mkF m 109 #[.val (.int i0), .val (.int i1), .val (.int i2), .val (.ref a_NONE), .val (.int (0 : Int32)), .val (.int (1 : Int32)), .val (.int (1 : Int32)), .val (.int (1 : Int32)), .val (.int (1 : Int32)), .val (.int (1 : Int32))] [(.int (1 : Int32))])) _
          refine XS.ifNo X27.here hx rfl (hb hby at_109) rfl (by decide) ?_
          show Steps p.tables e below (T27.setTop (mkF m 112 #[.val (.int i0), .val (.int i1), .val (.int i2), .val (.ref a_NONE), .val (.int (0 : Int32)), .val (.int (1 : Int32)), .val (.int (1 : Int32)), .val (.int (1 : Int32)), .val (.int (1 : Int32)), .val (.int (1 : Int32))] [])) _
          refine XS.iload X27.here hx rfl (hb hby at_112) rfl ?_
          show Steps p.tables e below (T27.setTop (mkF m 114 #[.val (.int i0), .val (.int i1), .val (.int i2), .val (.ref a_NONE), .val (.int (0 : Int32)), .val (.int (1 : Int32)), .val (.int (1 : Int32)), .val (.int (1 : Int32)), .val (.int (1 : Int32)), .val (.int (1 : Int32))] [(.int (1 : Int32))])) _
          refine XS.ifNo X27.here hx rfl (hb hby at_114) rfl (by decide) ?_
          show Steps p.tables e below (T27.setTop (mkF m 117 #[.val (.int i0), .val (.int i1), .val (.int i2), .val (.ref a_NONE), .val (.int (0 : Int32)), .val (.int (1 : Int32)), .val (.int (1 : Int32)), .val (.int (1 : Int32)), .val (.int (1 : Int32)), .val (.int (1 : Int32))] [])) _
          refine XS.iconst X27.here hx rfl (hb hby at_117) ?_
          show Steps p.tables e below (T27.setTop (mkF m 118 #[.val (.int i0), .val (.int i1), .val (.int i2), .val (.ref a_NONE), .val (.int (0 : Int32)), .val (.int (1 : Int32)), .val (.int (1 : Int32)), .val (.int (1 : Int32)), .val (.int (1 : Int32)), .val (.int (1 : Int32))] [(.int (1 : Int32))])) _
          refine XS.goto X27.here hx rfl (pc0 := 118) (pc' := 122) rfl (hb hby at_118) (by decide) (by decide) ?_
          show Steps p.tables e below (T27.setTop (mkF m 122 #[.val (.int i0), .val (.int i1), .val (.int i2), .val (.ref a_NONE), .val (.int (0 : Int32)), .val (.int (1 : Int32)), .val (.int (1 : Int32)), .val (.int (1 : Int32)), .val (.int (1 : Int32)), .val (.int (1 : Int32))] [(.int (1 : Int32))])) _
          exact retN X27 hx (t := .boolean) Bd.returns (by simp) (hb hby at_122) hr
        · show QL n0 _ T27.heap _
          rw [hh27]
          exact ⟨rfl, N27⟩
  · skip
    have hk2 : (i0 &&& (2 : Int32)) = (0 : Int32) := own_k2 hk rfl
    obtain ⟨_, _, ⟨T28, L28, k28, n28⟩, -, X28, ⟨Lc28, hQ28, l28, y28, z28⟩, st28⟩ := Jvm.LawKit.callS X0 hx (y := (⟨"com/example/carbonfold/carbonfold/model/SubscriptionHasFromPinLaw", "pick", "(I)Lcom/example/carbonfold/carbonfold/model/RosterItem$Subscription;"⟩ : MethodName)) hown (mvT hZ (hw _ (List.mem_of_getElem? (i := 0) rfl))) (mvT hZ (hw _ (List.mem_of_getElem? (i := 1) rfl))) (mvT hZ (hw _ (List.mem_of_getElem? (i := 2) rfl))) (mvT hZ (hw _ (List.mem_of_getElem? (i := 3) rfl))) (by decide) (backOf (W := 0) (rm_pick1 l Z a0 hw [] i0 a_NONE a_FROM a_BOTH a_TO h0 n0 O0 En hk) hZ (hw _ (List.mem_of_getElem? (i := 3) rfl)) (hw _ (List.mem_of_getElem? (i := 2) rfl)) (by decide) (by decide)) (g := (mkF m 1 #[.val (.int i0), .val (.int i1), .val (.int i2), .unset, .unset, .unset, .unset, .unset, .unset, .unset] [(.int i0)])) rfl (by rw [hml]; rfl) (argsL := [(.int i0)]) (rest := []) (lenOf pd_0 rfl) rfl (by show 2 * 0 + _ ≤ _; exact Nat.le_of_eq rfl) (hb hby at_1) (fun _ _ => ⟨rfl, e0, (by decide : 0 + 0 ≤ _), (by decide : 0 + 0 ≤ _)⟩)
    dsimp only [Pt.U, Pt.locs, Pt.cells, Pt.slots] at X28 l28 y28 z28 st28 hQ28
    subst l28 y28 z28
    obtain ⟨rfl, N28q, hh28⟩ := hQ28
    have N28 := Fr.app N0 N28q
    have pre29 : ∀ t, Steps p.tables e below (T28.setTop (mkF m 21 #[.val (.int i0), .val (.int i1), .val (.int i2), .val (.ref a_TO), .val (.int (0 : Int32)), .unset, .unset, .unset, .unset, .unset] [(.int (i1 &&& (1 : Int32)))])) t → Steps p.tables e below (s₁.setTop (entryFrame m #[(.int i0), (.int i1), (.int i2)] maxLocals)) t := fun t kt => pre0 t (by
        show Steps p.tables e below (s₁.setTop (mkF m 0 #[.val (.int i0), .val (.int i1), .val (.int i2), .unset, .unset, .unset, .unset, .unset, .unset, .unset] [])) _
        refine XS.iloadN X0.here hx rfl (hb hby at_0) rfl ?_
        show Steps p.tables e below (s₁.setTop (mkF m 1 #[.val (.int i0), .val (.int i1), .val (.int i2), .unset, .unset, .unset, .unset, .unset, .unset, .unset] [(.int i0)])) _
        refine st28 _ ?_
        show Steps p.tables e below (T28.setTop (mkF m 4 #[.val (.int i0), .val (.int i1), .val (.int i2), .unset, .unset, .unset, .unset, .unset, .unset, .unset] [(.ref a_TO)])) _
        refine XS.astoreN X28.here hx rfl (hb hby at_4) rfl rfl (l' := #[.val (.int i0), .val (.int i1), .val (.int i2), .val (.ref a_TO), .unset, .unset, .unset, .unset, .unset, .unset]) rfl ?_
        show Steps p.tables e below (T28.setTop (mkF m 5 #[.val (.int i0), .val (.int i1), .val (.int i2), .val (.ref a_TO), .unset, .unset, .unset, .unset, .unset, .unset] [])) _
        refine XS.iloadN X28.here hx rfl (hb hby at_5) rfl ?_
        show Steps p.tables e below (T28.setTop (mkF m 6 #[.val (.int i0), .val (.int i1), .val (.int i2), .val (.ref a_TO), .unset, .unset, .unset, .unset, .unset, .unset] [(.int i0)])) _
        refine XS.iconst X28.here hx rfl (hb hby at_6) ?_
        show Steps p.tables e below (T28.setTop (mkF m 7 #[.val (.int i0), .val (.int i1), .val (.int i2), .val (.ref a_TO), .unset, .unset, .unset, .unset, .unset, .unset] [(.int (2 : Int32)), (.int i0)])) _
        refine XS.iand X28.here hx rfl (hb hby at_7) rfl ?_
        show Steps p.tables e below (T28.setTop (mkF m 8 #[.val (.int i0), .val (.int i1), .val (.int i2), .val (.ref a_TO), .unset, .unset, .unset, .unset, .unset, .unset] [(.int (i0 &&& (2 : Int32)))])) _
        rw [hk2]
        show Steps p.tables e below (T28.setTop (mkF m 8 #[.val (.int i0), .val (.int i1), .val (.int i2), .val (.ref a_TO), .unset, .unset, .unset, .unset, .unset, .unset] [(.int (0 : Int32))])) _
        refine XS.ifYes X28.here hx rfl (pc0 := 8) (pc' := 15) rfl (hb hby at_8) rfl (by decide) (by decide) (by decide) ?_
        show Steps p.tables e below (T28.setTop (mkF m 15 #[.val (.int i0), .val (.int i1), .val (.int i2), .val (.ref a_TO), .unset, .unset, .unset, .unset, .unset, .unset] [])) _
        refine XS.iconst X28.here hx rfl (hb hby at_15) ?_
        show Steps p.tables e below (T28.setTop (mkF m 16 #[.val (.int i0), .val (.int i1), .val (.int i2), .val (.ref a_TO), .unset, .unset, .unset, .unset, .unset, .unset] [(.int (0 : Int32))])) _
        refine XS.istore X28.here hx rfl (hb hby at_16) rfl (l' := #[.val (.int i0), .val (.int i1), .val (.int i2), .val (.ref a_TO), .val (.int (0 : Int32)), .unset, .unset, .unset, .unset, .unset]) rfl ?_
        show Steps p.tables e below (T28.setTop (mkF m 18 #[.val (.int i0), .val (.int i1), .val (.int i2), .val (.ref a_TO), .val (.int (0 : Int32)), .unset, .unset, .unset, .unset, .unset] [])) _
        refine XS.iloadN X28.here hx rfl (hb hby at_18) rfl ?_
        show Steps p.tables e below (T28.setTop (mkF m 19 #[.val (.int i0), .val (.int i1), .val (.int i2), .val (.ref a_TO), .val (.int (0 : Int32)), .unset, .unset, .unset, .unset, .unset] [(.int i1)])) _
        refine XS.iconst X28.here hx rfl (hb hby at_19) ?_
        show Steps p.tables e below (T28.setTop (mkF m 20 #[.val (.int i0), .val (.int i1), .val (.int i2), .val (.ref a_TO), .val (.int (0 : Int32)), .unset, .unset, .unset, .unset, .unset] [(.int (1 : Int32)), (.int i1)])) _
        refine XS.iand X28.here hx rfl (hb hby at_20) rfl ?_
        exact kt)
    rcases own_b i1 with hk30 | hk30
    · skip
      have pre31 : ∀ t, Steps p.tables e below (T28.setTop (mkF m 34 #[.val (.int i0), .val (.int i1), .val (.int i2), .val (.ref a_TO), .val (.int (0 : Int32)), .val (.int (0 : Int32)), .unset, .unset, .unset, .unset] [(.int (i2 &&& (1 : Int32)))])) t → Steps p.tables e below (s₁.setTop (entryFrame m #[(.int i0), (.int i1), (.int i2)] maxLocals)) t := fun t kt => pre29 t (by
          show Steps p.tables e below (T28.setTop (mkF m 21 #[.val (.int i0), .val (.int i1), .val (.int i2), .val (.ref a_TO), .val (.int (0 : Int32)), .unset, .unset, .unset, .unset, .unset] [(.int (i1 &&& (1 : Int32)))])) _
          rw [hk30]
          show Steps p.tables e below (T28.setTop (mkF m 21 #[.val (.int i0), .val (.int i1), .val (.int i2), .val (.ref a_TO), .val (.int (0 : Int32)), .unset, .unset, .unset, .unset, .unset] [(.int (0 : Int32))])) _
          refine XS.ifYes X28.here hx rfl (pc0 := 21) (pc' := 28) rfl (hb hby at_21) rfl (by decide) (by decide) (by decide) ?_
          show Steps p.tables e below (T28.setTop (mkF m 28 #[.val (.int i0), .val (.int i1), .val (.int i2), .val (.ref a_TO), .val (.int (0 : Int32)), .unset, .unset, .unset, .unset, .unset] [])) _
          refine XS.iconst X28.here hx rfl (hb hby at_28) ?_
          show Steps p.tables e below (T28.setTop (mkF m 29 #[.val (.int i0), .val (.int i1), .val (.int i2), .val (.ref a_TO), .val (.int (0 : Int32)), .unset, .unset, .unset, .unset, .unset] [(.int (0 : Int32))])) _
          refine XS.istore X28.here hx rfl (hb hby at_29) rfl (l' := #[.val (.int i0), .val (.int i1), .val (.int i2), .val (.ref a_TO), .val (.int (0 : Int32)), .val (.int (0 : Int32)), .unset, .unset, .unset, .unset]) rfl ?_
          show Steps p.tables e below (T28.setTop (mkF m 31 #[.val (.int i0), .val (.int i1), .val (.int i2), .val (.ref a_TO), .val (.int (0 : Int32)), .val (.int (0 : Int32)), .unset, .unset, .unset, .unset] [])) _
          refine XS.iloadN X28.here hx rfl (hb hby at_31) rfl ?_
          show Steps p.tables e below (T28.setTop (mkF m 32 #[.val (.int i0), .val (.int i1), .val (.int i2), .val (.ref a_TO), .val (.int (0 : Int32)), .val (.int (0 : Int32)), .unset, .unset, .unset, .unset] [(.int i2)])) _
          refine XS.iconst X28.here hx rfl (hb hby at_32) ?_
          show Steps p.tables e below (T28.setTop (mkF m 33 #[.val (.int i0), .val (.int i1), .val (.int i2), .val (.ref a_TO), .val (.int (0 : Int32)), .val (.int (0 : Int32)), .unset, .unset, .unset, .unset] [(.int (1 : Int32)), (.int i2)])) _
          refine XS.iand X28.here hx rfl (hb hby at_33) rfl ?_
          exact kt)
      rcases own_b i2 with hk32 | hk32
      · skip
        obtain ⟨cq33, kq33, q33a, q33b, q33c⟩ := isOf hZ hh28 (Exa.ext O0.2 X_a_TO)
        obtain ⟨_, _, ⟨T33, L33, k33, n33⟩, -, X33, ⟨Lc33, hQ33, l33, y33, z33⟩, st33⟩ := X28.virtualBack hx (y := (⟨"com/example/carbonfold/carbonfold/model/RosterItem$Subscription", "hasFrom", "()Z"⟩ : MethodName)) (z := (⟨"com/example/carbonfold/carbonfold/model/RosterItem$Subscription", "hasFrom", "()Z"⟩ : MethodName)) hown (mvT hZ (hw _ (List.mem_of_getElem? (i := 7) rfl))) (mvT hZ (hw _ (List.mem_of_getElem? (i := 8) rfl))) (notFace_of_selects (args := #[]) (mvT hZ (hw _ (List.mem_of_getElem? (i := 10) rfl)))) (mvT hZ (hw _ (List.mem_of_getElem? (i := 10) rfl))) (mvT hZ (hw _ (List.mem_of_getElem? (i := 9) rfl))) (by decide) (backOf (W := 0) (rm_hasFrom_8 l Z a0 hw [] a_NONE a_FROM a_BOTH a_TO h0 n0 O0 En) hZ (hw _ (List.mem_of_getElem? (i := 11) rfl)) (hw _ (List.mem_of_getElem? (i := 5) rfl)) (by decide) (by decide)) q33a q33c (g := (mkF m 45 #[.val (.int i0), .val (.int i1), .val (.int i2), .val (.ref a_TO), .val (.int (0 : Int32)), .val (.int (0 : Int32)), .val (.int (0 : Int32)), .unset, .unset, .unset] [(.ref a_TO)])) rfl (by rw [hml]; rfl) (Steps.refl _) (argsL := []) (rest := []) (lenOf pd_1 rfl) rfl (by show 2 * 0 + _ ≤ _; exact Nat.le_of_eq rfl) (hb hby at_45) (fun _ _ => ⟨rfl, hh28, (by decide : 0 + 0 ≤ _), (by decide : 0 + 0 ≤ _)⟩)
        dsimp only [Pt.U, Pt.locs, Pt.cells, Pt.slots] at X33 l33 y33 z33 st33 hQ33
        subst l33 y33 z33
        obtain ⟨rfl, N33q, hh33⟩ := hQ33
        have N33 := Fr.app N28 N33q
        obtain ⟨cq34, kq34, q34a, q34b, q34c⟩ := isOf hZ hh33 (Exa.ext O0.2 X_a_TO)
        obtain ⟨_, _, ⟨T34, L34, k34, n34⟩, -, X34, ⟨Lc34, hQ34, l34, y34, z34⟩, st34⟩ := X33.virtualBack hx (y := (⟨"com/example/carbonfold/carbonfold/model/RosterItem$Subscription", "withFrom", "(Z)Lcom/example/carbonfold/carbonfold/model/RosterItem$Subscription;"⟩ : MethodName)) (z := (⟨"com/example/carbonfold/carbonfold/model/RosterItem$Subscription", "withFrom", "(Z)Lcom/example/carbonfold/carbonfold/model/RosterItem$Subscription;"⟩ : MethodName)) hown (mvT hZ (hw _ (List.mem_of_getElem? (i := 16) rfl))) (mvT hZ (hw _ (List.mem_of_getElem? (i := 17) rfl))) (notFace_of_selects (args := #[]) (mvT hZ (hw _ (List.mem_of_getElem? (i := 19) rfl)))) (mvT hZ (hw _ (List.mem_of_getElem? (i := 19) rfl))) (mvT hZ (hw _ (List.mem_of_getElem? (i := 18) rfl))) (by decide) (backOf (W := 0) (rm_withFrom_12 l Z a0 hw [] a_NONE a_FROM a_BOTH a_TO h0 n0 O0 En) hZ (hw _ (List.mem_of_getElem? (i := 20) rfl)) (hw _ (List.mem_of_getElem? (i := 5) rfl)) (by decide) (by decide)) q34a q34c (g := (mkF m 63 #[.val (.int i0), .val (.int i1), .val (.int i2), .val (.ref a_TO), .val (.int (0 : Int32)), .val (.int (0 : Int32)), .val (.int (0 : Int32)), .val (.int (1 : Int32)), .unset, .unset] [(.int (0 : Int32)), (.ref a_TO)])) rfl (by rw [hml]; rfl) (Steps.refl _) (argsL := [(.int (0 : Int32))]) (rest := []) (lenOf pd_3 rfl) rfl (by show 2 * 0 + _ ≤ _; exact Nat.le_of_eq rfl) (hb hby at_63) (fun _ _ => ⟨rfl, hh33, (by decide : 0 + 0 ≤ _), (by decide : 0 + 0 ≤ _)⟩)
        dsimp only [Pt.U, Pt.locs, Pt.cells, Pt.slots] at X34 l34 y34 z34 st34 hQ34
        subst l34 y34 z34
        obtain ⟨rfl, N34q, hh34⟩ := hQ34
        have N34 := Fr.app N33 N34q
        obtain ⟨cq35, kq35, q35a, q35b, q35c⟩ := isOf hZ hh34 (Exa.ext O0.2 X_a_TO)
        obtain ⟨_, _, ⟨T35, L35, k35, n35⟩, -, X35, ⟨Lc35, hQ35, l35, y35, z35⟩, st35⟩ := X34.virtualBack hx (y := (⟨"com/example/carbonfold/carbonfold/model/RosterItem$Subscription", "hasFrom", "()Z"⟩ : MethodName)) (z := (⟨"com/example/carbonfold/carbonfold/model/RosterItem$Subscription", "hasFrom", "()Z"⟩ : MethodName)) hown (mvT hZ (hw _ (List.mem_of_getElem? (i := 7) rfl))) (mvT hZ (hw _ (List.mem_of_getElem? (i := 8) rfl))) (notFace_of_selects (args := #[]) (mvT hZ (hw _ (List.mem_of_getElem? (i := 10) rfl)))) (mvT hZ (hw _ (List.mem_of_getElem? (i := 10) rfl))) (mvT hZ (hw _ (List.mem_of_getElem? (i := 9) rfl))) (by decide) (backOf (W := 0) (rm_hasFrom_8 l Z a0 hw [] a_NONE a_FROM a_BOTH a_TO h0 n0 O0 En) hZ (hw _ (List.mem_of_getElem? (i := 11) rfl)) (hw _ (List.mem_of_getElem? (i := 5) rfl)) (by decide) (by decide)) q35a q35c (g := (mkF m 66 #[.val (.int i0), .val (.int i1), .val (.int i2), .val (.ref a_TO), .val (.int (0 : Int32)), .val (.int (0 : Int32)), .val (.int (0 : Int32)), .val (.int (1 : Int32)), .unset, .unset] [(.ref a_TO)])) rfl (by rw [hml]; rfl) (Steps.refl _) (argsL := []) (rest := []) (lenOf pd_1 rfl) rfl (by show 2 * 0 + _ ≤ _; exact Nat.le_of_eq rfl) (hb hby at_66) (fun _ _ => ⟨rfl, hh34, (by decide : 0 + 0 ≤ _), (by decide : 0 + 0 ≤ _)⟩)
        dsimp only [Pt.U, Pt.locs, Pt.cells, Pt.slots] at X35 l35 y35 z35 st35 hQ35
        subst l35 y35 z35
        obtain ⟨rfl, N35q, hh35⟩ := hQ35
        have N35 := Fr.app N34 N35q
        obtain ⟨cq36, kq36, q36a, q36b, q36c⟩ := isOf hZ hh35 (Exa.ext O0.2 X_a_TO)
        obtain ⟨_, _, ⟨T36, L36, k36, n36⟩, -, X36, ⟨Lc36, hQ36, l36, y36, z36⟩, st36⟩ := X35.virtualBack hx (y := (⟨"com/example/carbonfold/carbonfold/model/RosterItem$Subscription", "withTo", "(Z)Lcom/example/carbonfold/carbonfold/model/RosterItem$Subscription;"⟩ : MethodName)) (z := (⟨"com/example/carbonfold/carbonfold/model/RosterItem$Subscription", "withTo", "(Z)Lcom/example/carbonfold/carbonfold/model/RosterItem$Subscription;"⟩ : MethodName)) hown (mvT hZ (hw _ (List.mem_of_getElem? (i := 31) rfl))) (mvT hZ (hw _ (List.mem_of_getElem? (i := 32) rfl))) (notFace_of_selects (args := #[]) (mvT hZ (hw _ (List.mem_of_getElem? (i := 34) rfl)))) (mvT hZ (hw _ (List.mem_of_getElem? (i := 34) rfl))) (mvT hZ (hw _ (List.mem_of_getElem? (i := 33) rfl))) (by decide) (backOf (W := 0) (rm_withTo_14 l Z a0 hw [] a_NONE a_FROM a_BOTH a_TO h0 n0 O0 En) hZ (hw _ (List.mem_of_getElem? (i := 35) rfl)) (hw _ (List.mem_of_getElem? (i := 5) rfl)) (by decide) (by decide)) q36a q36c (g := (mkF m 84 #[.val (.int i0), .val (.int i1), .val (.int i2), .val (.ref a_TO), .val (.int (0 : Int32)), .val (.int (0 : Int32)), .val (.int (0 : Int32)), .val (.int (1 : Int32)), .val (.int (1 : Int32)), .unset] [(.int (0 : Int32)), (.ref a_TO)])) rfl (by rw [hml]; rfl) (Steps.refl _) (argsL := [(.int (0 : Int32))]) (rest := []) (lenOf pd_3 rfl) rfl (by show 2 * 0 + _ ≤ _; exact Nat.le_of_eq rfl) (hb hby at_84) (fun _ _ => ⟨rfl, hh35, (by decide : 0 + 0 ≤ _), (by decide : 0 + 0 ≤ _)⟩)
        dsimp only [Pt.U, Pt.locs, Pt.cells, Pt.slots] at X36 l36 y36 z36 st36 hQ36
        subst l36 y36 z36
        obtain ⟨rfl, N36q, hh36⟩ := hQ36
        have N36 := Fr.app N35 N36q
        obtain ⟨cq37, kq37, q37a, q37b, q37c⟩ := isOf hZ hh36 (Exa.ext O0.2 X_a_NONE)
        obtain ⟨_, _, ⟨T37, L37, k37, n37⟩, -, X37, ⟨Lc37, hQ37, l37, y37, z37⟩, st37⟩ := X36.virtualBack hx (y := (⟨"com/example/carbonfold/carbonfold/model/RosterItem$Subscription", "hasFrom", "()Z"⟩ : MethodName)) (z := (⟨"com/example/carbonfold/carbonfold/model/RosterItem$Subscription", "hasFrom", "()Z"⟩ : MethodName)) hown (mvT hZ (hw _ (List.mem_of_getElem? (i := 7) rfl))) (mvT hZ (hw _ (List.mem_of_getElem? (i := 8) rfl))) (notFace_of_selects (args := #[]) (mvT hZ (hw _ (List.mem_of_getElem? (i := 10) rfl)))) (mvT hZ (hw _ (List.mem_of_getElem? (i := 10) rfl))) (mvT hZ (hw _ (List.mem_of_getElem? (i := 9) rfl))) (by decide) (backOf (W := 0) (rm_hasFrom_1 l Z a0 hw [] a_NONE a_FROM a_BOTH a_TO h0 n0 O0 En) hZ (hw _ (List.mem_of_getElem? (i := 11) rfl)) (hw _ (List.mem_of_getElem? (i := 5) rfl)) (by decide) (by decide)) q37a q37c (g := (mkF m 87 #[.val (.int i0), .val (.int i1), .val (.int i2), .val (.ref a_TO), .val (.int (0 : Int32)), .val (.int (0 : Int32)), .val (.int (0 : Int32)), .val (.int (1 : Int32)), .val (.int (1 : Int32)), .unset] [(.ref a_NONE)])) rfl (by rw [hml]; rfl) (Steps.refl _) (argsL := []) (rest := []) (lenOf pd_1 rfl) rfl (by show 2 * 0 + _ ≤ _; exact Nat.le_of_eq rfl) (hb hby at_87) (fun _ _ => ⟨rfl, hh36, (by decide : 0 + 0 ≤ _), (by decide : 0 + 0 ≤ _)⟩)
        dsimp only [Pt.U, Pt.locs, Pt.cells, Pt.slots] at X37 l37 y37 z37 st37 hQ37
        subst l37 y37 z37
        obtain ⟨rfl, N37q, hh37⟩ := hQ37
        have N37 := Fr.app N36 N37q
        obtain ⟨fs, hr, hrun, hended, hW, hsame⟩ := X37.leave (v := some (.int (1 : Int32))) (fun h => by rw [Bd.returns] at h; cases h)
        refine ⟨_, _, pre31 _ ?_, hrun, hended, _, _, rfl, ?_, ⟨_, rfl⟩, hW, hsame.mono (by decide) (by decide)⟩
        · skip
          show Steps p.tables e below (T28.setTop (mkF m 34 #[.val (.int i0), .val (.int i1), .val (.int i2), .val (.ref a_TO), .val (.int (0 : Int32)), .val (.int (0 : Int32)), .unset, .unset, .unset, .unset] [(.int (i2 &&& (1 : Int32)))])) _
          rw [hk32]
          show Steps p.tables e below (T28.setTop (mkF m 34 #[.val (.int i0), .val (.int i1), .val (.int i2), .val (.ref a_TO), .val (.int (0 : Int32)), .val (.int (0 : Int32)), .unset, .unset, .unset, .unset] [(.int (0 : Int32))])) _
          refine XS.ifYes X28.here hx rfl (pc0 := 34) (pc' := 41) rfl (hb hby at_34) rfl (by decide) (by decide) (by decide) ?_
          show Steps p.tables e below (T28.setTop (mkF m 41 #[.val (.int i0), .val (.int i1), .val (.int i2), .val (.ref a_TO), .val (.int (0 : Int32)), .val (.int (0 : Int32)), .unset, .unset, .unset, .unset] [])) _
          refine XS.iconst X28.here hx rfl (hb hby at_41) ?_
          show Steps p.tables e below (T28.setTop (mkF m 42 #[.val (.int i0), .val (.int i1), .val (.int i2), .val (.ref a_TO), .val (.int (0 : Int32)), .val (.int (0 : Int32)), .unset, .unset, .unset, .unset] [(.int (0 : Int32))])) _
          refine XS.istore X28.here hx rfl (hb hby at_42) rfl (l' := #[.val (.int i0), .val (.int i1), .val (.int i2), .val (.ref a_TO), .val (.int (0 : Int32)), .val (.int (0 : Int32)), .val (.int (0 : Int32)), .unset, .unset, .unset]) rfl ?_
          show Steps p.tables e below (T28.setTop (mkF m 44 #[.val (.int i0), .val (.int i1), .val (.int i2), .val (.ref a_TO), .val (.int (0 : Int32)), .val (.int (0 : Int32)), .val (.int (0 : Int32)), .unset, .unset, .unset] [])) _
          refine XS.aloadN X28.here hx rfl (hb hby at_44) rfl rfl ?_
          show Steps p.tables e below (T28.setTop (mkF m 45 #[.val (.int i0), .val (.int i1), .val (.int i2), .val (.ref a_TO), .val (.int (0 : Int32)), .val (.int (0 : Int32)), .val (.int (0 : Int32)), .unset, .unset, .unset] [(.ref a_TO)])) _
          refine st33.trans ?_
          show Steps p.tables e below (T33.setTop (mkF m 48 #[.val (.int i0), .val (.int i1), .val (.int i2), .val (.ref a_TO), .val (.int (0 : Int32)), .val (.int (0 : Int32)), .val (.int (0 : Int32)), .unset, .unset, .unset] [(.int (0 : Int32))])) _
          refine XS.iload X33.here hx rfl (hb hby at_48) rfl ?_
          show Steps p.tables e below (T33.setTop (mkF m 50 #[.val (.int i0), .val (.int i1), .val (.int i2), .val (.ref a_TO), .val (.int (0 : Int32)), .val (.int (0 : Int32)), .val (.int (0 : Int32)), .unset, .unset, .unset] [(.int (0 : Int32)), (.int (0 : Int32))])) _
          refine XS.icmpNo X33.here hx rfl (hb hby at_50) rfl (by decide) ?_
          show Steps p.tables e below (T33.setTop (mkF m 53 #[.val (.int i0), .val (.int i1), .val (.int i2), .val (.ref a_TO), .val (.int (0 : Int32)), .val (.int (0 : Int32)), .val (.int (0 : Int32)), .unset, .unset, .unset] [])) _
          refine XS.iconst X33.here hx rfl (hb hby at_53) ?_
          show Steps p.tables e below (T33.setTop (mkF m 54 #[.val (.int i0), .val (.int i1), .val (.int i2), .val (.ref a_TO), .val (.int (0 : Int32)), .val (.int (0 : Int32)), .val (.int (0 : Int32)), .unset, .unset, .unset] [(.int (1 : Int32))])) _
          refine XS.goto X33.here hx rfl (pc0 := 54) (pc' := 58) rfl (hb hby at_54) (by decide) (by decide) ?_
          show Steps p.tables e below (T33.setTop (mkF m 58 #[.val (.int i0), .val (.int i1), .val (.int i2), .val (.ref a_TO), .val (.int (0 : Int32)), .val (.int (0 : Int32)), .val (.int (0 : Int32)), .unset, .unset, .unset] [(.int (1 : Int32))])) _
          refine XS.istore X33.here hx rfl (hb hby at_58) rfl (l' := #[.val (.int i0), .val (.int i1), .val (.int i2), .val (.ref a_TO), .val (.int (0 : Int32)), .val (.int (0 : Int32)), .val (.int (0 : Int32)), .val (.int (1 : Int32)), .unset, .unset]) rfl ?_
          show Steps p.tables e below (T33.setTop (mkF m 60 #[.val (.int i0), .val (.int i1), .val (.int i2), .val (.ref a_TO), .val (.int (0 : Int32)), .val (.int (0 : Int32)), .val (.int (0 : Int32)), .val (.int (1 : Int32)), .unset, .unset] [])) _
          refine XS.aloadN X33.here hx rfl (hb hby at_60) rfl rfl ?_
          show Steps p.tables e below (T33.setTop (mkF m 61 #[.val (.int i0), .val (.int i1), .val (.int i2), .val (.ref a_TO), .val (.int (0 : Int32)), .val (.int (0 : Int32)), .val (.int (0 : Int32)), .val (.int (1 : Int32)), .unset, .unset] [(.ref a_TO)])) _
          refine XS.iload X33.here hx rfl (hb hby at_61) rfl ?_
          show Steps p.tables e below (T33.setTop (mkF m 63 #[.val (.int i0), .val (.int i1), .val (.int i2), .val (.ref a_TO), .val (.int (0 : Int32)), .val (.int (0 : Int32)), .val (.int (0 : Int32)), .val (.int (1 : Int32)), .unset, .unset] [(.int (0 : Int32)), (.ref a_TO)])) _
          refine st34.trans ?_
          show Steps p.tables e below (T34.setTop (mkF m 66 #[.val (.int i0), .val (.int i1), .val (.int i2), .val (.ref a_TO), .val (.int (0 : Int32)), .val (.int (0 : Int32)), .val (.int (0 : Int32)), .val (.int (1 : Int32)), .unset, .unset] [(.ref a_TO)])) _
          refine st35.trans ?_
          show Steps p.tables e below (T35.setTop (mkF m 69 #[.val (.int i0), .val (.int i1), .val (.int i2), .val (.ref a_TO), .val (.int (0 : Int32)), .val (.int (0 : Int32)), .val (.int (0 : Int32)), .val (.int (1 : Int32)), .unset, .unset] [(.int (0 : Int32))])) _
          refine XS.iload X35.here hx rfl (hb hby at_69) rfl ?_
          show Steps p.tables e below (T35.setTop (mkF m 71 #[.val (.int i0), .val (.int i1), .val (.int i2), .val (.ref a_TO), .val (.int (0 : Int32)), .val (.int (0 : Int32)), .val (.int (0 : Int32)), .val (.int (1 : Int32)), .unset, .unset] [(.int (0 : Int32)), (.int (0 : Int32))])) _
          refine XS.icmpNo X35.here hx rfl (hb hby at_71) rfl (by decide) ?_
          show Steps p.tables e below (T35.setTop (mkF m 74 #[.val (.int i0), .val (.int i1), .val (.int i2), .val (.ref a_TO), .val (.int (0 : Int32)), .val (.int (0 : Int32)), .val (.int (0 : Int32)), .val (.int (1 : Int32)), .unset, .unset] [])) _
          refine XS.iconst X35.here hx rfl (hb hby at_74) ?_
          show Steps p.tables e below (T35.setTop (mkF m 75 #[.val (.int i0), .val (.int i1), .val (.int i2), .val (.ref a_TO), .val (.int (0 : Int32)), .val (.int (0 : Int32)), .val (.int (0 : Int32)), .val (.int (1 : Int32)), .unset, .unset] [(.int (1 : Int32))])) _
          refine XS.goto X35.here hx rfl (pc0 := 75) (pc' := 79) rfl (hb hby at_75) (by decide) (by decide) ?_
          show Steps p.tables e below (T35.setTop (mkF m 79 #[.val (.int i0), .val (.int i1), .val (.int i2), .val (.ref a_TO), .val (.int (0 : Int32)), .val (.int (0 : Int32)), .val (.int (0 : Int32)), .val (.int (1 : Int32)), .unset, .unset] [(.int (1 : Int32))])) _
          refine XS.istore X35.here hx rfl (hb hby at_79) rfl (l' := #[.val (.int i0), .val (.int i1), .val (.int i2), .val (.ref a_TO), .val (.int (0 : Int32)), .val (.int (0 : Int32)), .val (.int (0 : Int32)), .val (.int (1 : Int32)), .val (.int (1 : Int32)), .unset]) rfl ?_
          show Steps p.tables e below (T35.setTop (mkF m 81 #[.val (.int i0), .val (.int i1), .val (.int i2), .val (.ref a_TO), .val (.int (0 : Int32)), .val (.int (0 : Int32)), .val (.int (0 : Int32)), .val (.int (1 : Int32)), .val (.int (1 : Int32)), .unset] [])) _
          refine XS.aloadN X35.here hx rfl (hb hby at_81) rfl rfl ?_
          show Steps p.tables e below (T35.setTop (mkF m 82 #[.val (.int i0), .val (.int i1), .val (.int i2), .val (.ref a_TO), .val (.int (0 : Int32)), .val (.int (0 : Int32)), .val (.int (0 : Int32)), .val (.int (1 : Int32)), .val (.int (1 : Int32)), .unset] [(.ref a_TO)])) _
          refine XS.iload X35.here hx rfl (hb hby at_82) rfl ?_
          show Steps p.tables e below (T35.setTop (mkF m 84 #[.val (.int i0), .val (.int i1), .val (.int i2), .val (.ref a_TO), .val (.int (0 : Int32)), .val (.int (0 : Int32)), .val (.int (0 : Int32)), .val (.int (1 : Int32)), .val (.int (1 : Int32)), .unset] [(.int (0 : Int32)), (.ref a_TO)])) _
          refine st36.trans ?_
          show Steps p.tables e below (T36.setTop (mkF m 87 #[.val (.int i0), .val (.int i1), .val (.int i2), .val (.ref a_TO), .val (.int (0 : Int32)), .val (.int (0 : Int32)), .val (.int (0 : Int32)), .val (.int (1 : Int32)), .val (.int (1 : Int32)), .unset] [(.ref a_NONE)])) _
          refine st37.trans ?_
          show Steps p.tables e below (T37.setTop (mkF m 90 #[.val (.int i0), .val (.int i1), .val (.int i2), .val (.ref a_TO), .val (.int (0 : Int32)), .val (.int (0 : Int32)), .val (.int (0 : Int32)), .val (.int (1 : Int32)), .val (.int (1 : Int32)), .unset] [(.int (0 : Int32))])) _
          refine XS.iload X37.here hx rfl (hb hby at_90) rfl ?_
          show Steps p.tables e below (T37.setTop (mkF m 92 #[.val (.int i0), .val (.int i1), .val (.int i2), .val (.ref a_TO), .val (.int (0 : Int32)), .val (.int (0 : Int32)), .val (.int (0 : Int32)), .val (.int (1 : Int32)), .val (.int (1 : Int32)), .unset] [(.int (0 : Int32)), (.int (0 : Int32))])) _
          refine XS.icmpNo X37.here hx rfl (hb hby at_92) rfl (by decide) ?_
          show Steps p.tables e below (T37.setTop (mkF m 95 #[.val (.int i0), .val (.int i1), .val (.int i2), .val (.ref a_TO), .val (.int (0 : Int32)), .val (.int (0 : Int32)), .val (.int (0 : Int32)), .val (.int (1 : Int32)), .val (.int (1 : Int32)), .unset] [])) _
          refine XS.iconst X37.here hx rfl (hb hby at_95) ?_
          show Steps p.tables e below (T37.setTop (mkF m 96 #[.val (.int i0), .val (.int i1), .val (.int i2), .val (.ref a_TO), .val (.int (0 : Int32)), .val (.int (0 : Int32)), .val (.int (0 : Int32)), .val (.int (1 : Int32)), .val (.int (1 : Int32)), .unset] [(.int (1 : Int32))])) _
          refine XS.goto X37.here hx rfl (pc0 := 96) (pc' := 100) rfl (hb hby at_96) (by decide) (by decide) ?_
          show Steps p.tables e below (T37.setTop (mkF m 100 #[.val (.int i0), .val (.int i1), .val (.int i2), .val (.ref a_TO), .val (.int (0 : Int32)), .val (.int (0 : Int32)), .val (.int (0 : Int32)), .val (.int (1 : Int32)), .val (.int (1 : Int32)), .unset] [(.int (1 : Int32))])) _
          refine XS.istore X37.here hx rfl (hb hby at_100) rfl (l' := #[.val (.int i0), .val (.int i1), .val (.int i2), .val (.ref a_TO), .val (.int (0 : Int32)), .val (.int (0 : Int32)), .val (.int (0 : Int32)), .val (.int (1 : Int32)), .val (.int (1 : Int32)), .val (.int (1 : Int32))]) rfl ?_
          show Steps p.tables e below (T37.setTop (mkF m 102 #[.val (.int i0), .val (.int i1), .val (.int i2), .val (.ref a_TO), .val (.int (0 : Int32)), .val (.int (0 : Int32)), .val (.int (0 : Int32)), .val (.int (1 : Int32)), .val (.int (1 : Int32)), .val (.int (1 : Int32))] [])) _
          refine XS.iload X37.here hx rfl (hb hby at_102) rfl ?_
          show Steps p.tables e below (T37.setTop (mkF m 104 #[.val (.int i0), .val (.int i1), .val (.int i2), .val (.ref a_TO), .val (.int (0 : Int32)), .val (.int (0 : Int32)), .val (.int (0 : Int32)), .val (.int (1 : Int32)), .val (.int (1 : Int32)), .val (.int (1 : Int32))] [(.int (1 : Int32))])) _
          refine XS.ifNo X37.here hx rfl (hb hby at_104) rfl (by decide) ?_
          show Steps p.tables e below (T37.setTop (mkF m 107 #[.val (.int i0), .val (.int i1), .val (.int i2), .val (.ref a_TO), .val (.int (0 : Int32)), .val (.int (0 : Int32)), .val (.int (0 : Int32)), .val (.int (1 : Int32)), .val (.int (1 : Int32)), .val (.int (1 : Int32))] [])) _
          refine XS.iload X37.here hx rfl (hb hby at_107) rfl ?_
          show Steps p.tables e below (T37.setTop (mkF m 109 #[.val (.int i0), .val (.int i1), .val (.int i2), .val (.ref a_TO), .val (.int (0 : Int32)), .val (.int (0 : Int32)), .val (.int (0 : Int32)), .val (.int (1 : Int32)), .val (.int (1 : Int32)), .val (.int (1 : Int32))] [(.int (1 : Int32))])) _
          refine XS.ifNo X37.here hx rfl (hb hby at_109) rfl (by decide) ?_
          show Steps p.tables e below (T37.setTop (mkF m 112 #[.val (.int i0), .val (.int i1), .val (.int i2), .val (.ref a_TO), .val (.int (0 : Int32)), .val (.int (0 : Int32)), .val (.int (0 : Int32)), .val (.int (1 : Int32)), .val (.int (1 : Int32)), .val (.int (1 : Int32))] [])) _
          refine XS.iload X37.here hx rfl (hb hby at_112) rfl ?_
          show Steps p.tables e below (T37.setTop (mkF m 114 #[.val (.int i0), .val (.int i1), .val (.int i2), .val (.ref a_TO), .val (.int (0 : Int32)), .val (.int (0 : Int32)), .val (.int (0 : Int32)), .val (.int (1 : Int32)), .val (.int (1 : Int32)), .val (.int (1 : Int32))] [(.int (1 : Int32))])) _
          refine XS.ifNo X37.here hx rfl (hb hby at_114) rfl (by decide) ?_
          show Steps p.tables e below (T37.setTop (mkF m 117 #[.val (.int i0), .val (.int i1), .val (.int i2), .val (.ref a_TO), .val (.int (0 : Int32)), .val (.int (0 : Int32)), .val (.int (0 : Int32)), .val (.int (1 : Int32)), .val (.int (1 : Int32)), .val (.int (1 : Int32))] [])) _
          refine XS.iconst X37.here hx rfl (hb hby at_117) ?_
          show Steps p.tables e below (T37.setTop (mkF m 118 #[.val (.int i0), .val (.int i1), .val (.int i2), .val (.ref a_TO), .val (.int (0 : Int32)), .val (.int (0 : Int32)), .val (.int (0 : Int32)), .val (.int (1 : Int32)), .val (.int (1 : Int32)), .val (.int (1 : Int32))] [(.int (1 : Int32))])) _
          refine XS.goto X37.here hx rfl (pc0 := 118) (pc' := 122) rfl (hb hby at_118) (by decide) (by decide) ?_
          show Steps p.tables e below (T37.setTop (mkF m 122 #[.val (.int i0), .val (.int i1), .val (.int i2), .val (.ref a_TO), .val (.int (0 : Int32)), .val (.int (0 : Int32)), .val (.int (0 : Int32)), .val (.int (1 : Int32)), .val (.int (1 : Int32)), .val (.int (1 : Int32))] [(.int (1 : Int32))])) _
          exact retN X37 hx (t := .boolean) Bd.returns (by simp) (hb hby at_122) hr
        · show QL n0 _ T37.heap _
          rw [hh37]
          exact ⟨rfl, N37⟩
      · skip
        obtain ⟨cq38, kq38, q38a, q38b, q38c⟩ := isOf hZ hh28 (Exa.ext O0.2 X_a_TO)
        obtain ⟨_, _, ⟨T38, L38, k38, n38⟩, -, X38, ⟨Lc38, hQ38, l38, y38, z38⟩, st38⟩ := X28.virtualBack hx (y := (⟨"com/example/carbonfold/carbonfold/model/RosterItem$Subscription", "hasFrom", "()Z"⟩ : MethodName)) (z := (⟨"com/example/carbonfold/carbonfold/model/RosterItem$Subscription", "hasFrom", "()Z"⟩ : MethodName)) hown (mvT hZ (hw _ (List.mem_of_getElem? (i := 7) rfl))) (mvT hZ (hw _ (List.mem_of_getElem? (i := 8) rfl))) (notFace_of_selects (args := #[]) (mvT hZ (hw _ (List.mem_of_getElem? (i := 10) rfl)))) (mvT hZ (hw _ (List.mem_of_getElem? (i := 10) rfl))) (mvT hZ (hw _ (List.mem_of_getElem? (i := 9) rfl))) (by decide) (backOf (W := 0) (rm_hasFrom_8 l Z a0 hw [] a_NONE a_FROM a_BOTH a_TO h0 n0 O0 En) hZ (hw _ (List.mem_of_getElem? (i := 11) rfl)) (hw _ (List.mem_of_getElem? (i := 5) rfl)) (by decide) (by decide)) q38a q38c (g := (mkF m 45 #[.val (.int i0), .val (.int i1), .val (.int i2), .val (.ref a_TO), .val (.int (0 : Int32)), .val (.int (0 : Int32)), .val (.int (1 : Int32)), .unset, .unset, .unset] [(.ref a_TO)])) rfl (by rw [hml]; rfl) (Steps.refl _) (argsL := []) (rest := []) (lenOf pd_1 rfl) rfl (by show 2 * 0 + _ ≤ _; exact Nat.le_of_eq rfl) (hb hby at_45) (fun _ _ => ⟨rfl, hh28, (by decide : 0 + 0 ≤ _), (by decide : 0 + 0 ≤ _)⟩)
        dsimp only [Pt.U, Pt.locs, Pt.cells, Pt.slots] at X38 l38 y38 z38 st38 hQ38
        subst l38 y38 z38
        obtain ⟨rfl, N38q, hh38⟩ := hQ38
        have N38 := Fr.app N28 N38q
        obtain ⟨cq39, kq39, q39a, q39b, q39c⟩ := isOf hZ hh38 (Exa.ext O0.2 X_a_TO)
        obtain ⟨_, _, ⟨T39, L39, k39, n39⟩, -, X39, ⟨Lc39, hQ39, l39, y39, z39⟩, st39⟩ := X38.virtualBack hx (y := (⟨"com/example/carbonfold/carbonfold/model/RosterItem$Subscription", "withFrom", "(Z)Lcom/example/carbonfold/carbonfold/model/RosterItem$Subscription;"⟩ : MethodName)) (z := (⟨"com/example/carbonfold/carbonfold/model/RosterItem$Subscription", "withFrom", "(Z)Lcom/example/carbonfold/carbonfold/model/RosterItem$Subscription;"⟩ : MethodName)) hown (mvT hZ (hw _ (List.mem_of_getElem? (i := 16) rfl))) (mvT hZ (hw _ (List.mem_of_getElem? (i := 17) rfl))) (notFace_of_selects (args := #[]) (mvT hZ (hw _ (List.mem_of_getElem? (i := 19) rfl)))) (mvT hZ (hw _ (List.mem_of_getElem? (i := 19) rfl))) (mvT hZ (hw _ (List.mem_of_getElem? (i := 18) rfl))) (by decide) (backOf (W := 0) (rm_withFrom_12 l Z a0 hw [] a_NONE a_FROM a_BOTH a_TO h0 n0 O0 En) hZ (hw _ (List.mem_of_getElem? (i := 20) rfl)) (hw _ (List.mem_of_getElem? (i := 5) rfl)) (by decide) (by decide)) q39a q39c (g := (mkF m 63 #[.val (.int i0), .val (.int i1), .val (.int i2), .val (.ref a_TO), .val (.int (0 : Int32)), .val (.int (0 : Int32)), .val (.int (1 : Int32)), .val (.int (1 : Int32)), .unset, .unset] [(.int (0 : Int32)), (.ref a_TO)])) rfl (by rw [hml]; rfl) (Steps.refl _) (argsL := [(.int (0 : Int32))]) (rest := []) (lenOf pd_3 rfl) rfl (by show 2 * 0 + _ ≤ _; exact Nat.le_of_eq rfl) (hb hby at_63) (fun _ _ => ⟨rfl, hh38, (by decide : 0 + 0 ≤ _), (by decide : 0 + 0 ≤ _)⟩)
        dsimp only [Pt.U, Pt.locs, Pt.cells, Pt.slots] at X39 l39 y39 z39 st39 hQ39
        subst l39 y39 z39
        obtain ⟨rfl, N39q, hh39⟩ := hQ39
        have N39 := Fr.app N38 N39q
        obtain ⟨cq40, kq40, q40a, q40b, q40c⟩ := isOf hZ hh39 (Exa.ext O0.2 X_a_TO)
        obtain ⟨_, _, ⟨T40, L40, k40, n40⟩, -, X40, ⟨Lc40, hQ40, l40, y40, z40⟩, st40⟩ := X39.virtualBack hx (y := (⟨"com/example/carbonfold/carbonfold/model/RosterItem$Subscription", "hasFrom", "()Z"⟩ : MethodName)) (z := (⟨"com/example/carbonfold/carbonfold/model/RosterItem$Subscription", "hasFrom", "()Z"⟩ : MethodName)) hown (mvT hZ (hw _ (List.mem_of_getElem? (i := 7) rfl))) (mvT hZ (hw _ (List.mem_of_getElem? (i := 8) rfl))) (notFace_of_selects (args := #[]) (mvT hZ (hw _ (List.mem_of_getElem? (i := 10) rfl)))) (mvT hZ (hw _ (List.mem_of_getElem? (i := 10) rfl))) (mvT hZ (hw _ (List.mem_of_getElem? (i := 9) rfl))) (by decide) (backOf (W := 0) (rm_hasFrom_8 l Z a0 hw [] a_NONE a_FROM a_BOTH a_TO h0 n0 O0 En) hZ (hw _ (List.mem_of_getElem? (i := 11) rfl)) (hw _ (List.mem_of_getElem? (i := 5) rfl)) (by decide) (by decide)) q40a q40c (g := (mkF m 66 #[.val (.int i0), .val (.int i1), .val (.int i2), .val (.ref a_TO), .val (.int (0 : Int32)), .val (.int (0 : Int32)), .val (.int (1 : Int32)), .val (.int (1 : Int32)), .unset, .unset] [(.ref a_TO)])) rfl (by rw [hml]; rfl) (Steps.refl _) (argsL := []) (rest := []) (lenOf pd_1 rfl) rfl (by show 2 * 0 + _ ≤ _; exact Nat.le_of_eq rfl) (hb hby at_66) (fun _ _ => ⟨rfl, hh39, (by decide : 0 + 0 ≤ _), (by decide : 0 + 0 ≤ _)⟩)
        dsimp only [Pt.U, Pt.locs, Pt.cells, Pt.slots] at X40 l40 y40 z40 st40 hQ40
        subst l40 y40 z40
        obtain ⟨rfl, N40q, hh40⟩ := hQ40
        have N40 := Fr.app N39 N40q
        obtain ⟨cq41, kq41, q41a, q41b, q41c⟩ := isOf hZ hh40 (Exa.ext O0.2 X_a_TO)
        obtain ⟨_, _, ⟨T41, L41, k41, n41⟩, -, X41, ⟨Lc41, hQ41, l41, y41, z41⟩, st41⟩ := X40.virtualBack hx (y := (⟨"com/example/carbonfold/carbonfold/model/RosterItem$Subscription", "withTo", "(Z)Lcom/example/carbonfold/carbonfold/model/RosterItem$Subscription;"⟩ : MethodName)) (z := (⟨"com/example/carbonfold/carbonfold/model/RosterItem$Subscription", "withTo", "(Z)Lcom/example/carbonfold/carbonfold/model/RosterItem$Subscription;"⟩ : MethodName)) hown (mvT hZ (hw _ (List.mem_of_getElem? (i := 31) rfl))) (mvT hZ (hw _ (List.mem_of_getElem? (i := 32) rfl))) (notFace_of_selects (args := #[]) (mvT hZ (hw _ (List.mem_of_getElem? (i := 34) rfl)))) (mvT hZ (hw _ (List.mem_of_getElem? (i := 34) rfl))) (mvT hZ (hw _ (List.mem_of_getElem? (i := 33) rfl))) (by decide) (backOf (W := 0) (rm_withTo_15 l Z a0 hw [] a_NONE a_FROM a_BOTH a_TO h0 n0 O0 En) hZ (hw _ (List.mem_of_getElem? (i := 35) rfl)) (hw _ (List.mem_of_getElem? (i := 5) rfl)) (by decide) (by decide)) q41a q41c (g := (mkF m 84 #[.val (.int i0), .val (.int i1), .val (.int i2), .val (.ref a_TO), .val (.int (0 : Int32)), .val (.int (0 : Int32)), .val (.int (1 : Int32)), .val (.int (1 : Int32)), .val (.int (1 : Int32)), .unset] [(.int (1 : Int32)), (.ref a_TO)])) rfl (by rw [hml]; rfl) (Steps.refl _) (argsL := [(.int (1 : Int32))]) (rest := []) (lenOf pd_3 rfl) rfl (by show 2 * 0 + _ ≤ _; exact Nat.le_of_eq rfl) (hb hby at_84) (fun _ _ => ⟨rfl, hh40, (by decide : 0 + 0 ≤ _), (by decide : 0 + 0 ≤ _)⟩)
        dsimp only [Pt.U, Pt.locs, Pt.cells, Pt.slots] at X41 l41 y41 z41 st41 hQ41
        subst l41 y41 z41
        obtain ⟨rfl, N41q, hh41⟩ := hQ41
        have N41 := Fr.app N40 N41q
        obtain ⟨cq42, kq42, q42a, q42b, q42c⟩ := isOf hZ hh41 (Exa.ext O0.2 X_a_TO)
        obtain ⟨_, _, ⟨T42, L42, k42, n42⟩, -, X42, ⟨Lc42, hQ42, l42, y42, z42⟩, st42⟩ := X41.virtualBack hx (y := (⟨"com/example/carbonfold/carbonfold/model/RosterItem$Subscription", "hasFrom", "()Z"⟩ : MethodName)) (z := (⟨"com/example/carbonfold/carbonfold/model/RosterItem$Subscription", "hasFrom", "()Z"⟩ : MethodName)) hown (mvT hZ (hw _ (List.mem_of_getElem? (i := 7) rfl))) (mvT hZ (hw _ (List.mem_of_getElem? (i := 8) rfl))) (notFace_of_selects (args := #[]) (mvT hZ (hw _ (List.mem_of_getElem? (i := 10) rfl)))) (mvT hZ (hw _ (List.mem_of_getElem? (i := 10) rfl))) (mvT hZ (hw _ (List.mem_of_getElem? (i := 9) rfl))) (by decide) (backOf (W := 0) (rm_hasFrom_8 l Z a0 hw [] a_NONE a_FROM a_BOTH a_TO h0 n0 O0 En) hZ (hw _ (List.mem_of_getElem? (i := 11) rfl)) (hw _ (List.mem_of_getElem? (i := 5) rfl)) (by decide) (by decide)) q42a q42c (g := (mkF m 87 #[.val (.int i0), .val (.int i1), .val (.int i2), .val (.ref a_TO), .val (.int (0 : Int32)), .val (.int (0 : Int32)), .val (.int (1 : Int32)), .val (.int (1 : Int32)), .val (.int (1 : Int32)), .unset] [(.ref a_TO)])) rfl (by rw [hml]; rfl) (Steps.refl _) (argsL := []) (rest := []) (lenOf pd_1 rfl) rfl (by show 2 * 0 + _ ≤ _; exact Nat.le_of_eq rfl) (hb hby at_87) (fun _ _ => ⟨rfl, hh41, (by decide : 0 + 0 ≤ _), (by decide : 0 + 0 ≤ _)⟩)
        dsimp only [Pt.U, Pt.locs, Pt.cells, Pt.slots] at X42 l42 y42 z42 st42 hQ42
        subst l42 y42 z42
        obtain ⟨rfl, N42q, hh42⟩ := hQ42
        have N42 := Fr.app N41 N42q
        obtain ⟨fs, hr, hrun, hended, hW, hsame⟩ := X42.leave (v := some (.int (1 : Int32))) (fun h => by rw [Bd.returns] at h; cases h)
        refine ⟨_, _, pre31 _ ?_, hrun, hended, _, _, rfl, ?_, ⟨_, rfl⟩, hW, hsame.mono (by decide) (by decide)⟩
        · skip
          show Steps p.tables e below (T28.setTop (mkF m 34 #[.val (.int i0), .val (.int i1), .val (.int i2), .val (.ref a_TO), .val (.int (0 : Int32)), .val (.int (0 : Int32)), .unset, .unset, .unset, .unset] [(.int (i2 &&& (1 : Int32)))])) _
          rw [hk32]
          show Steps p.tables e below (T28.setTop (mkF m 34 #[.val (.int i0), .val (.int i1), .val (.int i2), .val (.ref a_TO), .val (.int (0 : Int32)), .val (.int (0 : Int32)), .unset, .unset, .unset, .unset] [(.int (1 : Int32))])) _
          refine XS.ifNo X28.here hx rfl (hb hby at_34) rfl (by decide) ?_
          show Steps p.tables e below (T28.setTop (mkF m 37 #[.val (.int i0), .val (.int i1), .val (.int i2), .val (.ref a_TO), .val (.int (0 : Int32)), .val (.int (0 : Int32)), .unset, .unset, .unset, .unset] [])) _
          refine XS.iconst X28.here hx rfl (hb hby at_37) ?_
          show Steps p.tables e below (T28.setTop (mkF m 38 #[.val (.int i0), .val (.int i1), .val (.int i2), .val (.ref a_TO), .val (.int (0 : Int32)), .val (.int (0 : Int32)), .unset, .unset, .unset, .unset] [(.int (1 : Int32))])) _
          refine XS.goto X28.here hx rfl (pc0 := 38) (pc' := 42) rfl (hb hby at_38) (by decide) (by decide) ?_
          show Steps p.tables e below (T28.setTop (mkF m 42 #[.val (.int i0), .val (.int i1), .val (.int i2), .val (.ref a_TO), .val (.int (0 : Int32)), .val (.int (0 : Int32)), .unset, .unset, .unset, .unset] [(.int (1 : Int32))])) _
          refine XS.istore X28.here hx rfl (hb hby at_42) rfl (l' := #[.val (.int i0), .val (.int i1), .val (.int i2), .val (.ref a_TO), .val (.int (0 : Int32)), .val (.int (0 : Int32)), .val (.int (1 : Int32)), .unset, .unset, .unset]) rfl ?_
          show Steps p.tables e below (T28.setTop (mkF m 44 #[.val (.int i0), .val (.int i1), .val (.int i2), .val (.ref a_TO), .val (.int (0 : Int32)), .val (.int (0 : Int32)), .val (.int (1 : Int32)), .unset, .unset, .unset] [])) _
          refine XS.aloadN X28.here hx rfl (hb hby at_44) rfl rfl ?_
          show Steps p.tables e below (T28.setTop (mkF m 45 #[.val (.int i0), .val (.int i1), .val (.int i2), .val (.ref a_TO), .val (.int (0 : Int32)), .val (.int (0 : Int32)), .val (.int (1 : Int32)), .unset, .unset, .unset] [(.ref a_TO)])) _
          refine st38.trans ?_
          show Steps p.tables e below (T38.setTop (mkF m 48 #[.val (.int i0), .val (.int i1), .val (.int i2), .val (.ref a_TO), .val (.int (0 : Int32)), .val (.int (0 : Int32)), .val (.int (1 : Int32)), .unset, .unset, .unset] [(.int (0 : Int32))])) _
          refine XS.iload X38.here hx rfl (hb hby at_48) rfl ?_
          show Steps p.tables e below (T38.setTop (mkF m 50 #[.val (.int i0), .val (.int i1), .val (.int i2), .val (.ref a_TO), .val (.int (0 : Int32)), .val (.int (0 : Int32)), .val (.int (1 : Int32)), .unset, .unset, .unset] [(.int (0 : Int32)), (.int (0 : Int32))])) _
          refine XS.icmpNo X38.here hx rfl (hb hby at_50) rfl (by decide) ?_
          show Steps p.tables e below (T38.setTop (mkF m 53 #[.val (.int i0), .val (.int i1), .val (.int i2), .val (.ref a_TO), .val (.int (0 : Int32)), .val (.int (0 : Int32)), .val (.int (1 : Int32)), .unset, .unset, .unset] [])) _
          refine XS.iconst X38.here hx rfl (hb hby at_53) ?_
          show Steps p.tables e below (T38.setTop (mkF m 54 #[.val (.int i0), .val (.int i1), .val (.int i2), .val (.ref a_TO), .val (.int (0 : Int32)), .val (.int (0 : Int32)), .val (.int (1 : Int32)), .unset, .unset, .unset] [(.int (1 : Int32))])) _
          refine XS.goto X38.here hx rfl (pc0 := 54) (pc' := 58) rfl (hb hby at_54) (by decide) (by decide) ?_
          show Steps p.tables e below (T38.setTop (mkF m 58 #[.val (.int i0), .val (.int i1), .val (.int i2), .val (.ref a_TO), .val (.int (0 : Int32)), .val (.int (0 : Int32)), .val (.int (1 : Int32)), .unset, .unset, .unset] [(.int (1 : Int32))])) _
          refine XS.istore X38.here hx rfl (hb hby at_58) rfl (l' := #[.val (.int i0), .val (.int i1), .val (.int i2), .val (.ref a_TO), .val (.int (0 : Int32)), .val (.int (0 : Int32)), .val (.int (1 : Int32)), .val (.int (1 : Int32)), .unset, .unset]) rfl ?_
          show Steps p.tables e below (T38.setTop (mkF m 60 #[.val (.int i0), .val (.int i1), .val (.int i2), .val (.ref a_TO), .val (.int (0 : Int32)), .val (.int (0 : Int32)), .val (.int (1 : Int32)), .val (.int (1 : Int32)), .unset, .unset] [])) _
          refine XS.aloadN X38.here hx rfl (hb hby at_60) rfl rfl ?_
          show Steps p.tables e below (T38.setTop (mkF m 61 #[.val (.int i0), .val (.int i1), .val (.int i2), .val (.ref a_TO), .val (.int (0 : Int32)), .val (.int (0 : Int32)), .val (.int (1 : Int32)), .val (.int (1 : Int32)), .unset, .unset] [(.ref a_TO)])) _
          refine XS.iload X38.here hx rfl (hb hby at_61) rfl ?_
          show Steps p.tables e below (T38.setTop (mkF m 63 #[.val (.int i0), .val (.int i1), .val (.int i2), .val (.ref a_TO), .val (.int (0 : Int32)), .val (.int (0 : Int32)), .val (.int (1 : Int32)), .val (.int (1 : Int32)), .unset, .unset] [(.int (0 : Int32)), (.ref a_TO)])) _
          refine st39.trans ?_
          show Steps p.tables e below (T39.setTop (mkF m 66 #[.val (.int i0), .val (.int i1), .val (.int i2), .val (.ref a_TO), .val (.int (0 : Int32)), .val (.int (0 : Int32)), .val (.int (1 : Int32)), .val (.int (1 : Int32)), .unset, .unset] [(.ref a_TO)])) _
          refine st40.trans ?_
          show Steps p.tables e below (T40.setTop (mkF m 69 #[.val (.int i0), .val (.int i1), .val (.int i2), .val (.ref a_TO), .val (.int (0 : Int32)), .val (.int (0 : Int32)), .val (.int (1 : Int32)), .val (.int (1 : Int32)), .unset, .unset] [(.int (0 : Int32))])) _
          refine XS.iload X40.here hx rfl (hb hby at_69) rfl ?_
          show Steps p.tables e below (T40.setTop (mkF m 71 #[.val (.int i0), .val (.int i1), .val (.int i2), .val (.ref a_TO), .val (.int (0 : Int32)), .val (.int (0 : Int32)), .val (.int (1 : Int32)), .val (.int (1 : Int32)), .unset, .unset] [(.int (0 : Int32)), (.int (0 : Int32))])) _
          refine XS.icmpNo X40.here hx rfl (hb hby at_71) rfl (by decide) ?_
          show Steps p.tables e below (T40.setTop (mkF m 74 #[.val (.int i0), .val (.int i1), .val (.int i2), .val (.ref a_TO), .val (.int (0 : Int32)), .val (.int (0 : Int32)), .val (.int (1 : Int32)), .val (.int (1 : Int32)), .unset, .unset] [])) _
          refine XS.iconst X40.here hx rfl (hb hby at_74) ?_
          show Steps p.tables e below (T40.setTop (mkF m 75 #[.val (.int i0), .val (.int i1), .val (.int i2), .val (.ref a_TO), .val (.int (0 : Int32)), .val (.int (0 : Int32)), .val (.int (1 : Int32)), .val (.int (1 : Int32)), .unset, .unset] [(.int (1 : Int32))])) _
          refine XS.goto X40.here hx rfl (pc0 := 75) (pc' := 79) rfl (hb hby at_75) (by decide) (by decide) ?_
          show Steps p.tables e below (T40.setTop (mkF m 79 #[.val (.int i0), .val (.int i1), .val (.int i2), .val (.ref a_TO), .val (.int (0 : Int32)), .val (.int (0 : Int32)), .val (.int (1 : Int32)), .val (.int (1 : Int32)), .unset, .unset] [(.int (1 : Int32))])) _
          refine XS.istore X40.here hx rfl (hb hby at_79) rfl (l' := #[.val (.int i0), .val (.int i1), .val (.int i2), .val (.ref a_TO), .val (.int (0 : Int32)), .val (.int (0 : Int32)), .val (.int (1 : Int32)), .val (.int (1 : Int32)), .val (.int (1 : Int32)), .unset]) rfl ?_
          show Steps p.tables e below (T40.setTop (mkF m 81 #[.val (.int i0), .val (.int i1), .val (.int i2), .val (.ref a_TO), .val (.int (0 : Int32)), .val (.int (0 : Int32)), .val (.int (1 : Int32)), .val (.int (1 : Int32)), .val (.int (1 : Int32)), .unset] [])) _
          refine XS.aloadN X40.here hx rfl (hb hby at_81) rfl rfl ?_
          show Steps p.tables e below (T40.setTop (mkF m 82 #[.val (.int i0), .val (.int i1), .val (.int i2), .val (.ref a_TO), .val (.int (0 : Int32)), .val (.int (0 : Int32)), .val (.int (1 : Int32)), .val (.int (1 : Int32)), .val (.int (1 : Int32)), .unset] [(.ref a_TO)])) _
          refine XS.iload X40.here hx rfl (hb hby at_82) rfl ?_
          show Steps p.tables e below (T40.setTop (mkF m 84 #[.val (.int i0), .val (.int i1), .val (.int i2), .val (.ref a_TO), .val (.int (0 : Int32)), .val (.int (0 : Int32)), .val (.int (1 : Int32)), .val (.int (1 : Int32)), .val (.int (1 : Int32)), .unset] [(.int (1 : Int32)), (.ref a_TO)])) _
          refine st41.trans ?_
          show Steps p.tables e below (T41.setTop (mkF m 87 #[.val (.int i0), .val (.int i1), .val (.int i2), .val (.ref a_TO), .val (.int (0 : Int32)), .val (.int (0 : Int32)), .val (.int (1 : Int32)), .val (.int (1 : Int32)), .val (.int (1 : Int32)), .unset] [(.ref a_TO)])) _
          refine st42.trans ?_
          show Steps p.tables e below (T42.setTop (mkF m 90 #[.val (.int i0), .val (.int i1), .val (.int i2), .val (.ref a_TO), .val (.int (0 : Int32)), .val (.int (0 : Int32)), .val (.int (1 : Int32)), .val (.int (1 : Int32)), .val (.int (1 : Int32)), .unset] [(.int (0 : Int32))])) _
          refine XS.iload X42.here hx rfl (hb hby at_90) rfl ?_
          show Steps p.tables e below (T42.setTop (mkF m 92 #[.val (.int i0), .val (.int i1), .val (.int i2), .val (.ref a_TO), .val (.int (0 : Int32)), .val (.int (0 : Int32)), .val (.int (1 : Int32)), .val (.int (1 : Int32)), .val (.int (1 : Int32)), .unset] [(.int (0 : Int32)), (.int (0 : Int32))])) _
          refine XS.icmpNo X42.here hx rfl (hb hby at_92) rfl (by decide) ?_
          show Steps p.tables e below (T42.setTop (mkF m 95 #[.val (.int i0), .val (.int i1), .val (.int i2), .val (.ref a_TO), .val (.int (0 : Int32)), .val (.int (0 : Int32)), .val (.int (1 : Int32)), .val (.int (1 : Int32)), .val (.int (1 : Int32)), .unset] [])) _
          refine XS.iconst X42.here hx rfl (hb hby at_95) ?_
          show Steps p.tables e below (T42.setTop (mkF m 96 #[.val (.int i0), .val (.int i1), .val (.int i2), .val (.ref a_TO), .val (.int (0 : Int32)), .val (.int (0 : Int32)), .val (.int (1 : Int32)), .val (.int (1 : Int32)), .val (.int (1 : Int32)), .unset] [(.int (1 : Int32))])) _
          refine XS.goto X42.here hx rfl (pc0 := 96) (pc' := 100) rfl (hb hby at_96) (by decide) (by decide) ?_
          show Steps p.tables e below (T42.setTop (mkF m 100 #[.val (.int i0), .val (.int i1), .val (.int i2), .val (.ref a_TO), .val (.int (0 : Int32)), .val (.int (0 : Int32)), .val (.int (1 : Int32)), .val (.int (1 : Int32)), .val (.int (1 : Int32)), .unset] [(.int (1 : Int32))])) _
          refine XS.istore X42.here hx rfl (hb hby at_100) rfl (l' := #[.val (.int i0), .val (.int i1), .val (.int i2), .val (.ref a_TO), .val (.int (0 : Int32)), .val (.int (0 : Int32)), .val (.int (1 : Int32)), .val (.int (1 : Int32)), .val (.int (1 : Int32)), .val (.int (1 : Int32))]) rfl ?_
          show Steps p.tables e below (T42.setTop (mkF m 102 #[.val (.int i0), .val (.int i1), .val (.int i2), .val (.ref a_TO), .val (.int (0 : Int32)), .val (.int (0 : Int32)), .val (.int (1 : Int32)), .val (.int (1 : Int32)), .val (.int (1 : Int32)), .val (.int (1 : Int32))] [])) _
          refine XS.iload X42.here hx rfl (hb hby at_102) rfl ?_
          show Steps p.tables e below (T42.setTop (mkF m 104 #[.val (.int i0), .val (.int i1), .val (.int i2), .val (.ref a_TO), .val (.int (0 : Int32)), .val (.int (0 : Int32)), .val (.int (1 : Int32)), .val (.int (1 : Int32)), .val (.int (1 : Int32)), .val (.int (1 : Int32))] [(.int (1 : Int32))])) _
          refine XS.ifNo X42.here hx rfl (hb hby at_104) rfl (by decide) ?_
          show Steps p.tables e below (T42.setTop (mkF m 107 #[.val (.int i0), .val (.int i1), .val (.int i2), .val (.ref a_TO), .val (.int (0 : Int32)), .val (.int (0 : Int32)), .val (.int (1 : Int32)), .val (.int (1 : Int32)), .val (.int (1 : Int32)), .val (.int (1 : Int32))] [])) _
          refine XS.iload X42.here hx rfl (hb hby at_107) rfl ?_
          show Steps p.tables e below (T42.setTop (mkF m 109 #[.val (.int i0), .val (.int i1), .val (.int i2), .val (.ref a_TO), .val (.int (0 : Int32)), .val (.int (0 : Int32)), .val (.int (1 : Int32)), .val (.int (1 : Int32)), .val (.int (1 : Int32)), .val (.int (1 : Int32))] [(.int (1 : Int32))])) _
          refine XS.ifNo X42.here hx rfl (hb hby at_109) rfl (by decide) ?_
          show Steps p.tables e below (T42.setTop (mkF m 112 #[.val (.int i0), .val (.int i1), .val (.int i2), .val (.ref a_TO), .val (.int (0 : Int32)), .val (.int (0 : Int32)), .val (.int (1 : Int32)), .val (.int (1 : Int32)), .val (.int (1 : Int32)), .val (.int (1 : Int32))] [])) _
          refine XS.iload X42.here hx rfl (hb hby at_112) rfl ?_
          show Steps p.tables e below (T42.setTop (mkF m 114 #[.val (.int i0), .val (.int i1), .val (.int i2), .val (.ref a_TO), .val (.int (0 : Int32)), .val (.int (0 : Int32)), .val (.int (1 : Int32)), .val (.int (1 : Int32)), .val (.int (1 : Int32)), .val (.int (1 : Int32))] [(.int (1 : Int32))])) _
          refine XS.ifNo X42.here hx rfl (hb hby at_114) rfl (by decide) ?_
          show Steps p.tables e below (T42.setTop (mkF m 117 #[.val (.int i0), .val (.int i1), .val (.int i2), .val (.ref a_TO), .val (.int (0 : Int32)), .val (.int (0 : Int32)), .val (.int (1 : Int32)), .val (.int (1 : Int32)), .val (.int (1 : Int32)), .val (.int (1 : Int32))] [])) _
          refine XS.iconst X42.here hx rfl (hb hby at_117) ?_
          show Steps p.tables e below (T42.setTop (mkF m 118 #[.val (.int i0), .val (.int i1), .val (.int i2), .val (.ref a_TO), .val (.int (0 : Int32)), .val (.int (0 : Int32)), .val (.int (1 : Int32)), .val (.int (1 : Int32)), .val (.int (1 : Int32)), .val (.int (1 : Int32))] [(.int (1 : Int32))])) _
          refine XS.goto X42.here hx rfl (pc0 := 118) (pc' := 122) rfl (hb hby at_118) (by decide) (by decide) ?_
          show Steps p.tables e below (T42.setTop (mkF m 122 #[.val (.int i0), .val (.int i1), .val (.int i2), .val (.ref a_TO), .val (.int (0 : Int32)), .val (.int (0 : Int32)), .val (.int (1 : Int32)), .val (.int (1 : Int32)), .val (.int (1 : Int32)), .val (.int (1 : Int32))] [(.int (1 : Int32))])) _
          exact retN X42 hx (t := .boolean) Bd.returns (by simp) (hb hby at_122) hr
        · show QL n0 _ T42.heap _
          rw [hh42]
          exact ⟨rfl, N42⟩
    · skip
      have pre43 : ∀ t, Steps p.tables e below (T28.setTop (mkF m 34 #[.val (.int i0), .val (.int i1), .val (.int i2), .val (.ref a_TO), .val (.int (0 : Int32)), .val (.int (1 : Int32)), .unset, .unset, .unset, .unset] [(.int (i2 &&& (1 : Int32)))])) t → Steps p.tables e below (s₁.setTop (entryFrame m #[(.int i0), (.int i1), (.int i2)] maxLocals)) t := fun t kt => pre29 t (by
          show Steps p.tables e below (T28.setTop (mkF m 21 #[.val (.int i0), .val (.int i1), .val (.int i2), .val (.ref a_TO), .val (.int (0 : Int32)), .unset, .unset, .unset, .unset, .unset] [(.int (i1 &&& (1 : Int32)))])) _
          rw [hk30]
          show Steps p.tables e below (T28.setTop (mkF m 21 #[.val (.int i0), .val (.int i1), .val (.int i2), .val (.ref a_TO), .val (.int (0 : Int32)), .unset, .unset, .unset, .unset, .unset] [(.int (1 : Int32))])) _
          refine XS.ifNo X28.here hx rfl (hb hby at_21) rfl (by decide) ?_
          show Steps p.tables e below (T28.setTop (mkF m 24 #[.val (.int i0), .val (.int i1), .val (.int i2), .val (.ref a_TO), .val (.int (0 : Int32)), .unset, .unset, .unset, .unset, .unset] [])) _
          refine XS.iconst X28.here hx rfl (hb hby at_24) ?_
          show Steps p.tables e below (T28.setTop (mkF m 25 #[.val (.int i0), .val (.int i1), .val (.int i2), .val (.ref a_TO), .val (.int (0 : Int32)), .unset, .unset, .unset, .unset, .unset] [(.int (1 : Int32))])) _
          refine XS.goto X28.here hx rfl (pc0 := 25) (pc' := 29) rfl (hb hby at_25) (by decide) (by decide) ?_
          show Steps p.tables e below (T28.setTop (mkF m 29 #[.val (.int i0), .val (.int i1), .val (.int i2), .val (.ref a_TO), .val (.int (0 : Int32)), .unset, .unset, .unset, .unset, .unset] [(.int (1 : Int32))])) _
          refine XS.istore X28.here hx rfl (hb hby at_29) rfl (l' := #[.val (.int i0), .val (.int i1), .val (.int i2), .val (.ref a_TO), .val (.int (0 : Int32)), .val (.int (1 : Int32)), .unset, .unset, .unset, .unset]) rfl ?_
          show Steps p.tables e below (T28.setTop (mkF m 31 #[.val (.int i0), .val (.int i1), .val (.int i2), .val (.ref a_TO), .val (.int (0 : Int32)), .val (.int (1 : Int32)), .unset, .unset, .unset, .unset] [])) _
          refine XS.iloadN X28.here hx rfl (hb hby at_31) rfl ?_
          show Steps p.tables e below (T28.setTop (mkF m 32 #[.val (.int i0), .val (.int i1), .val (.int i2), .val (.ref a_TO), .val (.int (0 : Int32)), .val (.int (1 : Int32)), .unset, .unset, .unset, .unset] [(.int i2)])) _
          refine XS.iconst X28.here hx rfl (hb hby at_32) ?_
          show Steps p.tables e below (T28.setTop (mkF m 33 #[.val (.int i0), .val (.int i1), .val (.int i2), .val (.ref a_TO), .val (.int (0 : Int32)), .val (.int (1 : Int32)), .unset, .unset, .unset, .unset] [(.int (1 : Int32)), (.int i2)])) _
          refine XS.iand X28.here hx rfl (hb hby at_33) rfl ?_
          exact kt)
      rcases own_b i2 with hk44 | hk44
      · skip
        obtain ⟨cq45, kq45, q45a, q45b, q45c⟩ := isOf hZ hh28 (Exa.ext O0.2 X_a_TO)
        obtain ⟨_, _, ⟨T45, L45, k45, n45⟩, -, X45, ⟨Lc45, hQ45, l45, y45, z45⟩, st45⟩ := X28.virtualBack hx (y := (⟨"com/example/carbonfold/carbonfold/model/RosterItem$Subscription", "hasFrom", "()Z"⟩ : MethodName)) (z := (⟨"com/example/carbonfold/carbonfold/model/RosterItem$Subscription", "hasFrom", "()Z"⟩ : MethodName)) hown (mvT hZ (hw _ (List.mem_of_getElem? (i := 7) rfl))) (mvT hZ (hw _ (List.mem_of_getElem? (i := 8) rfl))) (notFace_of_selects (args := #[]) (mvT hZ (hw _ (List.mem_of_getElem? (i := 10) rfl)))) (mvT hZ (hw _ (List.mem_of_getElem? (i := 10) rfl))) (mvT hZ (hw _ (List.mem_of_getElem? (i := 9) rfl))) (by decide) (backOf (W := 0) (rm_hasFrom_8 l Z a0 hw [] a_NONE a_FROM a_BOTH a_TO h0 n0 O0 En) hZ (hw _ (List.mem_of_getElem? (i := 11) rfl)) (hw _ (List.mem_of_getElem? (i := 5) rfl)) (by decide) (by decide)) q45a q45c (g := (mkF m 45 #[.val (.int i0), .val (.int i1), .val (.int i2), .val (.ref a_TO), .val (.int (0 : Int32)), .val (.int (1 : Int32)), .val (.int (0 : Int32)), .unset, .unset, .unset] [(.ref a_TO)])) rfl (by rw [hml]; rfl) (Steps.refl _) (argsL := []) (rest := []) (lenOf pd_1 rfl) rfl (by show 2 * 0 + _ ≤ _; exact Nat.le_of_eq rfl) (hb hby at_45) (fun _ _ => ⟨rfl, hh28, (by decide : 0 + 0 ≤ _), (by decide : 0 + 0 ≤ _)⟩)
        dsimp only [Pt.U, Pt.locs, Pt.cells, Pt.slots] at X45 l45 y45 z45 st45 hQ45
        subst l45 y45 z45
        obtain ⟨rfl, N45q, hh45⟩ := hQ45
        have N45 := Fr.app N28 N45q
        obtain ⟨cq46, kq46, q46a, q46b, q46c⟩ := isOf hZ hh45 (Exa.ext O0.2 X_a_TO)
        obtain ⟨_, _, ⟨T46, L46, k46, n46⟩, -, X46, ⟨Lc46, hQ46, l46, y46, z46⟩, st46⟩ := X45.virtualBack hx (y := (⟨"com/example/carbonfold/carbonfold/model/RosterItem$Subscription", "withFrom", "(Z)Lcom/example/carbonfold/carbonfold/model/RosterItem$Subscription;"⟩ : MethodName)) (z := (⟨"com/example/carbonfold/carbonfold/model/RosterItem$Subscription", "withFrom", "(Z)Lcom/example/carbonfold/carbonfold/model/RosterItem$Subscription;"⟩ : MethodName)) hown (mvT hZ (hw _ (List.mem_of_getElem? (i := 16) rfl))) (mvT hZ (hw _ (List.mem_of_getElem? (i := 17) rfl))) (notFace_of_selects (args := #[]) (mvT hZ (hw _ (List.mem_of_getElem? (i := 19) rfl)))) (mvT hZ (hw _ (List.mem_of_getElem? (i := 19) rfl))) (mvT hZ (hw _ (List.mem_of_getElem? (i := 18) rfl))) (by decide) (backOf (W := 0) (rm_withFrom_16 l Z a0 hw [] a_NONE a_FROM a_BOTH a_TO h0 n0 O0 En) hZ (hw _ (List.mem_of_getElem? (i := 20) rfl)) (hw _ (List.mem_of_getElem? (i := 5) rfl)) (by decide) (by decide)) q46a q46c (g := (mkF m 63 #[.val (.int i0), .val (.int i1), .val (.int i2), .val (.ref a_TO), .val (.int (0 : Int32)), .val (.int (1 : Int32)), .val (.int (0 : Int32)), .val (.int (1 : Int32)), .unset, .unset] [(.int (1 : Int32)), (.ref a_TO)])) rfl (by rw [hml]; rfl) (Steps.refl _) (argsL := [(.int (1 : Int32))]) (rest := []) (lenOf pd_3 rfl) rfl (by show 2 * 0 + _ ≤ _; exact Nat.le_of_eq rfl) (hb hby at_63) (fun _ _ => ⟨rfl, hh45, (by decide : 0 + 0 ≤ _), (by decide : 0 + 0 ≤ _)⟩)
        dsimp only [Pt.U, Pt.locs, Pt.cells, Pt.slots] at X46 l46 y46 z46 st46 hQ46
        subst l46 y46 z46
        obtain ⟨rfl, N46q, hh46⟩ := hQ46
        have N46 := Fr.app N45 N46q
        obtain ⟨cq47, kq47, q47a, q47b, q47c⟩ := isOf hZ hh46 (Exa.ext O0.2 X_a_BOTH)
        obtain ⟨_, _, ⟨T47, L47, k47, n47⟩, -, X47, ⟨Lc47, hQ47, l47, y47, z47⟩, st47⟩ := X46.virtualBack hx (y := (⟨"com/example/carbonfold/carbonfold/model/RosterItem$Subscription", "hasFrom", "()Z"⟩ : MethodName)) (z := (⟨"com/example/carbonfold/carbonfold/model/RosterItem$Subscription", "hasFrom", "()Z"⟩ : MethodName)) hown (mvT hZ (hw _ (List.mem_of_getElem? (i := 7) rfl))) (mvT hZ (hw _ (List.mem_of_getElem? (i := 8) rfl))) (notFace_of_selects (args := #[]) (mvT hZ (hw _ (List.mem_of_getElem? (i := 10) rfl)))) (mvT hZ (hw _ (List.mem_of_getElem? (i := 10) rfl))) (mvT hZ (hw _ (List.mem_of_getElem? (i := 9) rfl))) (by decide) (backOf (W := 0) (rm_hasFrom_18 l Z a0 hw [] a_NONE a_FROM a_BOTH a_TO h0 n0 O0 En) hZ (hw _ (List.mem_of_getElem? (i := 11) rfl)) (hw _ (List.mem_of_getElem? (i := 5) rfl)) (by decide) (by decide)) q47a q47c (g := (mkF m 66 #[.val (.int i0), .val (.int i1), .val (.int i2), .val (.ref a_TO), .val (.int (0 : Int32)), .val (.int (1 : Int32)), .val (.int (0 : Int32)), .val (.int (1 : Int32)), .unset, .unset] [(.ref a_BOTH)])) rfl (by rw [hml]; rfl) (Steps.refl _) (argsL := []) (rest := []) (lenOf pd_1 rfl) rfl (by show 2 * 0 + _ ≤ _; exact Nat.le_of_eq rfl) (hb hby at_66) (fun _ _ => ⟨rfl, hh46, (by decide : 0 + 0 ≤ _), (by decide : 0 + 0 ≤ _)⟩)
        dsimp only [Pt.U, Pt.locs, Pt.cells, Pt.slots] at X47 l47 y47 z47 st47 hQ47
        subst l47 y47 z47
        obtain ⟨rfl, N47q, hh47⟩ := hQ47
        have N47 := Fr.app N46 N47q
        obtain ⟨cq48, kq48, q48a, q48b, q48c⟩ := isOf hZ hh47 (Exa.ext O0.2 X_a_TO)
        obtain ⟨_, _, ⟨T48, L48, k48, n48⟩, -, X48, ⟨Lc48, hQ48, l48, y48, z48⟩, st48⟩ := X47.virtualBack hx (y := (⟨"com/example/carbonfold/carbonfold/model/RosterItem$Subscription", "withTo", "(Z)Lcom/example/carbonfold/carbonfold/model/RosterItem$Subscription;"⟩ : MethodName)) (z := (⟨"com/example/carbonfold/carbonfold/model/RosterItem$Subscription", "withTo", "(Z)Lcom/example/carbonfold/carbonfold/model/RosterItem$Subscription;"⟩ : MethodName)) hown (mvT hZ (hw _ (List.mem_of_getElem? (i := 31) rfl))) (mvT hZ (hw _ (List.mem_of_getElem? (i := 32) rfl))) (notFace_of_selects (args := #[]) (mvT hZ (hw _ (List.mem_of_getElem? (i := 34) rfl)))) (mvT hZ (hw _ (List.mem_of_getElem? (i := 34) rfl))) (mvT hZ (hw _ (List.mem_of_getElem? (i := 33) rfl))) (by decide) (backOf (W := 0) (rm_withTo_14 l Z a0 hw [] a_NONE a_FROM a_BOTH a_TO h0 n0 O0 En) hZ (hw _ (List.mem_of_getElem? (i := 35) rfl)) (hw _ (List.mem_of_getElem? (i := 5) rfl)) (by decide) (by decide)) q48a q48c (g := (mkF m 84 #[.val (.int i0), .val (.int i1), .val (.int i2), .val (.ref a_TO), .val (.int (0 : Int32)), .val (.int (1 : Int32)), .val (.int (0 : Int32)), .val (.int (1 : Int32)), .val (.int (1 : Int32)), .unset] [(.int (0 : Int32)), (.ref a_TO)])) rfl (by rw [hml]; rfl) (Steps.refl _) (argsL := [(.int (0 : Int32))]) (rest := []) (lenOf pd_3 rfl) rfl (by show 2 * 0 + _ ≤ _; exact Nat.le_of_eq rfl) (hb hby at_84) (fun _ _ => ⟨rfl, hh47, (by decide : 0 + 0 ≤ _), (by decide : 0 + 0 ≤ _)⟩)
        dsimp only [Pt.U, Pt.locs, Pt.cells, Pt.slots] at X48 l48 y48 z48 st48 hQ48
        subst l48 y48 z48
        obtain ⟨rfl, N48q, hh48⟩ := hQ48
        have N48 := Fr.app N47 N48q
        obtain ⟨cq49, kq49, q49a, q49b, q49c⟩ := isOf hZ hh48 (Exa.ext O0.2 X_a_NONE)
        obtain ⟨_, _, ⟨T49, L49, k49, n49⟩, -, X49, ⟨Lc49, hQ49, l49, y49, z49⟩, st49⟩ := X48.virtualBack hx (y := (⟨"com/example/carbonfold/carbonfold/model/RosterItem$Subscription", "hasFrom", "()Z"⟩ : MethodName)) (z := (⟨"com/example/carbonfold/carbonfold/model/RosterItem$Subscription", "hasFrom", "()Z"⟩ : MethodName)) hown (mvT hZ (hw _ (List.mem_of_getElem? (i := 7) rfl))) (mvT hZ (hw _ (List.mem_of_getElem? (i := 8) rfl))) (notFace_of_selects (args := #[]) (mvT hZ (hw _ (List.mem_of_getElem? (i := 10) rfl)))) (mvT hZ (hw _ (List.mem_of_getElem? (i := 10) rfl))) (mvT hZ (hw _ (List.mem_of_getElem? (i := 9) rfl))) (by decide) (backOf (W := 0) (rm_hasFrom_1 l Z a0 hw [] a_NONE a_FROM a_BOTH a_TO h0 n0 O0 En) hZ (hw _ (List.mem_of_getElem? (i := 11) rfl)) (hw _ (List.mem_of_getElem? (i := 5) rfl)) (by decide) (by decide)) q49a q49c (g := (mkF m 87 #[.val (.int i0), .val (.int i1), .val (.int i2), .val (.ref a_TO), .val (.int (0 : Int32)), .val (.int (1 : Int32)), .val (.int (0 : Int32)), .val (.int (1 : Int32)), .val (.int (1 : Int32)), .unset] [(.ref a_NONE)])) rfl (by rw [hml]; rfl) (Steps.refl _) (argsL := []) (rest := []) (lenOf pd_1 rfl) rfl (by show 2 * 0 + _ ≤ _; exact Nat.le_of_eq rfl) (hb hby at_87) (fun _ _ => ⟨rfl, hh48, (by decide : 0 + 0 ≤ _), (by decide : 0 + 0 ≤ _)⟩)
        dsimp only [Pt.U, Pt.locs, Pt.cells, Pt.slots] at X49 l49 y49 z49 st49 hQ49
        subst l49 y49 z49
        obtain ⟨rfl, N49q, hh49⟩ := hQ49
        have N49 := Fr.app N48 N49q
        obtain ⟨fs, hr, hrun, hended, hW, hsame⟩ := X49.leave (v := some (.int (1 : Int32))) (fun h => by rw [Bd.returns] at h; cases h)
        refine ⟨_, _, pre43 _ ?_, hrun, hended, _, _, rfl, ?_, ⟨_, rfl⟩, hW, hsame.mono (by decide) (by decide)⟩
        · skip
          show Steps p.tables e below (T28.setTop (mkF m 34 #[.val (.int i0), .val (.int i1), .val (.int i2), .val (.ref a_TO), .val (.int (0 : Int32)), .val (.int (1 : Int32)), .unset, .unset, .unset, .unset] [(.int (i2 &&& (1 : Int32)))])) _
          rw [hk44]
          show Steps p.tables e below (T28.setTop (mkF m 34 #[.val (.int i0), .val (.int i1), .val (.int i2), .val (.ref a_TO), .val (.int (0 : Int32)), .val (.int (1 : Int32)), .unset, .unset, .unset, .unset] [(.int (0 : Int32))])) _
          refine XS.ifYes X28.here hx rfl (pc0 := 34) (pc' := 41) rfl (hb hby at_34) rfl (by decide) (by decide) (by decide) ?_
          show Steps p.tables e below (T28.setTop (mkF m 41 #[.val (.int i0), .val (.int i1), .val (.int i2), .val (.ref a_TO), .val (.int (0 : Int32)), .val (.int (1 : Int32)), .unset, .unset, .unset, .unset] [])) _
          refine XS.iconst X28.here hx rfl (hb hby at_41) ?_
          show Steps p.tables e below (T28.setTop (mkF m 42 #[.val (.int i0), .val (.int i1), .val (.int i2), .val (.ref a_TO), .val (.int (0 : Int32)), .val (.int (1 : Int32)), .unset, .unset, .unset, .unset] [(.int (0 : Int32))])) _
          refine XS.istore X28.here hx rfl (hb hby at_42) rfl (l' := #[.val (.int i0), .val (.int i1), .val (.int i2), .val (.ref a_TO), .val (.int (0 : Int32)), .val (.int (1 : Int32)), .val (.int (0 : Int32)), .unset, .unset, .unset]) rfl ?_
          show Steps p.tables e below (T28.setTop (mkF m 44 #[.val (.int i0), .val (.int i1), .val (.int i2), .val (.ref a_TO), .val (.int (0 : Int32)), .val (.int (1 : Int32)), .val (.int (0 : Int32)), .unset, .unset, .unset] [])) _
          refine XS.aloadN X28.here hx rfl (hb hby at_44) rfl rfl ?_
          show Steps p.tables e below (T28.setTop (mkF m 45 #[.val (.int i0), .val (.int i1), .val (.int i2), .val (.ref a_TO), .val (.int (0 : Int32)), .val (.int (1 : Int32)), .val (.int (0 : Int32)), .unset, .unset, .unset] [(.ref a_TO)])) _
          refine st45.trans ?_
          show Steps p.tables e below (T45.setTop (mkF m 48 #[.val (.int i0), .val (.int i1), .val (.int i2), .val (.ref a_TO), .val (.int (0 : Int32)), .val (.int (1 : Int32)), .val (.int (0 : Int32)), .unset, .unset, .unset] [(.int (0 : Int32))])) _
          refine XS.iload X45.here hx rfl (hb hby at_48) rfl ?_
          show Steps p.tables e below (T45.setTop (mkF m 50 #[.val (.int i0), .val (.int i1), .val (.int i2), .val (.ref a_TO), .val (.int (0 : Int32)), .val (.int (1 : Int32)), .val (.int (0 : Int32)), .unset, .unset, .unset] [(.int (0 : Int32)), (.int (0 : Int32))])) _
          refine XS.icmpNo X45.here hx rfl (hb hby at_50) rfl (by decide) ?_
          show Steps p.tables e below (T45.setTop (mkF m 53 #[.val (.int i0), .val (.int i1), .val (.int i2), .val (.ref a_TO), .val (.int (0 : Int32)), .val (.int (1 : Int32)), .val (.int (0 : Int32)), .unset, .unset, .unset] [])) _
          refine XS.iconst X45.here hx rfl (hb hby at_53) ?_
          show Steps p.tables e below (T45.setTop (mkF m 54 #[.val (.int i0), .val (.int i1), .val (.int i2), .val (.ref a_TO), .val (.int (0 : Int32)), .val (.int (1 : Int32)), .val (.int (0 : Int32)), .unset, .unset, .unset] [(.int (1 : Int32))])) _
          refine XS.goto X45.here hx rfl (pc0 := 54) (pc' := 58) rfl (hb hby at_54) (by decide) (by decide) ?_
          show Steps p.tables e below (T45.setTop (mkF m 58 #[.val (.int i0), .val (.int i1), .val (.int i2), .val (.ref a_TO), .val (.int (0 : Int32)), .val (.int (1 : Int32)), .val (.int (0 : Int32)), .unset, .unset, .unset] [(.int (1 : Int32))])) _
          refine XS.istore X45.here hx rfl (hb hby at_58) rfl (l' := #[.val (.int i0), .val (.int i1), .val (.int i2), .val (.ref a_TO), .val (.int (0 : Int32)), .val (.int (1 : Int32)), .val (.int (0 : Int32)), .val (.int (1 : Int32)), .unset, .unset]) rfl ?_
          show Steps p.tables e below (T45.setTop (mkF m 60 #[.val (.int i0), .val (.int i1), .val (.int i2), .val (.ref a_TO), .val (.int (0 : Int32)), .val (.int (1 : Int32)), .val (.int (0 : Int32)), .val (.int (1 : Int32)), .unset, .unset] [])) _
          refine XS.aloadN X45.here hx rfl (hb hby at_60) rfl rfl ?_
          show Steps p.tables e below (T45.setTop (mkF m 61 #[.val (.int i0), .val (.int i1), .val (.int i2), .val (.ref a_TO), .val (.int (0 : Int32)), .val (.int (1 : Int32)), .val (.int (0 : Int32)), .val (.int (1 : Int32)), .unset, .unset] [(.ref a_TO)])) _
          refine XS.iload X45.here hx rfl (hb hby at_61) rfl ?_
          show Steps p.tables e below (T45.setTop (mkF m 63 #[.val (.int i0), .val (.int i1), .val (.int i2), .val (.ref a_TO), .val (.int (0 : Int32)), .val (.int (1 : Int32)), .val (.int (0 : Int32)), .val (.int (1 : Int32)), .unset, .unset] [(.int (1 : Int32)), (.ref a_TO)])) _
          refine st46.trans ?_
          show Steps p.tables e below (T46.setTop (mkF m 66 #[.val (.int i0), .val (.int i1), .val (.int i2), .val (.ref a_TO), .val (.int (0 : Int32)), .val (.int (1 : Int32)), .val (.int (0 : Int32)), .val (.int (1 : Int32)), .unset, .unset] [(.ref a_BOTH)])) _
          refine st47.trans ?_
          show Steps p.tables e below (T47.setTop (mkF m 69 #[.val (.int i0), .val (.int i1), .val (.int i2), .val (.ref a_TO), .val (.int (0 : Int32)), .val (.int (1 : Int32)), .val (.int (0 : Int32)), .val (.int (1 : Int32)), .unset, .unset] [(.int (1 : Int32))])) _
          refine XS.iload X47.here hx rfl (hb hby at_69) rfl ?_
          show Steps p.tables e below (T47.setTop (mkF m 71 #[.val (.int i0), .val (.int i1), .val (.int i2), .val (.ref a_TO), .val (.int (0 : Int32)), .val (.int (1 : Int32)), .val (.int (0 : Int32)), .val (.int (1 : Int32)), .unset, .unset] [(.int (1 : Int32)), (.int (1 : Int32))])) _
          refine XS.icmpNo X47.here hx rfl (hb hby at_71) rfl (by decide) ?_
          show Steps p.tables e below (T47.setTop (mkF m 74 #[.val (.int i0), .val (.int i1), .val (.int i2), .val (.ref a_TO), .val (.int (0 : Int32)), .val (.int (1 : Int32)), .val (.int (0 : Int32)), .val (.int (1 : Int32)), .unset, .unset] [])) _
          refine XS.iconst X47.here hx rfl (hb hby at_74) ?_
          show Steps p.tables e below (T47.setTop (mkF m 75 #[.val (.int i0), .val (.int i1), .val (.int i2), .val (.ref a_TO), .val (.int (0 : Int32)), .val (.int (1 : Int32)), .val (.int (0 : Int32)), .val (.int (1 : Int32)), .unset, .unset] [(.int (1 : Int32))])) _
          refine XS.goto X47.here hx rfl (pc0 := 75) (pc' := 79) rfl (hb hby at_75) (by decide) (by decide) ?_
          show Steps p.tables e below (T47.setTop (mkF m 79 #[.val (.int i0), .val (.int i1), .val (.int i2), .val (.ref a_TO), .val (.int (0 : Int32)), .val (.int (1 : Int32)), .val (.int (0 : Int32)), .val (.int (1 : Int32)), .unset, .unset] [(.int (1 : Int32))])) _
          refine XS.istore X47.here hx rfl (hb hby at_79) rfl (l' := #[.val (.int i0), .val (.int i1), .val (.int i2), .val (.ref a_TO), .val (.int (0 : Int32)), .val (.int (1 : Int32)), .val (.int (0 : Int32)), .val (.int (1 : Int32)), .val (.int (1 : Int32)), .unset]) rfl ?_
          show Steps p.tables e below (T47.setTop (mkF m 81 #[.val (.int i0), .val (.int i1), .val (.int i2), .val (.ref a_TO), .val (.int (0 : Int32)), .val (.int (1 : Int32)), .val (.int (0 : Int32)), .val (.int (1 : Int32)), .val (.int (1 : Int32)), .unset] [])) _
          refine XS.aloadN X47.here hx rfl (hb hby at_81) rfl rfl ?_
          show Steps p.tables e below (T47.setTop (mkF m 82 #[.val (.int i0), .val (.int i1), .val (.int i2), .val (.ref a_TO), .val (.int (0 : Int32)), .val (.int (1 : Int32)), .val (.int (0 : Int32)), .val (.int (1 : Int32)), .val (.int (1 : Int32)), .unset] [(.ref a_TO)])) _
          refine XS.iload X47.here hx rfl (hb hby at_82) rfl ?_
          show Steps p.tables e below (T47.setTop (mkF m 84 #[.val (.int i0), .val (.int i1), .val (.int i2), .val (.ref a_TO), .val (.int (0 : Int32)), .val (.int (1 : Int32)), .val (.int (0 : Int32)), .val (.int (1 : Int32)), .val (.int (1 : Int32)), .unset] [(.int (0 : Int32)), (.ref a_TO)])) _
          refine st48.trans ?_
          show Steps p.tables e below (T48.setTop (mkF m 87 #[.val (.int i0), .val (.int i1), .val (.int i2), .val (.ref a_TO), .val (.int (0 : Int32)), .val (.int (1 : Int32)), .val (.int (0 : Int32)), .val (.int (1 : Int32)), .val (.int (1 : Int32)), .unset] [(.ref a_NONE)])) _
          refine st49.trans ?_
          show Steps p.tables e below (T49.setTop (mkF m 90 #[.val (.int i0), .val (.int i1), .val (.int i2), .val (.ref a_TO), .val (.int (0 : Int32)), .val (.int (1 : Int32)), .val (.int (0 : Int32)), .val (.int (1 : Int32)), .val (.int (1 : Int32)), .unset] [(.int (0 : Int32))])) _
          refine XS.iload X49.here hx rfl (hb hby at_90) rfl ?_
          show Steps p.tables e below (T49.setTop (mkF m 92 #[.val (.int i0), .val (.int i1), .val (.int i2), .val (.ref a_TO), .val (.int (0 : Int32)), .val (.int (1 : Int32)), .val (.int (0 : Int32)), .val (.int (1 : Int32)), .val (.int (1 : Int32)), .unset] [(.int (0 : Int32)), (.int (0 : Int32))])) _
          refine XS.icmpNo X49.here hx rfl (hb hby at_92) rfl (by decide) ?_
          show Steps p.tables e below (T49.setTop (mkF m 95 #[.val (.int i0), .val (.int i1), .val (.int i2), .val (.ref a_TO), .val (.int (0 : Int32)), .val (.int (1 : Int32)), .val (.int (0 : Int32)), .val (.int (1 : Int32)), .val (.int (1 : Int32)), .unset] [])) _
          refine XS.iconst X49.here hx rfl (hb hby at_95) ?_
          show Steps p.tables e below (T49.setTop (mkF m 96 #[.val (.int i0), .val (.int i1), .val (.int i2), .val (.ref a_TO), .val (.int (0 : Int32)), .val (.int (1 : Int32)), .val (.int (0 : Int32)), .val (.int (1 : Int32)), .val (.int (1 : Int32)), .unset] [(.int (1 : Int32))])) _
          refine XS.goto X49.here hx rfl (pc0 := 96) (pc' := 100) rfl (hb hby at_96) (by decide) (by decide) ?_
          show Steps p.tables e below (T49.setTop (mkF m 100 #[.val (.int i0), .val (.int i1), .val (.int i2), .val (.ref a_TO), .val (.int (0 : Int32)), .val (.int (1 : Int32)), .val (.int (0 : Int32)), .val (.int (1 : Int32)), .val (.int (1 : Int32)), .unset] [(.int (1 : Int32))])) _
          refine XS.istore X49.here hx rfl (hb hby at_100) rfl (l' := #[.val (.int i0), .val (.int i1), .val (.int i2), .val (.ref a_TO), .val (.int (0 : Int32)), .val (.int (1 : Int32)), .val (.int (0 : Int32)), .val (.int (1 : Int32)), .val (.int (1 : Int32)), .val (.int (1 : Int32))]) rfl ?_
          show Steps p.tables e below (T49.setTop (mkF m 102 #[.val (.int i0), .val (.int i1), .val (.int i2), .val (.ref a_TO), .val (.int (0 : Int32)), .val (.int (1 : Int32)), .val (.int (0 : Int32)), .val (.int (1 : Int32)), .val (.int (1 : Int32)), .val (.int (1 : Int32))] [])) _
          refine XS.iload X49.here hx rfl (hb hby at_102) rfl ?_
          show Steps p.tables e below (T49.setTop (mkF m 104 #[.val (.int i0), .val (.int i1), .val (.int i2), .val (.ref a_TO), .val (.int (0 : Int32)), .val (.int (1 : Int32)), .val (.int (0 : Int32)), .val (.int (1 : Int32)), .val (.int (1 : Int32)), .val (.int (1 : Int32))] [(.int (1 : Int32))])) _
          refine XS.ifNo X49.here hx rfl (hb hby at_104) rfl (by decide) ?_
          show Steps p.tables e below (T49.setTop (mkF m 107 #[.val (.int i0), .val (.int i1), .val (.int i2), .val (.ref a_TO), .val (.int (0 : Int32)), .val (.int (1 : Int32)), .val (.int (0 : Int32)), .val (.int (1 : Int32)), .val (.int (1 : Int32)), .val (.int (1 : Int32))] [])) _
          refine XS.iload X49.here hx rfl (hb hby at_107) rfl ?_
          show Steps p.tables e below (T49.setTop (mkF m 109 #[.val (.int i0), .val (.int i1), .val (.int i2), .val (.ref a_TO), .val (.int (0 : Int32)), .val (.int (1 : Int32)), .val (.int (0 : Int32)), .val (.int (1 : Int32)), .val (.int (1 : Int32)), .val (.int (1 : Int32))] [(.int (1 : Int32))])) _
          refine XS.ifNo X49.here hx rfl (hb hby at_109) rfl (by decide) ?_
          show Steps p.tables e below (T49.setTop (mkF m 112 #[.val (.int i0), .val (.int i1), .val (.int i2), .val (.ref a_TO), .val (.int (0 : Int32)), .val (.int (1 : Int32)), .val (.int (0 : Int32)), .val (.int (1 : Int32)), .val (.int (1 : Int32)), .val (.int (1 : Int32))] [])) _
          refine XS.iload X49.here hx rfl (hb hby at_112) rfl ?_
          show Steps p.tables e below (T49.setTop (mkF m 114 #[.val (.int i0), .val (.int i1), .val (.int i2), .val (.ref a_TO), .val (.int (0 : Int32)), .val (.int (1 : Int32)), .val (.int (0 : Int32)), .val (.int (1 : Int32)), .val (.int (1 : Int32)), .val (.int (1 : Int32))] [(.int (1 : Int32))])) _
          refine XS.ifNo X49.here hx rfl (hb hby at_114) rfl (by decide) ?_
          show Steps p.tables e below (T49.setTop (mkF m 117 #[.val (.int i0), .val (.int i1), .val (.int i2), .val (.ref a_TO), .val (.int (0 : Int32)), .val (.int (1 : Int32)), .val (.int (0 : Int32)), .val (.int (1 : Int32)), .val (.int (1 : Int32)), .val (.int (1 : Int32))] [])) _
          refine XS.iconst X49.here hx rfl (hb hby at_117) ?_
          show Steps p.tables e below (T49.setTop (mkF m 118 #[.val (.int i0), .val (.int i1), .val (.int i2), .val (.ref a_TO), .val (.int (0 : Int32)), .val (.int (1 : Int32)), .val (.int (0 : Int32)), .val (.int (1 : Int32)), .val (.int (1 : Int32)), .val (.int (1 : Int32))] [(.int (1 : Int32))])) _
          refine XS.goto X49.here hx rfl (pc0 := 118) (pc' := 122) rfl (hb hby at_118) (by decide) (by decide) ?_
          show Steps p.tables e below (T49.setTop (mkF m 122 #[.val (.int i0), .val (.int i1), .val (.int i2), .val (.ref a_TO), .val (.int (0 : Int32)), .val (.int (1 : Int32)), .val (.int (0 : Int32)), .val (.int (1 : Int32)), .val (.int (1 : Int32)), .val (.int (1 : Int32))] [(.int (1 : Int32))])) _
          exact retN X49 hx (t := .boolean) Bd.returns (by simp) (hb hby at_122) hr
        · show QL n0 _ T49.heap _
          rw [hh49]
          exact ⟨rfl, N49⟩
      · skip
        obtain ⟨cq50, kq50, q50a, q50b, q50c⟩ := isOf hZ hh28 (Exa.ext O0.2 X_a_TO)
        obtain ⟨_, _, ⟨T50, L50, k50, n50⟩, -, X50, ⟨Lc50, hQ50, l50, y50, z50⟩, st50⟩ := X28.virtualBack hx (y := (⟨"com/example/carbonfold/carbonfold/model/RosterItem$Subscription", "hasFrom", "()Z"⟩ : MethodName)) (z := (⟨"com/example/carbonfold/carbonfold/model/RosterItem$Subscription", "hasFrom", "()Z"⟩ : MethodName)) hown (mvT hZ (hw _ (List.mem_of_getElem? (i := 7) rfl))) (mvT hZ (hw _ (List.mem_of_getElem? (i := 8) rfl))) (notFace_of_selects (args := #[]) (mvT hZ (hw _ (List.mem_of_getElem? (i := 10) rfl)))) (mvT hZ (hw _ (List.mem_of_getElem? (i := 10) rfl))) (mvT hZ (hw _ (List.mem_of_getElem? (i := 9) rfl))) (by decide) (backOf (W := 0) (rm_hasFrom_8 l Z a0 hw [] a_NONE a_FROM a_BOTH a_TO h0 n0 O0 En) hZ (hw _ (List.mem_of_getElem? (i := 11) rfl)) (hw _ (List.mem_of_getElem? (i := 5) rfl)) (by decide) (by decide)) q50a q50c (g := (mkF m 45 #[.val (.int i0), .val (.int i1), .val (.int i2), .val (.ref a_TO), .val (.int (0 : Int32)), .val (.int (1 : Int32)), .val (.int (1 : Int32)), .unset, .unset, .unset] [(.ref a_TO)])) rfl (by rw [hml]; rfl) (Steps.refl _) (argsL := []) (rest := []) (lenOf pd_1 rfl) rfl (by show 2 * 0 + _ ≤ _; exact Nat.le_of_eq rfl) (hb hby at_45) (fun _ _ => ⟨rfl, hh28, (by decide : 0 + 0 ≤ _), (by decide : 0 + 0 ≤ _)⟩)
        dsimp only [Pt.U, Pt.locs, Pt.cells, Pt.slots] at X50 l50 y50 z50 st50 hQ50
        subst l50 y50 z50
        obtain ⟨rfl, N50q, hh50⟩ := hQ50
        have N50 := Fr.app N28 N50q
        obtain ⟨cq51, kq51, q51a, q51b, q51c⟩ := isOf hZ hh50 (Exa.ext O0.2 X_a_TO)
        obtain ⟨_, _, ⟨T51, L51, k51, n51⟩, -, X51, ⟨Lc51, hQ51, l51, y51, z51⟩, st51⟩ := X50.virtualBack hx (y := (⟨"com/example/carbonfold/carbonfold/model/RosterItem$Subscription", "withFrom", "(Z)Lcom/example/carbonfold/carbonfold/model/RosterItem$Subscription;"⟩ : MethodName)) (z := (⟨"com/example/carbonfold/carbonfold/model/RosterItem$Subscription", "withFrom", "(Z)Lcom/example/carbonfold/carbonfold/model/RosterItem$Subscription;"⟩ : MethodName)) hown (mvT hZ (hw _ (List.mem_of_getElem? (i := 16) rfl))) (mvT hZ (hw _ (List.mem_of_getElem? (i := 17) rfl))) (notFace_of_selects (args := #[]) (mvT hZ (hw _ (List.mem_of_getElem? (i := 19) rfl)))) (mvT hZ (hw _ (List.mem_of_getElem? (i := 19) rfl))) (mvT hZ (hw _ (List.mem_of_getElem? (i := 18) rfl))) (by decide) (backOf (W := 0) (rm_withFrom_16 l Z a0 hw [] a_NONE a_FROM a_BOTH a_TO h0 n0 O0 En) hZ (hw _ (List.mem_of_getElem? (i := 20) rfl)) (hw _ (List.mem_of_getElem? (i := 5) rfl)) (by decide) (by decide)) q51a q51c (g := (mkF m 63 #[.val (.int i0), .val (.int i1), .val (.int i2), .val (.ref a_TO), .val (.int (0 : Int32)), .val (.int (1 : Int32)), .val (.int (1 : Int32)), .val (.int (1 : Int32)), .unset, .unset] [(.int (1 : Int32)), (.ref a_TO)])) rfl (by rw [hml]; rfl) (Steps.refl _) (argsL := [(.int (1 : Int32))]) (rest := []) (lenOf pd_3 rfl) rfl (by show 2 * 0 + _ ≤ _; exact Nat.le_of_eq rfl) (hb hby at_63) (fun _ _ => ⟨rfl, hh50, (by decide : 0 + 0 ≤ _), (by decide : 0 + 0 ≤ _)⟩)
        dsimp only [Pt.U, Pt.locs, Pt.cells, Pt.slots] at X51 l51 y51 z51 st51 hQ51
        subst l51 y51 z51
        obtain ⟨rfl, N51q, hh51⟩ := hQ51
        have N51 := Fr.app N50 N51q
        obtain ⟨cq52, kq52, q52a, q52b, q52c⟩ := isOf hZ hh51 (Exa.ext O0.2 X_a_BOTH)
        obtain ⟨_, _, ⟨T52, L52, k52, n52⟩, -, X52, ⟨Lc52, hQ52, l52, y52, z52⟩, st52⟩ := X51.virtualBack hx (y := (⟨"com/example/carbonfold/carbonfold/model/RosterItem$Subscription", "hasFrom", "()Z"⟩ : MethodName)) (z := (⟨"com/example/carbonfold/carbonfold/model/RosterItem$Subscription", "hasFrom", "()Z"⟩ : MethodName)) hown (mvT hZ (hw _ (List.mem_of_getElem? (i := 7) rfl))) (mvT hZ (hw _ (List.mem_of_getElem? (i := 8) rfl))) (notFace_of_selects (args := #[]) (mvT hZ (hw _ (List.mem_of_getElem? (i := 10) rfl)))) (mvT hZ (hw _ (List.mem_of_getElem? (i := 10) rfl))) (mvT hZ (hw _ (List.mem_of_getElem? (i := 9) rfl))) (by decide) (backOf (W := 0) (rm_hasFrom_18 l Z a0 hw [] a_NONE a_FROM a_BOTH a_TO h0 n0 O0 En) hZ (hw _ (List.mem_of_getElem? (i := 11) rfl)) (hw _ (List.mem_of_getElem? (i := 5) rfl)) (by decide) (by decide)) q52a q52c (g := (mkF m 66 #[.val (.int i0), .val (.int i1), .val (.int i2), .val (.ref a_TO), .val (.int (0 : Int32)), .val (.int (1 : Int32)), .val (.int (1 : Int32)), .val (.int (1 : Int32)), .unset, .unset] [(.ref a_BOTH)])) rfl (by rw [hml]; rfl) (Steps.refl _) (argsL := []) (rest := []) (lenOf pd_1 rfl) rfl (by show 2 * 0 + _ ≤ _; exact Nat.le_of_eq rfl) (hb hby at_66) (fun _ _ => ⟨rfl, hh51, (by decide : 0 + 0 ≤ _), (by decide : 0 + 0 ≤ _)⟩)
        dsimp only [Pt.U, Pt.locs, Pt.cells, Pt.slots] at X52 l52 y52 z52 st52 hQ52
        subst l52 y52 z52
        obtain ⟨rfl, N52q, hh52⟩ := hQ52
        have N52 := Fr.app N51 N52q
        obtain ⟨cq53, kq53, q53a, q53b, q53c⟩ := isOf hZ hh52 (Exa.ext O0.2 X_a_TO)
        obtain ⟨_, _, ⟨T53, L53, k53, n53⟩, -, X53, ⟨Lc53, hQ53, l53, y53, z53⟩, st53⟩ := X52.virtualBack hx (y := (⟨"com/example/carbonfold/carbonfold/model/RosterItem$Subscription", "withTo", "(Z)Lcom/example/carbonfold/carbonfold/model/RosterItem$Subscription;"⟩ : MethodName)) (z := (⟨"com/example/carbonfold/carbonfold/model/RosterItem$Subscription", "withTo", "(Z)Lcom/example/carbonfold/carbonfold/model/RosterItem$Subscription;"⟩ : MethodName)) hown (mvT hZ (hw _ (List.mem_of_getElem? (i := 31) rfl))) (mvT hZ (hw _ (List.mem_of_getElem? (i := 32) rfl))) (notFace_of_selects (args := #[]) (mvT hZ (hw _ (List.mem_of_getElem? (i := 34) rfl)))) (mvT hZ (hw _ (List.mem_of_getElem? (i := 34) rfl))) (mvT hZ (hw _ (List.mem_of_getElem? (i := 33) rfl))) (by decide) (backOf (W := 0) (rm_withTo_15 l Z a0 hw [] a_NONE a_FROM a_BOTH a_TO h0 n0 O0 En) hZ (hw _ (List.mem_of_getElem? (i := 35) rfl)) (hw _ (List.mem_of_getElem? (i := 5) rfl)) (by decide) (by decide)) q53a q53c (g := (mkF m 84 #[.val (.int i0), .val (.int i1), .val (.int i2), .val (.ref a_TO), .val (.int (0 : Int32)), .val (.int (1 : Int32)), .val (.int (1 : Int32)), .val (.int (1 : Int32)), .val (.int (1 : Int32)), .unset] [(.int (1 : Int32)), (.ref a_TO)])) rfl (by rw [hml]; rfl) (Steps.refl _) (argsL := [(.int (1 : Int32))]) (rest := []) (lenOf pd_3 rfl) rfl (by show 2 * 0 + _ ≤ _; exact Nat.le_of_eq rfl) (hb hby at_84) (fun _ _ => ⟨rfl, hh52, (by decide : 0 + 0 ≤ _), (by decide : 0 + 0 ≤ _)⟩)
        dsimp only [Pt.U, Pt.locs, Pt.cells, Pt.slots] at X53 l53 y53 z53 st53 hQ53
        subst l53 y53 z53
        obtain ⟨rfl, N53q, hh53⟩ := hQ53
        have N53 := Fr.app N52 N53q
        obtain ⟨cq54, kq54, q54a, q54b, q54c⟩ := isOf hZ hh53 (Exa.ext O0.2 X_a_TO)
        obtain ⟨_, _, ⟨T54, L54, k54, n54⟩, -, X54, ⟨Lc54, hQ54, l54, y54, z54⟩, st54⟩ := X53.virtualBack hx (y := (⟨"com/example/carbonfold/carbonfold/model/RosterItem$Subscription", "hasFrom", "()Z"⟩ : MethodName)) (z := (⟨"com/example/carbonfold/carbonfold/model/RosterItem$Subscription", "hasFrom", "()Z"⟩ : MethodName)) hown (mvT hZ (hw _ (List.mem_of_getElem? (i := 7) rfl))) (mvT hZ (hw _ (List.mem_of_getElem? (i := 8) rfl))) (notFace_of_selects (args := #[]) (mvT hZ (hw _ (List.mem_of_getElem? (i := 10) rfl)))) (mvT hZ (hw _ (List.mem_of_getElem? (i := 10) rfl))) (mvT hZ (hw _ (List.mem_of_getElem? (i := 9) rfl))) (by decide) (backOf (W := 0) (rm_hasFrom_8 l Z a0 hw [] a_NONE a_FROM a_BOTH a_TO h0 n0 O0 En) hZ (hw _ (List.mem_of_getElem? (i := 11) rfl)) (hw _ (List.mem_of_getElem? (i := 5) rfl)) (by decide) (by decide)) q54a q54c (g := (mkF m 87 #[.val (.int i0), .val (.int i1), .val (.int i2), .val (.ref a_TO), .val (.int (0 : Int32)), .val (.int (1 : Int32)), .val (.int (1 : Int32)), .val (.int (1 : Int32)), .val (.int (1 : Int32)), .unset] [(.ref a_TO)])) rfl (by rw [hml]; rfl) (Steps.refl _) (argsL := []) (rest := []) (lenOf pd_1 rfl) rfl (by show 2 * 0 + _ ≤ _; exact Nat.le_of_eq rfl) (hb hby at_87) (fun _ _ => ⟨rfl, hh53, (by decide : 0 + 0 ≤ _), (by decide : 0 + 0 ≤ _)⟩)
        dsimp only [Pt.U, Pt.locs, Pt.cells, Pt.slots] at X54 l54 y54 z54 st54 hQ54
        subst l54 y54 z54
        obtain ⟨rfl, N54q, hh54⟩ := hQ54
        have N54 := Fr.app N53 N54q
        obtain ⟨fs, hr, hrun, hended, hW, hsame⟩ := X54.leave (v := some (.int (1 : Int32))) (fun h => by rw [Bd.returns] at h; cases h)
        refine ⟨_, _, pre43 _ ?_, hrun, hended, _, _, rfl, ?_, ⟨_, rfl⟩, hW, hsame.mono (by decide) (by decide)⟩
        · skip
          show Steps p.tables e below (T28.setTop (mkF m 34 #[.val (.int i0), .val (.int i1), .val (.int i2), .val (.ref a_TO), .val (.int (0 : Int32)), .val (.int (1 : Int32)), .unset, .unset, .unset, .unset] [(.int (i2 &&& (1 : Int32)))])) _
          rw [hk44]
          show Steps p.tables e below (T28.setTop (mkF m 34 #[.val (.int i0), .val (.int i1), .val (.int i2), .val (.ref a_TO), .val (.int (0 : Int32)), .val (.int (1 : Int32)), .unset, .unset, .unset, .unset] [(.int (1 : Int32))])) _
          refine XS.ifNo X28.here hx rfl (hb hby at_34) rfl (by decide) ?_
          show Steps p.tables e below (T28.setTop (mkF m 37 #[.val (.int i0), .val (.int i1), .val (.int i2), .val (.ref a_TO), .val (.int (0 : Int32)), .val (.int (1 : Int32)), .unset, .unset, .unset, .unset] [])) _
          refine XS.iconst X28.here hx rfl (hb hby at_37) ?_
          show Steps p.tables e below (T28.setTop (mkF m 38 #[.val (.int i0), .val (.int i1), .val (.int i2), .val (.ref a_TO), .val (.int (0 : Int32)), .val (.int (1 : Int32)), .unset, .unset, .unset, .unset] [(.int (1 : Int32))])) _
          refine XS.goto X28.here hx rfl (pc0 := 38) (pc' := 42) rfl (hb hby at_38) (by decide) (by decide) ?_
          show Steps p.tables e below (T28.setTop (mkF m 42 #[.val (.int i0), .val (.int i1), .val (.int i2), .val (.ref a_TO), .val (.int (0 : Int32)), .val (.int (1 : Int32)), .unset, .unset, .unset, .unset] [(.int (1 : Int32))])) _
          refine XS.istore X28.here hx rfl (hb hby at_42) rfl (l' := #[.val (.int i0), .val (.int i1), .val (.int i2), .val (.ref a_TO), .val (.int (0 : Int32)), .val (.int (1 : Int32)), .val (.int (1 : Int32)), .unset, .unset, .unset]) rfl ?_
          show Steps p.tables e below (T28.setTop (mkF m 44 #[.val (.int i0), .val (.int i1), .val (.int i2), .val (.ref a_TO), .val (.int (0 : Int32)), .val (.int (1 : Int32)), .val (.int (1 : Int32)), .unset, .unset, .unset] [])) _
          refine XS.aloadN X28.here hx rfl (hb hby at_44) rfl rfl ?_
          show Steps p.tables e below (T28.setTop (mkF m 45 #[.val (.int i0), .val (.int i1), .val (.int i2), .val (.ref a_TO), .val (.int (0 : Int32)), .val (.int (1 : Int32)), .val (.int (1 : Int32)), .unset, .unset, .unset] [(.ref a_TO)])) _
          refine st50.trans ?_
          show Steps p.tables e below (T50.setTop (mkF m 48 #[.val (.int i0), .val (.int i1), .val (.int i2), .val (.ref a_TO), .val (.int (0 : Int32)), .val (.int (1 : Int32)), .val (.int (1 : Int32)), .unset, .unset, .unset] [(.int (0 : Int32))])) _
          refine XS.iload X50.here hx rfl (hb hby at_48) rfl ?_
          show Steps p.tables e below (T50.setTop (mkF m 50 #[.val (.int i0), .val (.int i1), .val (.int i2), .val (.ref a_TO), .val (.int (0 : Int32)), .val (.int (1 : Int32)), .val (.int (1 : Int32)), .unset, .unset, .unset] [(.int (0 : Int32)), (.int (0 : Int32))])) _
          refine XS.icmpNo X50.here hx rfl (hb hby at_50) rfl (by decide) ?_
          show Steps p.tables e below (T50.setTop (mkF m 53 #[.val (.int i0), .val (.int i1), .val (.int i2), .val (.ref a_TO), .val (.int (0 : Int32)), .val (.int (1 : Int32)), .val (.int (1 : Int32)), .unset, .unset, .unset] [])) _
          refine XS.iconst X50.here hx rfl (hb hby at_53) ?_
          show Steps p.tables e below (T50.setTop (mkF m 54 #[.val (.int i0), .val (.int i1), .val (.int i2), .val (.ref a_TO), .val (.int (0 : Int32)), .val (.int (1 : Int32)), .val (.int (1 : Int32)), .unset, .unset, .unset] [(.int (1 : Int32))])) _
          refine XS.goto X50.here hx rfl (pc0 := 54) (pc' := 58) rfl (hb hby at_54) (by decide) (by decide) ?_
          show Steps p.tables e below (T50.setTop (mkF m 58 #[.val (.int i0), .val (.int i1), .val (.int i2), .val (.ref a_TO), .val (.int (0 : Int32)), .val (.int (1 : Int32)), .val (.int (1 : Int32)), .unset, .unset, .unset] [(.int (1 : Int32))])) _
          refine XS.istore X50.here hx rfl (hb hby at_58) rfl (l' := #[.val (.int i0), .val (.int i1), .val (.int i2), .val (.ref a_TO), .val (.int (0 : Int32)), .val (.int (1 : Int32)), .val (.int (1 : Int32)), .val (.int (1 : Int32)), .unset, .unset]) rfl ?_
          show Steps p.tables e below (T50.setTop (mkF m 60 #[.val (.int i0), .val (.int i1), .val (.int i2), .val (.ref a_TO), .val (.int (0 : Int32)), .val (.int (1 : Int32)), .val (.int (1 : Int32)), .val (.int (1 : Int32)), .unset, .unset] [])) _
          refine XS.aloadN X50.here hx rfl (hb hby at_60) rfl rfl ?_
          show Steps p.tables e below (T50.setTop (mkF m 61 #[.val (.int i0), .val (.int i1), .val (.int i2), .val (.ref a_TO), .val (.int (0 : Int32)), .val (.int (1 : Int32)), .val (.int (1 : Int32)), .val (.int (1 : Int32)), .unset, .unset] [(.ref a_TO)])) _
          refine XS.iload X50.here hx rfl (hb hby at_61) rfl ?_
          show Steps p.tables e below (T50.setTop (mkF m 63 #[.val (.int i0), .val (.int i1), .val (.int i2), .val (.ref a_TO), .val (.int (0 : Int32)), .val (.int (1 : Int32)), .val (.int (1 : Int32)), .val (.int (1 : Int32)), .unset, .unset] [(.int (1 : Int32)), (.ref a_TO)])) _
          refine st51.trans ?_
          show Steps p.tables e below (T51.setTop (mkF m 66 #[.val (.int i0), .val (.int i1), .val (.int i2), .val (.ref a_TO), .val (.int (0 : Int32)), .val (.int (1 : Int32)), .val (.int (1 : Int32)), .val (.int (1 : Int32)), .unset, .unset] [(.ref a_BOTH)])) _
          refine st52.trans ?_
          show Steps p.tables e below (T52.setTop (mkF m 69 #[.val (.int i0), .val (.int i1), .val (.int i2), .val (.ref a_TO), .val (.int (0 : Int32)), .val (.int (1 : Int32)), .val (.int (1 : Int32)), .val (.int (1 : Int32)), .unset, .unset] [(.int (1 : Int32))])) _
          refine XS.iload X52.here hx rfl (hb hby at_69) rfl ?_
          show Steps p.tables e below (T52.setTop (mkF m 71 #[.val (.int i0), .val (.int i1), .val (.int i2), .val (.ref a_TO), .val (.int (0 : Int32)), .val (.int (1 : Int32)), .val (.int (1 : Int32)), .val (.int (1 : Int32)), .unset, .unset] [(.int (1 : Int32)), (.int (1 : Int32))])) _
          refine XS.icmpNo X52.here hx rfl (hb hby at_71) rfl (by decide) ?_
          show Steps p.tables e below (T52.setTop (mkF m 74 #[.val (.int i0), .val (.int i1), .val (.int i2), .val (.ref a_TO), .val (.int (0 : Int32)), .val (.int (1 : Int32)), .val (.int (1 : Int32)), .val (.int (1 : Int32)), .unset, .unset] [])) _
          refine XS.iconst X52.here hx rfl (hb hby at_74) ?_
          show Steps p.tables e below (T52.setTop (mkF m 75 #[.val (.int i0), .val (.int i1), .val (.int i2), .val (.ref a_TO), .val (.int (0 : Int32)), .val (.int (1 : Int32)), .val (.int (1 : Int32)), .val (.int (1 : Int32)), .unset, .unset] [(.int (1 : Int32))])) _
          refine XS.goto X52.here hx rfl (pc0 := 75) (pc' := 79) rfl (hb hby at_75) (by decide) (by decide) ?_
          show Steps p.tables e below (T52.setTop (mkF m 79 #[.val (.int i0), .val (.int i1), .val (.int i2), .val (.ref a_TO), .val (.int (0 : Int32)), .val (.int (1 : Int32)), .val (.int (1 : Int32)), .val (.int (1 : Int32)), .unset, .unset] [(.int (1 : Int32))])) _
          refine XS.istore X52.here hx rfl (hb hby at_79) rfl (l' := #[.val (.int i0), .val (.int i1), .val (.int i2), .val (.ref a_TO), .val (.int (0 : Int32)), .val (.int (1 : Int32)), .val (.int (1 : Int32)), .val (.int (1 : Int32)), .val (.int (1 : Int32)), .unset]) rfl ?_
          show Steps p.tables e below (T52.setTop (mkF m 81 #[.val (.int i0), .val (.int i1), .val (.int i2), .val (.ref a_TO), .val (.int (0 : Int32)), .val (.int (1 : Int32)), .val (.int (1 : Int32)), .val (.int (1 : Int32)), .val (.int (1 : Int32)), .unset] [])) _
          refine XS.aloadN X52.here hx rfl (hb hby at_81) rfl rfl ?_
          show Steps p.tables e below (T52.setTop (mkF m 82 #[.val (.int i0), .val (.int i1), .val (.int i2), .val (.ref a_TO), .val (.int (0 : Int32)), .val (.int (1 : Int32)), .val (.int (1 : Int32)), .val (.int (1 : Int32)), .val (.int (1 : Int32)), .unset] [(.ref a_TO)])) _
          refine XS.iload X52.here hx rfl (hb hby at_82) rfl ?_
          show Steps p.tables e below (T52.setTop (mkF m 84 #[.val (.int i0), .val (.int i1), .val (.int i2), .val (.ref a_TO), .val (.int (0 : Int32)), .val (.int (1 : Int32)), .val (.int (1 : Int32)), .val (.int (1 : Int32)), .val (.int (1 : Int32)), .unset] [(.int (1 : Int32)), (.ref a_TO)])) _
          refine st53.trans ?_
          show Steps p.tables e below (T53.setTop (mkF m 87 #[.val (.int i0), .val (.int i1), .val (.int i2), .val (.ref a_TO), .val (.int (0 : Int32)), .val (.int (1 : Int32)), .val (.int (1 : Int32)), .val (.int (1 : Int32)), .val (.int (1 : Int32)), .unset] [(.ref a_TO)])) _
          refine st54.trans ?_
          show Steps p.tables e below (T54.setTop (mkF m 90 #[.val (.int i0), .val (.int i1), .val (.int i2), .val (.ref a_TO), .val (.int (0 : Int32)), .val (.int (1 : Int32)), .val (.int (1 : Int32)), .val (.int (1 : Int32)), .val (.int (1 : Int32)), .unset] [(.int (0 : Int32))])) _
          refine XS.iload X54.here hx rfl (hb hby at_90) rfl ?_
          show Steps p.tables e below (T54.setTop (mkF m 92 #[.val (.int i0), .val (.int i1), .val (.int i2), .val (.ref a_TO), .val (.int (0 : Int32)), .val (.int (1 : Int32)), .val (.int (1 : Int32)), .val (.int (1 : Int32)), .val (.int (1 : Int32)), .unset] [(.int (0 : Int32)), (.int (0 : Int32))])) _
          refine XS.icmpNo X54.here hx rfl (hb hby at_92) rfl (by decide) ?_
          show Steps p.tables e below (T54.setTop (mkF m 95 #[.val (.int i0), .val (.int i1), .val (.int i2), .val (.ref a_TO), .val (.int (0 : Int32)), .val (.int (1 : Int32)), .val (.int (1 : Int32)), .val (.int (1 : Int32)), .val (.int (1 : Int32)), .unset] [])) _
          refine XS.iconst X54.here hx rfl (hb hby at_95) ?_
          show Steps p.tables e below (T54.setTop (mkF m 96 #[.val (.int i0), .val (.int i1), .val (.int i2), .val (.ref a_TO), .val (.int (0 : Int32)), .val (.int (1 : Int32)), .val (.int (1 : Int32)), .val (.int (1 : Int32)), .val (.int (1 : Int32)), .unset] [(.int (1 : Int32))])) _
          refine XS.goto X54.here hx rfl (pc0 := 96) (pc' := 100) rfl (hb hby at_96) (by decide) (by decide) ?_
          show Steps p.tables e below (T54.setTop (mkF m 100 #[.val (.int i0), .val (.int i1), .val (.int i2), .val (.ref a_TO), .val (.int (0 : Int32)), .val (.int (1 : Int32)), .val (.int (1 : Int32)), .val (.int (1 : Int32)), .val (.int (1 : Int32)), .unset] [(.int (1 : Int32))])) _
          refine XS.istore X54.here hx rfl (hb hby at_100) rfl (l' := #[.val (.int i0), .val (.int i1), .val (.int i2), .val (.ref a_TO), .val (.int (0 : Int32)), .val (.int (1 : Int32)), .val (.int (1 : Int32)), .val (.int (1 : Int32)), .val (.int (1 : Int32)), .val (.int (1 : Int32))]) rfl ?_
          show Steps p.tables e below (T54.setTop (mkF m 102 #[.val (.int i0), .val (.int i1), .val (.int i2), .val (.ref a_TO), .val (.int (0 : Int32)), .val (.int (1 : Int32)), .val (.int (1 : Int32)), .val (.int (1 : Int32)), .val (.int (1 : Int32)), .val (.int (1 : Int32))] [])) _
          refine XS.iload X54.here hx rfl (hb hby at_102) rfl ?_
          show Steps p.tables e below (T54.setTop (mkF m 104 #[.val (.int i0), .val (.int i1), .val (.int i2), .val (.ref a_TO), .val (.int (0 : Int32)), .val (.int (1 : Int32)), .val (.int (1 : Int32)), .val (.int (1 : Int32)), .val (.int (1 : Int32)), .val (.int (1 : Int32))] [(.int (1 : Int32))])) _
          refine XS.ifNo X54.here hx rfl (hb hby at_104) rfl (by decide) ?_
          show Steps p.tables e below (T54.setTop (mkF m 107 #[.val (.int i0), .val (.int i1), .val (.int i2), .val (.ref a_TO), .val (.int (0 : Int32)), .val (.int (1 : Int32)), .val (.int (1 : Int32)), .val (.int (1 : Int32)), .val (.int (1 : Int32)), .val (.int (1 : Int32))] [])) _
          refine XS.iload X54.here hx rfl (hb hby at_107) rfl ?_
          show Steps p.tables e below (T54.setTop (mkF m 109 #[.val (.int i0), .val (.int i1), .val (.int i2), .val (.ref a_TO), .val (.int (0 : Int32)), .val (.int (1 : Int32)), .val (.int (1 : Int32)), .val (.int (1 : Int32)), .val (.int (1 : Int32)), .val (.int (1 : Int32))] [(.int (1 : Int32))])) _
          refine XS.ifNo X54.here hx rfl (hb hby at_109) rfl (by decide) ?_
          show Steps p.tables e below (T54.setTop (mkF m 112 #[.val (.int i0), .val (.int i1), .val (.int i2), .val (.ref a_TO), .val (.int (0 : Int32)), .val (.int (1 : Int32)), .val (.int (1 : Int32)), .val (.int (1 : Int32)), .val (.int (1 : Int32)), .val (.int (1 : Int32))] [])) _
          refine XS.iload X54.here hx rfl (hb hby at_112) rfl ?_
          show Steps p.tables e below (T54.setTop (mkF m 114 #[.val (.int i0), .val (.int i1), .val (.int i2), .val (.ref a_TO), .val (.int (0 : Int32)), .val (.int (1 : Int32)), .val (.int (1 : Int32)), .val (.int (1 : Int32)), .val (.int (1 : Int32)), .val (.int (1 : Int32))] [(.int (1 : Int32))])) _
          refine XS.ifNo X54.here hx rfl (hb hby at_114) rfl (by decide) ?_
          show Steps p.tables e below (T54.setTop (mkF m 117 #[.val (.int i0), .val (.int i1), .val (.int i2), .val (.ref a_TO), .val (.int (0 : Int32)), .val (.int (1 : Int32)), .val (.int (1 : Int32)), .val (.int (1 : Int32)), .val (.int (1 : Int32)), .val (.int (1 : Int32))] [])) _
          refine XS.iconst X54.here hx rfl (hb hby at_117) ?_
          show Steps p.tables e below (T54.setTop (mkF m 118 #[.val (.int i0), .val (.int i1), .val (.int i2), .val (.ref a_TO), .val (.int (0 : Int32)), .val (.int (1 : Int32)), .val (.int (1 : Int32)), .val (.int (1 : Int32)), .val (.int (1 : Int32)), .val (.int (1 : Int32))] [(.int (1 : Int32))])) _
          refine XS.goto X54.here hx rfl (pc0 := 118) (pc' := 122) rfl (hb hby at_118) (by decide) (by decide) ?_
          show Steps p.tables e below (T54.setTop (mkF m 122 #[.val (.int i0), .val (.int i1), .val (.int i2), .val (.ref a_TO), .val (.int (0 : Int32)), .val (.int (1 : Int32)), .val (.int (1 : Int32)), .val (.int (1 : Int32)), .val (.int (1 : Int32)), .val (.int (1 : Int32))] [(.int (1 : Int32))])) _
          exact retN X54 hx (t := .boolean) Bd.returns (by simp) (hb hby at_122) hr
        · show QL n0 _ T54.heap _
          rw [hh54]
          exact ⟨rfl, N54⟩
  · skip
    have hk2 : (i0 &&& (2 : Int32)) = (2 : Int32) := own_k2 hk rfl
    obtain ⟨_, _, ⟨T55, L55, k55, n55⟩, -, X55, ⟨Lc55, hQ55, l55, y55, z55⟩, st55⟩ := Jvm.LawKit.callS X0 hx (y := (⟨"com/example/carbonfold/carbonfold/model/SubscriptionHasFromPinLaw", "pick", "(I)Lcom/example/carbonfold/carbonfold/model/RosterItem$Subscription;"⟩ : MethodName)) hown (mvT hZ (hw _ (List.mem_of_getElem? (i := 0) rfl))) (mvT hZ (hw _ (List.mem_of_getElem? (i := 1) rfl))) (mvT hZ (hw _ (List.mem_of_getElem? (i := 2) rfl))) (mvT hZ (hw _ (List.mem_of_getElem? (i := 3) rfl))) (by decide) (backOf (W := 0) (rm_pick2 l Z a0 hw [] i0 a_NONE a_FROM a_BOTH a_TO h0 n0 O0 En hk) hZ (hw _ (List.mem_of_getElem? (i := 3) rfl)) (hw _ (List.mem_of_getElem? (i := 2) rfl)) (by decide) (by decide)) (g := (mkF m 1 #[.val (.int i0), .val (.int i1), .val (.int i2), .unset, .unset, .unset, .unset, .unset, .unset, .unset] [(.int i0)])) rfl (by rw [hml]; rfl) (argsL := [(.int i0)]) (rest := []) (lenOf pd_0 rfl) rfl (by show 2 * 0 + _ ≤ _; exact Nat.le_of_eq rfl) (hb hby at_1) (fun _ _ => ⟨rfl, e0, (by decide : 0 + 0 ≤ _), (by decide : 0 + 0 ≤ _)⟩)
    dsimp only [Pt.U, Pt.locs, Pt.cells, Pt.slots] at X55 l55 y55 z55 st55 hQ55
    subst l55 y55 z55
    obtain ⟨rfl, N55q, hh55⟩ := hQ55
    have N55 := Fr.app N0 N55q
    have pre56 : ∀ t, Steps p.tables e below (T55.setTop (mkF m 21 #[.val (.int i0), .val (.int i1), .val (.int i2), .val (.ref a_FROM), .val (.int (1 : Int32)), .unset, .unset, .unset, .unset, .unset] [(.int (i1 &&& (1 : Int32)))])) t → Steps p.tables e below (s₁.setTop (entryFrame m #[(.int i0), (.int i1), (.int i2)] maxLocals)) t := fun t kt => pre0 t (by
        show Steps p.tables e below (s₁.setTop (mkF m 0 #[.val (.int i0), .val (.int i1), .val (.int i2), .unset, .unset, .unset, .unset, .unset, .unset, .unset] [])) _
        refine XS.iloadN X0.here hx rfl (hb hby at_0) rfl ?_
        show Steps p.tables e below (s₁.setTop (mkF m 1 #[.val (.int i0), .val (.int i1), .val (.int i2), .unset, .unset, .unset, .unset, .unset, .unset, .unset] [(.int i0)])) _
        refine st55 _ ?_
        show Steps p.tables e below (T55.setTop (mkF m 4 #[.val (.int i0), .val (.int i1), .val (.int i2), .unset, .unset, .unset, .unset, .unset, .unset, .unset] [(.ref a_FROM)])) _
        refine XS.astoreN X55.here hx rfl (hb hby at_4) rfl rfl (l' := #[.val (.int i0), .val (.int i1), .val (.int i2), .val (.ref a_FROM), .unset, .unset, .unset, .unset, .unset, .unset]) rfl ?_
        show Steps p.tables e below (T55.setTop (mkF m 5 #[.val (.int i0), .val (.int i1), .val (.int i2), .val (.ref a_FROM), .unset, .unset, .unset, .unset, .unset, .unset] [])) _
        refine XS.iloadN X55.here hx rfl (hb hby at_5) rfl ?_
        show Steps p.tables e below (T55.setTop (mkF m 6 #[.val (.int i0), .val (.int i1), .val (.int i2), .val (.ref a_FROM), .unset, .unset, .unset, .unset, .unset, .unset] [(.int i0)])) _
        refine XS.iconst X55.here hx rfl (hb hby at_6) ?_
        show Steps p.tables e below (T55.setTop (mkF m 7 #[.val (.int i0), .val (.int i1), .val (.int i2), .val (.ref a_FROM), .unset, .unset, .unset, .unset, .unset, .unset] [(.int (2 : Int32)), (.int i0)])) _
        refine XS.iand X55.here hx rfl (hb hby at_7) rfl ?_
        show Steps p.tables e below (T55.setTop (mkF m 8 #[.val (.int i0), .val (.int i1), .val (.int i2), .val (.ref a_FROM), .unset, .unset, .unset, .unset, .unset, .unset] [(.int (i0 &&& (2 : Int32)))])) _
        rw [hk2]
        show Steps p.tables e below (T55.setTop (mkF m 8 #[.val (.int i0), .val (.int i1), .val (.int i2), .val (.ref a_FROM), .unset, .unset, .unset, .unset, .unset, .unset] [(.int (2 : Int32))])) _
        refine XS.ifNo X55.here hx rfl (hb hby at_8) rfl (by decide) ?_
        show Steps p.tables e below (T55.setTop (mkF m 11 #[.val (.int i0), .val (.int i1), .val (.int i2), .val (.ref a_FROM), .unset, .unset, .unset, .unset, .unset, .unset] [])) _
        refine XS.iconst X55.here hx rfl (hb hby at_11) ?_
        show Steps p.tables e below (T55.setTop (mkF m 12 #[.val (.int i0), .val (.int i1), .val (.int i2), .val (.ref a_FROM), .unset, .unset, .unset, .unset, .unset, .unset] [(.int (1 : Int32))])) _
        refine XS.goto X55.here hx rfl (pc0 := 12) (pc' := 16) rfl (hb hby at_12) (by decide) (by decide) ?_
        show Steps p.tables e below (T55.setTop (mkF m 16 #[.val (.int i0), .val (.int i1), .val (.int i2), .val (.ref a_FROM), .unset, .unset, .unset, .unset, .unset, .unset] [(.int (1 : Int32))])) _
        refine XS.istore X55.here hx rfl (hb hby at_16) rfl (l' := #[.val (.int i0), .val (.int i1), .val (.int i2), .val (.ref a_FROM), .val (.int (1 : Int32)), .unset, .unset, .unset, .unset, .unset]) rfl ?_
        show Steps p.tables e below (T55.setTop (mkF m 18 #[.val (.int i0), .val (.int i1), .val (.int i2), .val (.ref a_FROM), .val (.int (1 : Int32)), .unset, .unset, .unset, .unset, .unset] [])) _
        refine XS.iloadN X55.here hx rfl (hb hby at_18) rfl ?_
        show Steps p.tables e below (T55.setTop (mkF m 19 #[.val (.int i0), .val (.int i1), .val (.int i2), .val (.ref a_FROM), .val (.int (1 : Int32)), .unset, .unset, .unset, .unset, .unset] [(.int i1)])) _
        refine XS.iconst X55.here hx rfl (hb hby at_19) ?_
        show Steps p.tables e below (T55.setTop (mkF m 20 #[.val (.int i0), .val (.int i1), .val (.int i2), .val (.ref a_FROM), .val (.int (1 : Int32)), .unset, .unset, .unset, .unset, .unset] [(.int (1 : Int32)), (.int i1)])) _
        refine XS.iand X55.here hx rfl (hb hby at_20) rfl ?_
        exact kt)
    rcases own_b i1 with hk57 | hk57
    · skip
      have pre58 : ∀ t, Steps p.tables e below (T55.setTop (mkF m 34 #[.val (.int i0), .val (.int i1), .val (.int i2), .val (.ref a_FROM), .val (.int (1 : Int32)), .val (.int (0 : Int32)), .unset, .unset, .unset, .unset] [(.int (i2 &&& (1 : Int32)))])) t → Steps p.tables e below (s₁.setTop (entryFrame m #[(.int i0), (.int i1), (.int i2)] maxLocals)) t := fun t kt => pre56 t (by
          show Steps p.tables e below (T55.setTop (mkF m 21 #[.val (.int i0), .val (.int i1), .val (.int i2), .val (.ref a_FROM), .val (.int (1 : Int32)), .unset, .unset, .unset, .unset, .unset] [(.int (i1 &&& (1 : Int32)))])) _
          rw [hk57]
          show Steps p.tables e below (T55.setTop (mkF m 21 #[.val (.int i0), .val (.int i1), .val (.int i2), .val (.ref a_FROM), .val (.int (1 : Int32)), .unset, .unset, .unset, .unset, .unset] [(.int (0 : Int32))])) _
          refine XS.ifYes X55.here hx rfl (pc0 := 21) (pc' := 28) rfl (hb hby at_21) rfl (by decide) (by decide) (by decide) ?_
          show Steps p.tables e below (T55.setTop (mkF m 28 #[.val (.int i0), .val (.int i1), .val (.int i2), .val (.ref a_FROM), .val (.int (1 : Int32)), .unset, .unset, .unset, .unset, .unset] [])) _
          refine XS.iconst X55.here hx rfl (hb hby at_28) ?_
          show Steps p.tables e below (T55.setTop (mkF m 29 #[.val (.int i0), .val (.int i1), .val (.int i2), .val (.ref a_FROM), .val (.int (1 : Int32)), .unset, .unset, .unset, .unset, .unset] [(.int (0 : Int32))])) _
          refine XS.istore X55.here hx rfl (hb hby at_29) rfl (l' := #[.val (.int i0), .val (.int i1), .val (.int i2), .val (.ref a_FROM), .val (.int (1 : Int32)), .val (.int (0 : Int32)), .unset, .unset, .unset, .unset]) rfl ?_
          show Steps p.tables e below (T55.setTop (mkF m 31 #[.val (.int i0), .val (.int i1), .val (.int i2), .val (.ref a_FROM), .val (.int (1 : Int32)), .val (.int (0 : Int32)), .unset, .unset, .unset, .unset] [])) _
          refine XS.iloadN X55.here hx rfl (hb hby at_31) rfl ?_
          show Steps p.tables e below (T55.setTop (mkF m 32 #[.val (.int i0), .val (.int i1), .val (.int i2), .val (.ref a_FROM), .val (.int (1 : Int32)), .val (.int (0 : Int32)), .unset, .unset, .unset, .unset] [(.int i2)])) _
          refine XS.iconst X55.here hx rfl (hb hby at_32) ?_
          show Steps p.tables e below (T55.setTop (mkF m 33 #[.val (.int i0), .val (.int i1), .val (.int i2), .val (.ref a_FROM), .val (.int (1 : Int32)), .val (.int (0 : Int32)), .unset, .unset, .unset, .unset] [(.int (1 : Int32)), (.int i2)])) _
          refine XS.iand X55.here hx rfl (hb hby at_33) rfl ?_
          exact kt)
      rcases own_b i2 with hk59 | hk59
      · skip
        obtain ⟨cq60, kq60, q60a, q60b, q60c⟩ := isOf hZ hh55 (Exa.ext O0.2 X_a_FROM)
        obtain ⟨_, _, ⟨T60, L60, k60, n60⟩, -, X60, ⟨Lc60, hQ60, l60, y60, z60⟩, st60⟩ := X55.virtualBack hx (y := (⟨"com/example/carbonfold/carbonfold/model/RosterItem$Subscription", "hasFrom", "()Z"⟩ : MethodName)) (z := (⟨"com/example/carbonfold/carbonfold/model/RosterItem$Subscription", "hasFrom", "()Z"⟩ : MethodName)) hown (mvT hZ (hw _ (List.mem_of_getElem? (i := 7) rfl))) (mvT hZ (hw _ (List.mem_of_getElem? (i := 8) rfl))) (notFace_of_selects (args := #[]) (mvT hZ (hw _ (List.mem_of_getElem? (i := 10) rfl)))) (mvT hZ (hw _ (List.mem_of_getElem? (i := 10) rfl))) (mvT hZ (hw _ (List.mem_of_getElem? (i := 9) rfl))) (by decide) (backOf (W := 0) (rm_hasFrom_11 l Z a0 hw [] a_NONE a_FROM a_BOTH a_TO h0 n0 O0 En) hZ (hw _ (List.mem_of_getElem? (i := 11) rfl)) (hw _ (List.mem_of_getElem? (i := 5) rfl)) (by decide) (by decide)) q60a q60c (g := (mkF m 45 #[.val (.int i0), .val (.int i1), .val (.int i2), .val (.ref a_FROM), .val (.int (1 : Int32)), .val (.int (0 : Int32)), .val (.int (0 : Int32)), .unset, .unset, .unset] [(.ref a_FROM)])) rfl (by rw [hml]; rfl) (Steps.refl _) (argsL := []) (rest := []) (lenOf pd_1 rfl) rfl (by show 2 * 0 + _ ≤ _; exact Nat.le_of_eq rfl) (hb hby at_45) (fun _ _ => ⟨rfl, hh55, (by decide : 0 + 0 ≤ _), (by decide : 0 + 0 ≤ _)⟩)
        dsimp only [Pt.U, Pt.locs, Pt.cells, Pt.slots] at X60 l60 y60 z60 st60 hQ60
        subst l60 y60 z60
        obtain ⟨rfl, N60q, hh60⟩ := hQ60
        have N60 := Fr.app N55 N60q
        obtain ⟨cq61, kq61, q61a, q61b, q61c⟩ := isOf hZ hh60 (Exa.ext O0.2 X_a_FROM)
        obtain ⟨_, _, ⟨T61, L61, k61, n61⟩, -, X61, ⟨Lc61, hQ61, l61, y61, z61⟩, st61⟩ := X60.virtualBack hx (y := (⟨"com/example/carbonfold/carbonfold/model/RosterItem$Subscription", "withFrom", "(Z)Lcom/example/carbonfold/carbonfold/model/RosterItem$Subscription;"⟩ : MethodName)) (z := (⟨"com/example/carbonfold/carbonfold/model/RosterItem$Subscription", "withFrom", "(Z)Lcom/example/carbonfold/carbonfold/model/RosterItem$Subscription;"⟩ : MethodName)) hown (mvT hZ (hw _ (List.mem_of_getElem? (i := 16) rfl))) (mvT hZ (hw _ (List.mem_of_getElem? (i := 17) rfl))) (notFace_of_selects (args := #[]) (mvT hZ (hw _ (List.mem_of_getElem? (i := 19) rfl)))) (mvT hZ (hw _ (List.mem_of_getElem? (i := 19) rfl))) (mvT hZ (hw _ (List.mem_of_getElem? (i := 18) rfl))) (by decide) (backOf (W := 0) (rm_withFrom_19 l Z a0 hw [] a_NONE a_FROM a_BOTH a_TO h0 n0 O0 En) hZ (hw _ (List.mem_of_getElem? (i := 20) rfl)) (hw _ (List.mem_of_getElem? (i := 5) rfl)) (by decide) (by decide)) q61a q61c (g := (mkF m 63 #[.val (.int i0), .val (.int i1), .val (.int i2), .val (.ref a_FROM), .val (.int (1 : Int32)), .val (.int (0 : Int32)), .val (.int (0 : Int32)), .val (.int (1 : Int32)), .unset, .unset] [(.int (0 : Int32)), (.ref a_FROM)])) rfl (by rw [hml]; rfl) (Steps.refl _) (argsL := [(.int (0 : Int32))]) (rest := []) (lenOf pd_3 rfl) rfl (by show 2 * 0 + _ ≤ _; exact Nat.le_of_eq rfl) (hb hby at_63) (fun _ _ => ⟨rfl, hh60, (by decide : 0 + 0 ≤ _), (by decide : 0 + 0 ≤ _)⟩)
        dsimp only [Pt.U, Pt.locs, Pt.cells, Pt.slots] at X61 l61 y61 z61 st61 hQ61
        subst l61 y61 z61
        obtain ⟨rfl, N61q, hh61⟩ := hQ61
        have N61 := Fr.app N60 N61q
        obtain ⟨cq62, kq62, q62a, q62b, q62c⟩ := isOf hZ hh61 (Exa.ext O0.2 X_a_NONE)
        obtain ⟨_, _, ⟨T62, L62, k62, n62⟩, -, X62, ⟨Lc62, hQ62, l62, y62, z62⟩, st62⟩ := X61.virtualBack hx (y := (⟨"com/example/carbonfold/carbonfold/model/RosterItem$Subscription", "hasFrom", "()Z"⟩ : MethodName)) (z := (⟨"com/example/carbonfold/carbonfold/model/RosterItem$Subscription", "hasFrom", "()Z"⟩ : MethodName)) hown (mvT hZ (hw _ (List.mem_of_getElem? (i := 7) rfl))) (mvT hZ (hw _ (List.mem_of_getElem? (i := 8) rfl))) (notFace_of_selects (args := #[]) (mvT hZ (hw _ (List.mem_of_getElem? (i := 10) rfl)))) (mvT hZ (hw _ (List.mem_of_getElem? (i := 10) rfl))) (mvT hZ (hw _ (List.mem_of_getElem? (i := 9) rfl))) (by decide) (backOf (W := 0) (rm_hasFrom_1 l Z a0 hw [] a_NONE a_FROM a_BOTH a_TO h0 n0 O0 En) hZ (hw _ (List.mem_of_getElem? (i := 11) rfl)) (hw _ (List.mem_of_getElem? (i := 5) rfl)) (by decide) (by decide)) q62a q62c (g := (mkF m 66 #[.val (.int i0), .val (.int i1), .val (.int i2), .val (.ref a_FROM), .val (.int (1 : Int32)), .val (.int (0 : Int32)), .val (.int (0 : Int32)), .val (.int (1 : Int32)), .unset, .unset] [(.ref a_NONE)])) rfl (by rw [hml]; rfl) (Steps.refl _) (argsL := []) (rest := []) (lenOf pd_1 rfl) rfl (by show 2 * 0 + _ ≤ _; exact Nat.le_of_eq rfl) (hb hby at_66) (fun _ _ => ⟨rfl, hh61, (by decide : 0 + 0 ≤ _), (by decide : 0 + 0 ≤ _)⟩)
        dsimp only [Pt.U, Pt.locs, Pt.cells, Pt.slots] at X62 l62 y62 z62 st62 hQ62
        subst l62 y62 z62
        obtain ⟨rfl, N62q, hh62⟩ := hQ62
        have N62 := Fr.app N61 N62q
        obtain ⟨cq63, kq63, q63a, q63b, q63c⟩ := isOf hZ hh62 (Exa.ext O0.2 X_a_FROM)
        obtain ⟨_, _, ⟨T63, L63, k63, n63⟩, -, X63, ⟨Lc63, hQ63, l63, y63, z63⟩, st63⟩ := X62.virtualBack hx (y := (⟨"com/example/carbonfold/carbonfold/model/RosterItem$Subscription", "withTo", "(Z)Lcom/example/carbonfold/carbonfold/model/RosterItem$Subscription;"⟩ : MethodName)) (z := (⟨"com/example/carbonfold/carbonfold/model/RosterItem$Subscription", "withTo", "(Z)Lcom/example/carbonfold/carbonfold/model/RosterItem$Subscription;"⟩ : MethodName)) hown (mvT hZ (hw _ (List.mem_of_getElem? (i := 31) rfl))) (mvT hZ (hw _ (List.mem_of_getElem? (i := 32) rfl))) (notFace_of_selects (args := #[]) (mvT hZ (hw _ (List.mem_of_getElem? (i := 34) rfl)))) (mvT hZ (hw _ (List.mem_of_getElem? (i := 34) rfl))) (mvT hZ (hw _ (List.mem_of_getElem? (i := 33) rfl))) (by decide) (backOf (W := 0) (rm_withTo_21 l Z a0 hw [] a_NONE a_FROM a_BOTH a_TO h0 n0 O0 En) hZ (hw _ (List.mem_of_getElem? (i := 35) rfl)) (hw _ (List.mem_of_getElem? (i := 5) rfl)) (by decide) (by decide)) q63a q63c (g := (mkF m 84 #[.val (.int i0), .val (.int i1), .val (.int i2), .val (.ref a_FROM), .val (.int (1 : Int32)), .val (.int (0 : Int32)), .val (.int (0 : Int32)), .val (.int (1 : Int32)), .val (.int (1 : Int32)), .unset] [(.int (0 : Int32)), (.ref a_FROM)])) rfl (by rw [hml]; rfl) (Steps.refl _) (argsL := [(.int (0 : Int32))]) (rest := []) (lenOf pd_3 rfl) rfl (by show 2 * 0 + _ ≤ _; exact Nat.le_of_eq rfl) (hb hby at_84) (fun _ _ => ⟨rfl, hh62, (by decide : 0 + 0 ≤ _), (by decide : 0 + 0 ≤ _)⟩)
        dsimp only [Pt.U, Pt.locs, Pt.cells, Pt.slots] at X63 l63 y63 z63 st63 hQ63
        subst l63 y63 z63
        obtain ⟨rfl, N63q, hh63⟩ := hQ63
        have N63 := Fr.app N62 N63q
        obtain ⟨cq64, kq64, q64a, q64b, q64c⟩ := isOf hZ hh63 (Exa.ext O0.2 X_a_FROM)
        obtain ⟨_, _, ⟨T64, L64, k64, n64⟩, -, X64, ⟨Lc64, hQ64, l64, y64, z64⟩, st64⟩ := X63.virtualBack hx (y := (⟨"com/example/carbonfold/carbonfold/model/RosterItem$Subscription", "hasFrom", "()Z"⟩ : MethodName)) (z := (⟨"com/example/carbonfold/carbonfold/model/RosterItem$Subscription", "hasFrom", "()Z"⟩ : MethodName)) hown (mvT hZ (hw _ (List.mem_of_getElem? (i := 7) rfl))) (mvT hZ (hw _ (List.mem_of_getElem? (i := 8) rfl))) (notFace_of_selects (args := #[]) (mvT hZ (hw _ (List.mem_of_getElem? (i := 10) rfl)))) (mvT hZ (hw _ (List.mem_of_getElem? (i := 10) rfl))) (mvT hZ (hw _ (List.mem_of_getElem? (i := 9) rfl))) (by decide) (backOf (W := 0) (rm_hasFrom_11 l Z a0 hw [] a_NONE a_FROM a_BOTH a_TO h0 n0 O0 En) hZ (hw _ (List.mem_of_getElem? (i := 11) rfl)) (hw _ (List.mem_of_getElem? (i := 5) rfl)) (by decide) (by decide)) q64a q64c (g := (mkF m 87 #[.val (.int i0), .val (.int i1), .val (.int i2), .val (.ref a_FROM), .val (.int (1 : Int32)), .val (.int (0 : Int32)), .val (.int (0 : Int32)), .val (.int (1 : Int32)), .val (.int (1 : Int32)), .unset] [(.ref a_FROM)])) rfl (by rw [hml]; rfl) (Steps.refl _) (argsL := []) (rest := []) (lenOf pd_1 rfl) rfl (by show 2 * 0 + _ ≤ _; exact Nat.le_of_eq rfl) (hb hby at_87) (fun _ _ => ⟨rfl, hh63, (by decide : 0 + 0 ≤ _), (by decide : 0 + 0 ≤ _)⟩)
        dsimp only [Pt.U, Pt.locs, Pt.cells, Pt.slots] at X64 l64 y64 z64 st64 hQ64
        subst l64 y64 z64
        obtain ⟨rfl, N64q, hh64⟩ := hQ64
        have N64 := Fr.app N63 N64q
        obtain ⟨fs, hr, hrun, hended, hW, hsame⟩ := X64.leave (v := some (.int (1 : Int32))) (fun h => by rw [Bd.returns] at h; cases h)
        refine ⟨_, _, pre58 _ ?_, hrun, hended, _, _, rfl, ?_, ⟨_, rfl⟩, hW, hsame.mono (by decide) (by decide)⟩
        · skip
          show Steps p.tables e below (T55.setTop (mkF m 34 #[.val (.int i0), .val (.int i1), .val (.int i2), .val (.ref a_FROM), .val (.int (1 : Int32)), .val (.int (0 : Int32)), .unset, .unset, .unset, .unset] [(.int (i2 &&& (1 : Int32)))])) _
          rw [hk59]
          show Steps p.tables e below (T55.setTop (mkF m 34 #[.val (.int i0), .val (.int i1), .val (.int i2), .val (.ref a_FROM), .val (.int (1 : Int32)), .val (.int (0 : Int32)), .unset, .unset, .unset, .unset] [(.int (0 : Int32))])) _
          refine XS.ifYes X55.here hx rfl (pc0 := 34) (pc' := 41) rfl (hb hby at_34) rfl (by decide) (by decide) (by decide) ?_
          show Steps p.tables e below (T55.setTop (mkF m 41 #[.val (.int i0), .val (.int i1), .val (.int i2), .val (.ref a_FROM), .val (.int (1 : Int32)), .val (.int (0 : Int32)), .unset, .unset, .unset, .unset] [])) _
          refine XS.iconst X55.here hx rfl (hb hby at_41) ?_
          show Steps p.tables e below (T55.setTop (mkF m 42 #[.val (.int i0), .val (.int i1), .val (.int i2), .val (.ref a_FROM), .val (.int (1 : Int32)), .val (.int (0 : Int32)), .unset, .unset, .unset, .unset] [(.int (0 : Int32))])) _
          refine XS.istore X55.here hx rfl (hb hby at_42) rfl (l' := #[.val (.int i0), .val (.int i1), .val (.int i2), .val (.ref a_FROM), .val (.int (1 : Int32)), .val (.int (0 : Int32)), .val (.int (0 : Int32)), .unset, .unset, .unset]) rfl ?_
          show Steps p.tables e below (T55.setTop (mkF m 44 #[.val (.int i0), .val (.int i1), .val (.int i2), .val (.ref a_FROM), .val (.int (1 : Int32)), .val (.int (0 : Int32)), .val (.int (0 : Int32)), .unset, .unset, .unset] [])) _
          refine XS.aloadN X55.here hx rfl (hb hby at_44) rfl rfl ?_
          show Steps p.tables e below (T55.setTop (mkF m 45 #[.val (.int i0), .val (.int i1), .val (.int i2), .val (.ref a_FROM), .val (.int (1 : Int32)), .val (.int (0 : Int32)), .val (.int (0 : Int32)), .unset, .unset, .unset] [(.ref a_FROM)])) _
          refine st60.trans ?_
          show Steps p.tables e below (T60.setTop (mkF m 48 #[.val (.int i0), .val (.int i1), .val (.int i2), .val (.ref a_FROM), .val (.int (1 : Int32)), .val (.int (0 : Int32)), .val (.int (0 : Int32)), .unset, .unset, .unset] [(.int (1 : Int32))])) _
          refine XS.iload X60.here hx rfl (hb hby at_48) rfl ?_
          show Steps p.tables e below (T60.setTop (mkF m 50 #[.val (.int i0), .val (.int i1), .val (.int i2), .val (.ref a_FROM), .val (.int (1 : Int32)), .val (.int (0 : Int32)), .val (.int (0 : Int32)), .unset, .unset, .unset] [(.int (1 : Int32)), (.int (1 : Int32))])) _
          refine XS.icmpNo X60.here hx rfl (hb hby at_50) rfl (by decide) ?_
          show Steps p.tables e below (T60.setTop (mkF m 53 #[.val (.int i0), .val (.int i1), .val (.int i2), .val (.ref a_FROM), .val (.int (1 : Int32)), .val (.int (0 : Int32)), .val (.int (0 : Int32)), .unset, .unset, .unset] [])) _
          refine XS.iconst X60.here hx rfl (hb hby at_53) ?_
          show Steps p.tables e below (T60.setTop (mkF m 54 #[.val (.int i0), .val (.int i1), .val (.int i2), .val (.ref a_FROM), .val (.int (1 : Int32)), .val (.int (0 : Int32)), .val (.int (0 : Int32)), .unset, .unset, .unset] [(.int (1 : Int32))])) _
          refine XS.goto X60.here hx rfl (pc0 := 54) (pc' := 58) rfl (hb hby at_54) (by decide) (by decide) ?_
          show Steps p.tables e below (T60.setTop (mkF m 58 #[.val (.int i0), .val (.int i1), .val (.int i2), .val (.ref a_FROM), .val (.int (1 : Int32)), .val (.int (0 : Int32)), .val (.int (0 : Int32)), .unset, .unset, .unset] [(.int (1 : Int32))])) _
          refine XS.istore X60.here hx rfl (hb hby at_58) rfl (l' := #[.val (.int i0), .val (.int i1), .val (.int i2), .val (.ref a_FROM), .val (.int (1 : Int32)), .val (.int (0 : Int32)), .val (.int (0 : Int32)), .val (.int (1 : Int32)), .unset, .unset]) rfl ?_
          show Steps p.tables e below (T60.setTop (mkF m 60 #[.val (.int i0), .val (.int i1), .val (.int i2), .val (.ref a_FROM), .val (.int (1 : Int32)), .val (.int (0 : Int32)), .val (.int (0 : Int32)), .val (.int (1 : Int32)), .unset, .unset] [])) _
          refine XS.aloadN X60.here hx rfl (hb hby at_60) rfl rfl ?_
          show Steps p.tables e below (T60.setTop (mkF m 61 #[.val (.int i0), .val (.int i1), .val (.int i2), .val (.ref a_FROM), .val (.int (1 : Int32)), .val (.int (0 : Int32)), .val (.int (0 : Int32)), .val (.int (1 : Int32)), .unset, .unset] [(.ref a_FROM)])) _
          refine XS.iload X60.here hx rfl (hb hby at_61) rfl ?_
          show Steps p.tables e below (T60.setTop (mkF m 63 #[.val (.int i0), .val (.int i1), .val (.int i2), .val (.ref a_FROM), .val (.int (1 : Int32)), .val (.int (0 : Int32)), .val (.int (0 : Int32)), .val (.int (1 : Int32)), .unset, .unset] [(.int (0 : Int32)), (.ref a_FROM)])) _
          refine st61.trans ?_
          show Steps p.tables e below (T61.setTop (mkF m 66 #[.val (.int i0), .val (.int i1), .val (.int i2), .val (.ref a_FROM), .val (.int (1 : Int32)), .val (.int (0 : Int32)), .val (.int (0 : Int32)), .val (.int (1 : Int32)), .unset, .unset] [(.ref a_NONE)])) _
          refine st62.trans ?_
          show Steps p.tables e below (T62.setTop (mkF m 69 #[.val (.int i0), .val (.int i1), .val (.int i2), .val (.ref a_FROM), .val (.int (1 : Int32)), .val (.int (0 : Int32)), .val (.int (0 : Int32)), .val (.int (1 : Int32)), .unset, .unset] [(.int (0 : Int32))])) _
          refine XS.iload X62.here hx rfl (hb hby at_69) rfl ?_
          show Steps p.tables e below (T62.setTop (mkF m 71 #[.val (.int i0), .val (.int i1), .val (.int i2), .val (.ref a_FROM), .val (.int (1 : Int32)), .val (.int (0 : Int32)), .val (.int (0 : Int32)), .val (.int (1 : Int32)), .unset, .unset] [(.int (0 : Int32)), (.int (0 : Int32))])) _
          refine XS.icmpNo X62.here hx rfl (hb hby at_71) rfl (by decide) ?_
          show Steps p.tables e below (T62.setTop (mkF m 74 #[.val (.int i0), .val (.int i1), .val (.int i2), .val (.ref a_FROM), .val (.int (1 : Int32)), .val (.int (0 : Int32)), .val (.int (0 : Int32)), .val (.int (1 : Int32)), .unset, .unset] [])) _
          refine XS.iconst X62.here hx rfl (hb hby at_74) ?_
          show Steps p.tables e below (T62.setTop (mkF m 75 #[.val (.int i0), .val (.int i1), .val (.int i2), .val (.ref a_FROM), .val (.int (1 : Int32)), .val (.int (0 : Int32)), .val (.int (0 : Int32)), .val (.int (1 : Int32)), .unset, .unset] [(.int (1 : Int32))])) _
          refine XS.goto X62.here hx rfl (pc0 := 75) (pc' := 79) rfl (hb hby at_75) (by decide) (by decide) ?_
          show Steps p.tables e below (T62.setTop (mkF m 79 #[.val (.int i0), .val (.int i1), .val (.int i2), .val (.ref a_FROM), .val (.int (1 : Int32)), .val (.int (0 : Int32)), .val (.int (0 : Int32)), .val (.int (1 : Int32)), .unset, .unset] [(.int (1 : Int32))])) _
          refine XS.istore X62.here hx rfl (hb hby at_79) rfl (l' := #[.val (.int i0), .val (.int i1), .val (.int i2), .val (.ref a_FROM), .val (.int (1 : Int32)), .val (.int (0 : Int32)), .val (.int (0 : Int32)), .val (.int (1 : Int32)), .val (.int (1 : Int32)), .unset]) rfl ?_
          show Steps p.tables e below (T62.setTop (mkF m 81 #[.val (.int i0), .val (.int i1), .val (.int i2), .val (.ref a_FROM), .val (.int (1 : Int32)), .val (.int (0 : Int32)), .val (.int (0 : Int32)), .val (.int (1 : Int32)), .val (.int (1 : Int32)), .unset] [])) _
          refine XS.aloadN X62.here hx rfl (hb hby at_81) rfl rfl ?_
          show Steps p.tables e below (T62.setTop (mkF m 82 #[.val (.int i0), .val (.int i1), .val (.int i2), .val (.ref a_FROM), .val (.int (1 : Int32)), .val (.int (0 : Int32)), .val (.int (0 : Int32)), .val (.int (1 : Int32)), .val (.int (1 : Int32)), .unset] [(.ref a_FROM)])) _
          refine XS.iload X62.here hx rfl (hb hby at_82) rfl ?_
          show Steps p.tables e below (T62.setTop (mkF m 84 #[.val (.int i0), .val (.int i1), .val (.int i2), .val (.ref a_FROM), .val (.int (1 : Int32)), .val (.int (0 : Int32)), .val (.int (0 : Int32)), .val (.int (1 : Int32)), .val (.int (1 : Int32)), .unset] [(.int (0 : Int32)), (.ref a_FROM)])) _
          refine st63.trans ?_
          show Steps p.tables e below (T63.setTop (mkF m 87 #[.val (.int i0), .val (.int i1), .val (.int i2), .val (.ref a_FROM), .val (.int (1 : Int32)), .val (.int (0 : Int32)), .val (.int (0 : Int32)), .val (.int (1 : Int32)), .val (.int (1 : Int32)), .unset] [(.ref a_FROM)])) _
          refine st64.trans ?_
          show Steps p.tables e below (T64.setTop (mkF m 90 #[.val (.int i0), .val (.int i1), .val (.int i2), .val (.ref a_FROM), .val (.int (1 : Int32)), .val (.int (0 : Int32)), .val (.int (0 : Int32)), .val (.int (1 : Int32)), .val (.int (1 : Int32)), .unset] [(.int (1 : Int32))])) _
          refine XS.iload X64.here hx rfl (hb hby at_90) rfl ?_
          show Steps p.tables e below (T64.setTop (mkF m 92 #[.val (.int i0), .val (.int i1), .val (.int i2), .val (.ref a_FROM), .val (.int (1 : Int32)), .val (.int (0 : Int32)), .val (.int (0 : Int32)), .val (.int (1 : Int32)), .val (.int (1 : Int32)), .unset] [(.int (1 : Int32)), (.int (1 : Int32))])) _
          refine XS.icmpNo X64.here hx rfl (hb hby at_92) rfl (by decide) ?_
          show Steps p.tables e below (T64.setTop (mkF m 95 #[.val (.int i0), .val (.int i1), .val (.int i2), .val (.ref a_FROM), .val (.int (1 : Int32)), .val (.int (0 : Int32)), .val (.int (0 : Int32)), .val (.int (1 : Int32)), .val (.int (1 : Int32)), .unset] [])) _
          refine XS.iconst X64.here hx rfl (hb hby at_95) ?_
          show Steps p.tables e below (T64.setTop (mkF m 96 #[.val (.int i0), .val (.int i1), .val (.int i2), .val (.ref a_FROM), .val (.int (1 : Int32)), .val (.int (0 : Int32)), .val (.int (0 : Int32)), .val (.int (1 : Int32)), .val (.int (1 : Int32)), .unset] [(.int (1 : Int32))])) _
          refine XS.goto X64.here hx rfl (pc0 := 96) (pc' := 100) rfl (hb hby at_96) (by decide) (by decide) ?_
          show Steps p.tables e below (T64.setTop (mkF m 100 #[.val (.int i0), .val (.int i1), .val (.int i2), .val (.ref a_FROM), .val (.int (1 : Int32)), .val (.int (0 : Int32)), .val (.int (0 : Int32)), .val (.int (1 : Int32)), .val (.int (1 : Int32)), .unset] [(.int (1 : Int32))])) _
          refine XS.istore X64.here hx rfl (hb hby at_100) rfl (l' := #[.val (.int i0), .val (.int i1), .val (.int i2), .val (.ref a_FROM), .val (.int (1 : Int32)), .val (.int (0 : Int32)), .val (.int (0 : Int32)), .val (.int (1 : Int32)), .val (.int (1 : Int32)), .val (.int (1 : Int32))]) rfl ?_
          show Steps p.tables e below (T64.setTop (mkF m 102 #[.val (.int i0), .val (.int i1), .val (.int i2), .val (.ref a_FROM), .val (.int (1 : Int32)), .val (.int (0 : Int32)), .val (.int (0 : Int32)), .val (.int (1 : Int32)), .val (.int (1 : Int32)), .val (.int (1 : Int32))] [])) _
          refine XS.iload X64.here hx rfl (hb hby at_102) rfl ?_
          show Steps p.tables e below (T64.setTop (mkF m 104 #[.val (.int i0), .val (.int i1), .val (.int i2), .val (.ref a_FROM), .val (.int (1 : Int32)), .val (.int (0 : Int32)), .val (.int (0 : Int32)), .val (.int (1 : Int32)), .val (.int (1 : Int32)), .val (.int (1 : Int32))] [(.int (1 : Int32))])) _
          refine XS.ifNo X64.here hx rfl (hb hby at_104) rfl (by decide) ?_
          show Steps p.tables e below (T64.setTop (mkF m 107 #[.val (.int i0), .val (.int i1), .val (.int i2), .val (.ref a_FROM), .val (.int (1 : Int32)), .val (.int (0 : Int32)), .val (.int (0 : Int32)), .val (.int (1 : Int32)), .val (.int (1 : Int32)), .val (.int (1 : Int32))] [])) _
          refine XS.iload X64.here hx rfl (hb hby at_107) rfl ?_
          show Steps p.tables e below (T64.setTop (mkF m 109 #[.val (.int i0), .val (.int i1), .val (.int i2), .val (.ref a_FROM), .val (.int (1 : Int32)), .val (.int (0 : Int32)), .val (.int (0 : Int32)), .val (.int (1 : Int32)), .val (.int (1 : Int32)), .val (.int (1 : Int32))] [(.int (1 : Int32))])) _
          refine XS.ifNo X64.here hx rfl (hb hby at_109) rfl (by decide) ?_
          show Steps p.tables e below (T64.setTop (mkF m 112 #[.val (.int i0), .val (.int i1), .val (.int i2), .val (.ref a_FROM), .val (.int (1 : Int32)), .val (.int (0 : Int32)), .val (.int (0 : Int32)), .val (.int (1 : Int32)), .val (.int (1 : Int32)), .val (.int (1 : Int32))] [])) _
          refine XS.iload X64.here hx rfl (hb hby at_112) rfl ?_
          show Steps p.tables e below (T64.setTop (mkF m 114 #[.val (.int i0), .val (.int i1), .val (.int i2), .val (.ref a_FROM), .val (.int (1 : Int32)), .val (.int (0 : Int32)), .val (.int (0 : Int32)), .val (.int (1 : Int32)), .val (.int (1 : Int32)), .val (.int (1 : Int32))] [(.int (1 : Int32))])) _
          refine XS.ifNo X64.here hx rfl (hb hby at_114) rfl (by decide) ?_
          show Steps p.tables e below (T64.setTop (mkF m 117 #[.val (.int i0), .val (.int i1), .val (.int i2), .val (.ref a_FROM), .val (.int (1 : Int32)), .val (.int (0 : Int32)), .val (.int (0 : Int32)), .val (.int (1 : Int32)), .val (.int (1 : Int32)), .val (.int (1 : Int32))] [])) _
          refine XS.iconst X64.here hx rfl (hb hby at_117) ?_
          show Steps p.tables e below (T64.setTop (mkF m 118 #[.val (.int i0), .val (.int i1), .val (.int i2), .val (.ref a_FROM), .val (.int (1 : Int32)), .val (.int (0 : Int32)), .val (.int (0 : Int32)), .val (.int (1 : Int32)), .val (.int (1 : Int32)), .val (.int (1 : Int32))] [(.int (1 : Int32))])) _
          refine XS.goto X64.here hx rfl (pc0 := 118) (pc' := 122) rfl (hb hby at_118) (by decide) (by decide) ?_
          show Steps p.tables e below (T64.setTop (mkF m 122 #[.val (.int i0), .val (.int i1), .val (.int i2), .val (.ref a_FROM), .val (.int (1 : Int32)), .val (.int (0 : Int32)), .val (.int (0 : Int32)), .val (.int (1 : Int32)), .val (.int (1 : Int32)), .val (.int (1 : Int32))] [(.int (1 : Int32))])) _
          exact retN X64 hx (t := .boolean) Bd.returns (by simp) (hb hby at_122) hr
        · show QL n0 _ T64.heap _
          rw [hh64]
          exact ⟨rfl, N64⟩
      · skip
        obtain ⟨cq65, kq65, q65a, q65b, q65c⟩ := isOf hZ hh55 (Exa.ext O0.2 X_a_FROM)
        obtain ⟨_, _, ⟨T65, L65, k65, n65⟩, -, X65, ⟨Lc65, hQ65, l65, y65, z65⟩, st65⟩ := X55.virtualBack hx (y := (⟨"com/example/carbonfold/carbonfold/model/RosterItem$Subscription", "hasFrom", "()Z"⟩ : MethodName)) (z := (⟨"com/example/carbonfold/carbonfold/model/RosterItem$Subscription", "hasFrom", "()Z"⟩ : MethodName)) hown (mvT hZ (hw _ (List.mem_of_getElem? (i := 7) rfl))) (mvT hZ (hw _ (List.mem_of_getElem? (i := 8) rfl))) (notFace_of_selects (args := #[]) (mvT hZ (hw _ (List.mem_of_getElem? (i := 10) rfl)))) (mvT hZ (hw _ (List.mem_of_getElem? (i := 10) rfl))) (mvT hZ (hw _ (List.mem_of_getElem? (i := 9) rfl))) (by decide) (backOf (W := 0) (rm_hasFrom_11 l Z a0 hw [] a_NONE a_FROM a_BOTH a_TO h0 n0 O0 En) hZ (hw _ (List.mem_of_getElem? (i := 11) rfl)) (hw _ (List.mem_of_getElem? (i := 5) rfl)) (by decide) (by decide)) q65a q65c (g := (mkF m 45 #[.val (.int i0), .val (.int i1), .val (.int i2), .val (.ref a_FROM), .val (.int (1 : Int32)), .val (.int (0 : Int32)), .val (.int (1 : Int32)), .unset, .unset, .unset] [(.ref a_FROM)])) rfl (by rw [hml]; rfl) (Steps.refl _) (argsL := []) (rest := []) (lenOf pd_1 rfl) rfl (by show 2 * 0 + _ ≤ _; exact Nat.le_of_eq rfl) (hb hby at_45) (fun _ _ => ⟨rfl, hh55, (by decide : 0 + 0 ≤ _), (by decide : 0 + 0 ≤ _)⟩)
        dsimp only [Pt.U, Pt.locs, Pt.cells, Pt.slots] at X65 l65 y65 z65 st65 hQ65
        subst l65 y65 z65
        obtain ⟨rfl, N65q, hh65⟩ := hQ65
        have N65 := Fr.app N55 N65q
        obtain ⟨cq66, kq66, q66a, q66b, q66c⟩ := isOf hZ hh65 (Exa.ext O0.2 X_a_FROM)
        obtain ⟨_, _, ⟨T66, L66, k66, n66⟩, -, X66, ⟨Lc66, hQ66, l66, y66, z66⟩, st66⟩ := X65.virtualBack hx (y := (⟨"com/example/carbonfold/carbonfold/model/RosterItem$Subscription", "withFrom", "(Z)Lcom/example/carbonfold/carbonfold/model/RosterItem$Subscription;"⟩ : MethodName)) (z := (⟨"com/example/carbonfold/carbonfold/model/RosterItem$Subscription", "withFrom", "(Z)Lcom/example/carbonfold/carbonfold/model/RosterItem$Subscription;"⟩ : MethodName)) hown (mvT hZ (hw _ (List.mem_of_getElem? (i := 16) rfl))) (mvT hZ (hw _ (List.mem_of_getElem? (i := 17) rfl))) (notFace_of_selects (args := #[]) (mvT hZ (hw _ (List.mem_of_getElem? (i := 19) rfl)))) (mvT hZ (hw _ (List.mem_of_getElem? (i := 19) rfl))) (mvT hZ (hw _ (List.mem_of_getElem? (i := 18) rfl))) (by decide) (backOf (W := 0) (rm_withFrom_19 l Z a0 hw [] a_NONE a_FROM a_BOTH a_TO h0 n0 O0 En) hZ (hw _ (List.mem_of_getElem? (i := 20) rfl)) (hw _ (List.mem_of_getElem? (i := 5) rfl)) (by decide) (by decide)) q66a q66c (g := (mkF m 63 #[.val (.int i0), .val (.int i1), .val (.int i2), .val (.ref a_FROM), .val (.int (1 : Int32)), .val (.int (0 : Int32)), .val (.int (1 : Int32)), .val (.int (1 : Int32)), .unset, .unset] [(.int (0 : Int32)), (.ref a_FROM)])) rfl (by rw [hml]; rfl) (Steps.refl _) (argsL := [(.int (0 : Int32))]) (rest := []) (lenOf pd_3 rfl) rfl (by show 2 * 0 + _ ≤ _; exact Nat.le_of_eq rfl) (hb hby at_63) (fun _ _ => ⟨rfl, hh65, (by decide : 0 + 0 ≤ _), (by decide : 0 + 0 ≤ _)⟩)
        dsimp only [Pt.U, Pt.locs, Pt.cells, Pt.slots] at X66 l66 y66 z66 st66 hQ66
        subst l66 y66 z66
        obtain ⟨rfl, N66q, hh66⟩ := hQ66
        have N66 := Fr.app N65 N66q
        obtain ⟨cq67, kq67, q67a, q67b, q67c⟩ := isOf hZ hh66 (Exa.ext O0.2 X_a_NONE)
        obtain ⟨_, _, ⟨T67, L67, k67, n67⟩, -, X67, ⟨Lc67, hQ67, l67, y67, z67⟩, st67⟩ := X66.virtualBack hx (y := (⟨"com/example/carbonfold/carbonfold/model/RosterItem$Subscription", "hasFrom", "()Z"⟩ : MethodName)) (z := (⟨"com/example/carbonfold/carbonfold/model/RosterItem$Subscription", "hasFrom", "()Z"⟩ : MethodName)) hown (mvT hZ (hw _ (List.mem_of_getElem? (i := 7) rfl))) (mvT hZ (hw _ (List.mem_of_getElem? (i := 8) rfl))) (notFace_of_selects (args := #[]) (mvT hZ (hw _ (List.mem_of_getElem? (i := 10) rfl)))) (mvT hZ (hw _ (List.mem_of_getElem? (i := 10) rfl))) (mvT hZ (hw _ (List.mem_of_getElem? (i := 9) rfl))) (by decide) (backOf (W := 0) (rm_hasFrom_1 l Z a0 hw [] a_NONE a_FROM a_BOTH a_TO h0 n0 O0 En) hZ (hw _ (List.mem_of_getElem? (i := 11) rfl)) (hw _ (List.mem_of_getElem? (i := 5) rfl)) (by decide) (by decide)) q67a q67c (g := (mkF m 66 #[.val (.int i0), .val (.int i1), .val (.int i2), .val (.ref a_FROM), .val (.int (1 : Int32)), .val (.int (0 : Int32)), .val (.int (1 : Int32)), .val (.int (1 : Int32)), .unset, .unset] [(.ref a_NONE)])) rfl (by rw [hml]; rfl) (Steps.refl _) (argsL := []) (rest := []) (lenOf pd_1 rfl) rfl (by show 2 * 0 + _ ≤ _; exact Nat.le_of_eq rfl) (hb hby at_66) (fun _ _ => ⟨rfl, hh66, (by decide : 0 + 0 ≤ _), (by decide : 0 + 0 ≤ _)⟩)
        dsimp only [Pt.U, Pt.locs, Pt.cells, Pt.slots] at X67 l67 y67 z67 st67 hQ67
        subst l67 y67 z67
        obtain ⟨rfl, N67q, hh67⟩ := hQ67
        have N67 := Fr.app N66 N67q
        obtain ⟨cq68, kq68, q68a, q68b, q68c⟩ := isOf hZ hh67 (Exa.ext O0.2 X_a_FROM)
        obtain ⟨_, _, ⟨T68, L68, k68, n68⟩, -, X68, ⟨Lc68, hQ68, l68, y68, z68⟩, st68⟩ := X67.virtualBack hx (y := (⟨"com/example/carbonfold/carbonfold/model/RosterItem$Subscription", "withTo", "(Z)Lcom/example/carbonfold/carbonfold/model/RosterItem$Subscription;"⟩ : MethodName)) (z := (⟨"com/example/carbonfold/carbonfold/model/RosterItem$Subscription", "withTo", "(Z)Lcom/example/carbonfold/carbonfold/model/RosterItem$Subscription;"⟩ : MethodName)) hown (mvT hZ (hw _ (List.mem_of_getElem? (i := 31) rfl))) (mvT hZ (hw _ (List.mem_of_getElem? (i := 32) rfl))) (notFace_of_selects (args := #[]) (mvT hZ (hw _ (List.mem_of_getElem? (i := 34) rfl)))) (mvT hZ (hw _ (List.mem_of_getElem? (i := 34) rfl))) (mvT hZ (hw _ (List.mem_of_getElem? (i := 33) rfl))) (by decide) (backOf (W := 0) (rm_withTo_22 l Z a0 hw [] a_NONE a_FROM a_BOTH a_TO h0 n0 O0 En) hZ (hw _ (List.mem_of_getElem? (i := 35) rfl)) (hw _ (List.mem_of_getElem? (i := 5) rfl)) (by decide) (by decide)) q68a q68c (g := (mkF m 84 #[.val (.int i0), .val (.int i1), .val (.int i2), .val (.ref a_FROM), .val (.int (1 : Int32)), .val (.int (0 : Int32)), .val (.int (1 : Int32)), .val (.int (1 : Int32)), .val (.int (1 : Int32)), .unset] [(.int (1 : Int32)), (.ref a_FROM)])) rfl (by rw [hml]; rfl) (Steps.refl _) (argsL := [(.int (1 : Int32))]) (rest := []) (lenOf pd_3 rfl) rfl (by show 2 * 0 + _ ≤ _; exact Nat.le_of_eq rfl) (hb hby at_84) (fun _ _ => ⟨rfl, hh67, (by decide : 0 + 0 ≤ _), (by decide : 0 + 0 ≤ _)⟩)
        dsimp only [Pt.U, Pt.locs, Pt.cells, Pt.slots] at X68 l68 y68 z68 st68 hQ68
        subst l68 y68 z68
        obtain ⟨rfl, N68q, hh68⟩ := hQ68
        have N68 := Fr.app N67 N68q
        obtain ⟨cq69, kq69, q69a, q69b, q69c⟩ := isOf hZ hh68 (Exa.ext O0.2 X_a_BOTH)
        obtain ⟨_, _, ⟨T69, L69, k69, n69⟩, -, X69, ⟨Lc69, hQ69, l69, y69, z69⟩, st69⟩ := X68.virtualBack hx (y := (⟨"com/example/carbonfold/carbonfold/model/RosterItem$Subscription", "hasFrom", "()Z"⟩ : MethodName)) (z := (⟨"com/example/carbonfold/carbonfold/model/RosterItem$Subscription", "hasFrom", "()Z"⟩ : MethodName)) hown (mvT hZ (hw _ (List.mem_of_getElem? (i := 7) rfl))) (mvT hZ (hw _ (List.mem_of_getElem? (i := 8) rfl))) (notFace_of_selects (args := #[]) (mvT hZ (hw _ (List.mem_of_getElem? (i := 10) rfl)))) (mvT hZ (hw _ (List.mem_of_getElem? (i := 10) rfl))) (mvT hZ (hw _ (List.mem_of_getElem? (i := 9) rfl))) (by decide) (backOf (W := 0) (rm_hasFrom_18 l Z a0 hw [] a_NONE a_FROM a_BOTH a_TO h0 n0 O0 En) hZ (hw _ (List.mem_of_getElem? (i := 11) rfl)) (hw _ (List.mem_of_getElem? (i := 5) rfl)) (by decide) (by decide)) q69a q69c (g := (mkF m 87 #[.val (.int i0), .val (.int i1), .val (.int i2), .val (.ref a_FROM), .val (.int (1 : Int32)), .val (.int (0 : Int32)), .val (.int (1 : Int32)), .val (.int (1 : Int32)), .val (.int (1 : Int32)), .unset] [(.ref a_BOTH)])) rfl (by rw [hml]; rfl) (Steps.refl _) (argsL := []) (rest := []) (lenOf pd_1 rfl) rfl (by show 2 * 0 + _ ≤ _; exact Nat.le_of_eq rfl) (hb hby at_87) (fun _ _ => ⟨rfl, hh68, (by decide : 0 + 0 ≤ _), (by decide : 0 + 0 ≤ _)⟩)
        dsimp only [Pt.U, Pt.locs, Pt.cells, Pt.slots] at X69 l69 y69 z69 st69 hQ69
        subst l69 y69 z69
        obtain ⟨rfl, N69q, hh69⟩ := hQ69
        have N69 := Fr.app N68 N69q
        obtain ⟨fs, hr, hrun, hended, hW, hsame⟩ := X69.leave (v := some (.int (1 : Int32))) (fun h => by rw [Bd.returns] at h; cases h)
        refine ⟨_, _, pre58 _ ?_, hrun, hended, _, _, rfl, ?_, ⟨_, rfl⟩, hW, hsame.mono (by decide) (by decide)⟩
        · skip
          show Steps p.tables e below (T55.setTop (mkF m 34 #[.val (.int i0), .val (.int i1), .val (.int i2), .val (.ref a_FROM), .val (.int (1 : Int32)), .val (.int (0 : Int32)), .unset, .unset, .unset, .unset] [(.int (i2 &&& (1 : Int32)))])) _
          rw [hk59]
          show Steps p.tables e below (T55.setTop (mkF m 34 #[.val (.int i0), .val (.int i1), .val (.int i2), .val (.ref a_FROM), .val (.int (1 : Int32)), .val (.int (0 : Int32)), .unset, .unset, .unset, .unset] [(.int (1 : Int32))])) _
          refine XS.ifNo X55.here hx rfl (hb hby at_34) rfl (by decide) ?_
          show Steps p.tables e below (T55.setTop (mkF m 37 #[.val (.int i0), .val (.int i1), .val (.int i2), .val (.ref a_FROM), .val (.int (1 : Int32)), .val (.int (0 : Int32)), .unset, .unset, .unset, .unset] [])) _
          refine XS.iconst X55.here hx rfl (hb hby at_37) ?_
          show Steps p.tables e below (T55.setTop (mkF m 38 #[.val (.int i0), .val (.int i1), .val (.int i2), .val (.ref a_FROM), .val (.int (1 : Int32)), .val (.int (0 : Int32)), .unset, .unset, .unset, .unset] [(.int (1 : Int32))])) _
          refine XS.goto X55.here hx rfl (pc0 := 38) (pc' := 42) rfl (hb hby at_38) (by decide) (by decide) ?_
          show Steps p.tables e below (T55.setTop (mkF m 42 #[.val (.int i0), .val (.int i1), .val (.int i2), .val (.ref a_FROM), .val (.int (1 : Int32)), .val (.int (0 : Int32)), .unset, .unset, .unset, .unset] [(.int (1 : Int32))])) _
          refine XS.istore X55.here hx rfl (hb hby at_42) rfl (l' := #[.val (.int i0), .val (.int i1), .val (.int i2), .val (.ref a_FROM), .val (.int (1 : Int32)), .val (.int (0 : Int32)), .val (.int (1 : Int32)), .unset, .unset, .unset]) rfl ?_
          show Steps p.tables e below (T55.setTop (mkF m 44 #[.val (.int i0), .val (.int i1), .val (.int i2), .val (.ref a_FROM), .val (.int (1 : Int32)), .val (.int (0 : Int32)), .val (.int (1 : Int32)), .unset, .unset, .unset] [])) _
          refine XS.aloadN X55.here hx rfl (hb hby at_44) rfl rfl ?_
          show Steps p.tables e below (T55.setTop (mkF m 45 #[.val (.int i0), .val (.int i1), .val (.int i2), .val (.ref a_FROM), .val (.int (1 : Int32)), .val (.int (0 : Int32)), .val (.int (1 : Int32)), .unset, .unset, .unset] [(.ref a_FROM)])) _
          refine st65.trans ?_
          show Steps p.tables e below (T65.setTop (mkF m 48 #[.val (.int i0), .val (.int i1), .val (.int i2), .val (.ref a_FROM), .val (.int (1 : Int32)), .val (.int (0 : Int32)), .val (.int (1 : Int32)), .unset, .unset, .unset] [(.int (1 : Int32))])) _
          refine XS.iload X65.here hx rfl (hb hby at_48) rfl ?_
          show Steps p.tables e below (T65.setTop (mkF m 50 #[.val (.int i0), .val (.int i1), .val (.int i2), .val (.ref a_FROM), .val (.int (1 : Int32)), .val (.int (0 : Int32)), .val (.int (1 : Int32)), .unset, .unset, .unset] [(.int (1 : Int32)), (.int (1 : Int32))])) _
          refine XS.icmpNo X65.here hx rfl (hb hby at_50) rfl (by decide) ?_
          show Steps p.tables e below (T65.setTop (mkF m 53 #[.val (.int i0), .val (.int i1), .val (.int i2), .val (.ref a_FROM), .val (.int (1 : Int32)), .val (.int (0 : Int32)), .val (.int (1 : Int32)), .unset, .unset, .unset] [])) _
          refine XS.iconst X65.here hx rfl (hb hby at_53) ?_
          show Steps p.tables e below (T65.setTop (mkF m 54 #[.val (.int i0), .val (.int i1), .val (.int i2), .val (.ref a_FROM), .val (.int (1 : Int32)), .val (.int (0 : Int32)), .val (.int (1 : Int32)), .unset, .unset, .unset] [(.int (1 : Int32))])) _
          refine XS.goto X65.here hx rfl (pc0 := 54) (pc' := 58) rfl (hb hby at_54) (by decide) (by decide) ?_
          show Steps p.tables e below (T65.setTop (mkF m 58 #[.val (.int i0), .val (.int i1), .val (.int i2), .val (.ref a_FROM), .val (.int (1 : Int32)), .val (.int (0 : Int32)), .val (.int (1 : Int32)), .unset, .unset, .unset] [(.int (1 : Int32))])) _
          refine XS.istore X65.here hx rfl (hb hby at_58) rfl (l' := #[.val (.int i0), .val (.int i1), .val (.int i2), .val (.ref a_FROM), .val (.int (1 : Int32)), .val (.int (0 : Int32)), .val (.int (1 : Int32)), .val (.int (1 : Int32)), .unset, .unset]) rfl ?_
          show Steps p.tables e below (T65.setTop (mkF m 60 #[.val (.int i0), .val (.int i1), .val (.int i2), .val (.ref a_FROM), .val (.int (1 : Int32)), .val (.int (0 : Int32)), .val (.int (1 : Int32)), .val (.int (1 : Int32)), .unset, .unset] [])) _
          refine XS.aloadN X65.here hx rfl (hb hby at_60) rfl rfl ?_
          show Steps p.tables e below (T65.setTop (mkF m 61 #[.val (.int i0), .val (.int i1), .val (.int i2), .val (.ref a_FROM), .val (.int (1 : Int32)), .val (.int (0 : Int32)), .val (.int (1 : Int32)), .val (.int (1 : Int32)), .unset, .unset] [(.ref a_FROM)])) _
          refine XS.iload X65.here hx rfl (hb hby at_61) rfl ?_
          show Steps p.tables e below (T65.setTop (mkF m 63 #[.val (.int i0), .val (.int i1), .val (.int i2), .val (.ref a_FROM), .val (.int (1 : Int32)), .val (.int (0 : Int32)), .val (.int (1 : Int32)), .val (.int (1 : Int32)), .unset, .unset] [(.int (0 : Int32)), (.ref a_FROM)])) _
          refine st66.trans ?_
          show Steps p.tables e below (T66.setTop (mkF m 66 #[.val (.int i0), .val (.int i1), .val (.int i2), .val (.ref a_FROM), .val (.int (1 : Int32)), .val (.int (0 : Int32)), .val (.int (1 : Int32)), .val (.int (1 : Int32)), .unset, .unset] [(.ref a_NONE)])) _
          refine st67.trans ?_
          show Steps p.tables e below (T67.setTop (mkF m 69 #[.val (.int i0), .val (.int i1), .val (.int i2), .val (.ref a_FROM), .val (.int (1 : Int32)), .val (.int (0 : Int32)), .val (.int (1 : Int32)), .val (.int (1 : Int32)), .unset, .unset] [(.int (0 : Int32))])) _
          refine XS.iload X67.here hx rfl (hb hby at_69) rfl ?_
          show Steps p.tables e below (T67.setTop (mkF m 71 #[.val (.int i0), .val (.int i1), .val (.int i2), .val (.ref a_FROM), .val (.int (1 : Int32)), .val (.int (0 : Int32)), .val (.int (1 : Int32)), .val (.int (1 : Int32)), .unset, .unset] [(.int (0 : Int32)), (.int (0 : Int32))])) _
          refine XS.icmpNo X67.here hx rfl (hb hby at_71) rfl (by decide) ?_
          show Steps p.tables e below (T67.setTop (mkF m 74 #[.val (.int i0), .val (.int i1), .val (.int i2), .val (.ref a_FROM), .val (.int (1 : Int32)), .val (.int (0 : Int32)), .val (.int (1 : Int32)), .val (.int (1 : Int32)), .unset, .unset] [])) _
          refine XS.iconst X67.here hx rfl (hb hby at_74) ?_
          show Steps p.tables e below (T67.setTop (mkF m 75 #[.val (.int i0), .val (.int i1), .val (.int i2), .val (.ref a_FROM), .val (.int (1 : Int32)), .val (.int (0 : Int32)), .val (.int (1 : Int32)), .val (.int (1 : Int32)), .unset, .unset] [(.int (1 : Int32))])) _
          refine XS.goto X67.here hx rfl (pc0 := 75) (pc' := 79) rfl (hb hby at_75) (by decide) (by decide) ?_
          show Steps p.tables e below (T67.setTop (mkF m 79 #[.val (.int i0), .val (.int i1), .val (.int i2), .val (.ref a_FROM), .val (.int (1 : Int32)), .val (.int (0 : Int32)), .val (.int (1 : Int32)), .val (.int (1 : Int32)), .unset, .unset] [(.int (1 : Int32))])) _
          refine XS.istore X67.here hx rfl (hb hby at_79) rfl (l' := #[.val (.int i0), .val (.int i1), .val (.int i2), .val (.ref a_FROM), .val (.int (1 : Int32)), .val (.int (0 : Int32)), .val (.int (1 : Int32)), .val (.int (1 : Int32)), .val (.int (1 : Int32)), .unset]) rfl ?_
          show Steps p.tables e below (T67.setTop (mkF m 81 #[.val (.int i0), .val (.int i1), .val (.int i2), .val (.ref a_FROM), .val (.int (1 : Int32)), .val (.int (0 : Int32)), .val (.int (1 : Int32)), .val (.int (1 : Int32)), .val (.int (1 : Int32)), .unset] [])) _
          refine XS.aloadN X67.here hx rfl (hb hby at_81) rfl rfl ?_
          show Steps p.tables e below (T67.setTop (mkF m 82 #[.val (.int i0), .val (.int i1), .val (.int i2), .val (.ref a_FROM), .val (.int (1 : Int32)), .val (.int (0 : Int32)), .val (.int (1 : Int32)), .val (.int (1 : Int32)), .val (.int (1 : Int32)), .unset] [(.ref a_FROM)])) _
          refine XS.iload X67.here hx rfl (hb hby at_82) rfl ?_
          show Steps p.tables e below (T67.setTop (mkF m 84 #[.val (.int i0), .val (.int i1), .val (.int i2), .val (.ref a_FROM), .val (.int (1 : Int32)), .val (.int (0 : Int32)), .val (.int (1 : Int32)), .val (.int (1 : Int32)), .val (.int (1 : Int32)), .unset] [(.int (1 : Int32)), (.ref a_FROM)])) _
          refine st68.trans ?_
          show Steps p.tables e below (T68.setTop (mkF m 87 #[.val (.int i0), .val (.int i1), .val (.int i2), .val (.ref a_FROM), .val (.int (1 : Int32)), .val (.int (0 : Int32)), .val (.int (1 : Int32)), .val (.int (1 : Int32)), .val (.int (1 : Int32)), .unset] [(.ref a_BOTH)])) _
          refine st69.trans ?_
          show Steps p.tables e below (T69.setTop (mkF m 90 #[.val (.int i0), .val (.int i1), .val (.int i2), .val (.ref a_FROM), .val (.int (1 : Int32)), .val (.int (0 : Int32)), .val (.int (1 : Int32)), .val (.int (1 : Int32)), .val (.int (1 : Int32)), .unset] [(.int (1 : Int32))])) _
          refine XS.iload X69.here hx rfl (hb hby at_90) rfl ?_
          show Steps p.tables e below (T69.setTop (mkF m 92 #[.val (.int i0), .val (.int i1), .val (.int i2), .val (.ref a_FROM), .val (.int (1 : Int32)), .val (.int (0 : Int32)), .val (.int (1 : Int32)), .val (.int (1 : Int32)), .val (.int (1 : Int32)), .unset] [(.int (1 : Int32)), (.int (1 : Int32))])) _
          refine XS.icmpNo X69.here hx rfl (hb hby at_92) rfl (by decide) ?_
          show Steps p.tables e below (T69.setTop (mkF m 95 #[.val (.int i0), .val (.int i1), .val (.int i2), .val (.ref a_FROM), .val (.int (1 : Int32)), .val (.int (0 : Int32)), .val (.int (1 : Int32)), .val (.int (1 : Int32)), .val (.int (1 : Int32)), .unset] [])) _
          refine XS.iconst X69.here hx rfl (hb hby at_95) ?_
          show Steps p.tables e below (T69.setTop (mkF m 96 #[.val (.int i0), .val (.int i1), .val (.int i2), .val (.ref a_FROM), .val (.int (1 : Int32)), .val (.int (0 : Int32)), .val (.int (1 : Int32)), .val (.int (1 : Int32)), .val (.int (1 : Int32)), .unset] [(.int (1 : Int32))])) _
          refine XS.goto X69.here hx rfl (pc0 := 96) (pc' := 100) rfl (hb hby at_96) (by decide) (by decide) ?_
          show Steps p.tables e below (T69.setTop (mkF m 100 #[.val (.int i0), .val (.int i1), .val (.int i2), .val (.ref a_FROM), .val (.int (1 : Int32)), .val (.int (0 : Int32)), .val (.int (1 : Int32)), .val (.int (1 : Int32)), .val (.int (1 : Int32)), .unset] [(.int (1 : Int32))])) _
          refine XS.istore X69.here hx rfl (hb hby at_100) rfl (l' := #[.val (.int i0), .val (.int i1), .val (.int i2), .val (.ref a_FROM), .val (.int (1 : Int32)), .val (.int (0 : Int32)), .val (.int (1 : Int32)), .val (.int (1 : Int32)), .val (.int (1 : Int32)), .val (.int (1 : Int32))]) rfl ?_
          show Steps p.tables e below (T69.setTop (mkF m 102 #[.val (.int i0), .val (.int i1), .val (.int i2), .val (.ref a_FROM), .val (.int (1 : Int32)), .val (.int (0 : Int32)), .val (.int (1 : Int32)), .val (.int (1 : Int32)), .val (.int (1 : Int32)), .val (.int (1 : Int32))] [])) _
          refine XS.iload X69.here hx rfl (hb hby at_102) rfl ?_
          show Steps p.tables e below (T69.setTop (mkF m 104 #[.val (.int i0), .val (.int i1), .val (.int i2), .val (.ref a_FROM), .val (.int (1 : Int32)), .val (.int (0 : Int32)), .val (.int (1 : Int32)), .val (.int (1 : Int32)), .val (.int (1 : Int32)), .val (.int (1 : Int32))] [(.int (1 : Int32))])) _
          refine XS.ifNo X69.here hx rfl (hb hby at_104) rfl (by decide) ?_
          show Steps p.tables e below (T69.setTop (mkF m 107 #[.val (.int i0), .val (.int i1), .val (.int i2), .val (.ref a_FROM), .val (.int (1 : Int32)), .val (.int (0 : Int32)), .val (.int (1 : Int32)), .val (.int (1 : Int32)), .val (.int (1 : Int32)), .val (.int (1 : Int32))] [])) _
          refine XS.iload X69.here hx rfl (hb hby at_107) rfl ?_
          show Steps p.tables e below (T69.setTop (mkF m 109 #[.val (.int i0), .val (.int i1), .val (.int i2), .val (.ref a_FROM), .val (.int (1 : Int32)), .val (.int (0 : Int32)), .val (.int (1 : Int32)), .val (.int (1 : Int32)), .val (.int (1 : Int32)), .val (.int (1 : Int32))] [(.int (1 : Int32))])) _
          refine XS.ifNo X69.here hx rfl (hb hby at_109) rfl (by decide) ?_
          show Steps p.tables e below (T69.setTop (mkF m 112 #[.val (.int i0), .val (.int i1), .val (.int i2), .val (.ref a_FROM), .val (.int (1 : Int32)), .val (.int (0 : Int32)), .val (.int (1 : Int32)), .val (.int (1 : Int32)), .val (.int (1 : Int32)), .val (.int (1 : Int32))] [])) _
          refine XS.iload X69.here hx rfl (hb hby at_112) rfl ?_
          show Steps p.tables e below (T69.setTop (mkF m 114 #[.val (.int i0), .val (.int i1), .val (.int i2), .val (.ref a_FROM), .val (.int (1 : Int32)), .val (.int (0 : Int32)), .val (.int (1 : Int32)), .val (.int (1 : Int32)), .val (.int (1 : Int32)), .val (.int (1 : Int32))] [(.int (1 : Int32))])) _
          refine XS.ifNo X69.here hx rfl (hb hby at_114) rfl (by decide) ?_
          show Steps p.tables e below (T69.setTop (mkF m 117 #[.val (.int i0), .val (.int i1), .val (.int i2), .val (.ref a_FROM), .val (.int (1 : Int32)), .val (.int (0 : Int32)), .val (.int (1 : Int32)), .val (.int (1 : Int32)), .val (.int (1 : Int32)), .val (.int (1 : Int32))] [])) _
          refine XS.iconst X69.here hx rfl (hb hby at_117) ?_
          show Steps p.tables e below (T69.setTop (mkF m 118 #[.val (.int i0), .val (.int i1), .val (.int i2), .val (.ref a_FROM), .val (.int (1 : Int32)), .val (.int (0 : Int32)), .val (.int (1 : Int32)), .val (.int (1 : Int32)), .val (.int (1 : Int32)), .val (.int (1 : Int32))] [(.int (1 : Int32))])) _
          refine XS.goto X69.here hx rfl (pc0 := 118) (pc' := 122) rfl (hb hby at_118) (by decide) (by decide) ?_
          show Steps p.tables e below (T69.setTop (mkF m 122 #[.val (.int i0), .val (.int i1), .val (.int i2), .val (.ref a_FROM), .val (.int (1 : Int32)), .val (.int (0 : Int32)), .val (.int (1 : Int32)), .val (.int (1 : Int32)), .val (.int (1 : Int32)), .val (.int (1 : Int32))] [(.int (1 : Int32))])) _
          exact retN X69 hx (t := .boolean) Bd.returns (by simp) (hb hby at_122) hr
        · show QL n0 _ T69.heap _
          rw [hh69]
          exact ⟨rfl, N69⟩
    · skip
      have pre70 : ∀ t, Steps p.tables e below (T55.setTop (mkF m 34 #[.val (.int i0), .val (.int i1), .val (.int i2), .val (.ref a_FROM), .val (.int (1 : Int32)), .val (.int (1 : Int32)), .unset, .unset, .unset, .unset] [(.int (i2 &&& (1 : Int32)))])) t → Steps p.tables e below (s₁.setTop (entryFrame m #[(.int i0), (.int i1), (.int i2)] maxLocals)) t := fun t kt => pre56 t (by
          show Steps p.tables e below (T55.setTop (mkF m 21 #[.val (.int i0), .val (.int i1), .val (.int i2), .val (.ref a_FROM), .val (.int (1 : Int32)), .unset, .unset, .unset, .unset, .unset] [(.int (i1 &&& (1 : Int32)))])) _
          rw [hk57]
          show Steps p.tables e below (T55.setTop (mkF m 21 #[.val (.int i0), .val (.int i1), .val (.int i2), .val (.ref a_FROM), .val (.int (1 : Int32)), .unset, .unset, .unset, .unset, .unset] [(.int (1 : Int32))])) _
          refine XS.ifNo X55.here hx rfl (hb hby at_21) rfl (by decide) ?_
          show Steps p.tables e below (T55.setTop (mkF m 24 #[.val (.int i0), .val (.int i1), .val (.int i2), .val (.ref a_FROM), .val (.int (1 : Int32)), .unset, .unset, .unset, .unset, .unset] [])) _
          refine XS.iconst X55.here hx rfl (hb hby at_24) ?_
          show Steps p.tables e below (T55.setTop (mkF m 25 #[.val (.int i0), .val (.int i1), .val (.int i2), .val (.ref a_FROM), .val (.int (1 : Int32)), .unset, .unset, .unset, .unset, .unset] [(.int (1 : Int32))])) _
          refine XS.goto X55.here hx rfl (pc0 := 25) (pc' := 29) rfl (hb hby at_25) (by decide) (by decide) ?_
          show Steps p.tables e below (T55.setTop (mkF m 29 #[.val (.int i0), .val (.int i1), .val (.int i2), .val (.ref a_FROM), .val (.int (1 : Int32)), .unset, .unset, .unset, .unset, .unset] [(.int (1 : Int32))])) _
          refine XS.istore X55.here hx rfl (hb hby at_29) rfl (l' := #[.val (.int i0), .val (.int i1), .val (.int i2), .val (.ref a_FROM), .val (.int (1 : Int32)), .val (.int (1 : Int32)), .unset, .unset, .unset, .unset]) rfl ?_
          show Steps p.tables e below (T55.setTop (mkF m 31 #[.val (.int i0), .val (.int i1), .val (.int i2), .val (.ref a_FROM), .val (.int (1 : Int32)), .val (.int (1 : Int32)), .unset, .unset, .unset, .unset] [])) _
          refine XS.iloadN X55.here hx rfl (hb hby at_31) rfl ?_
          show Steps p.tables e below (T55.setTop (mkF m 32 #[.val (.int i0), .val (.int i1), .val (.int i2), .val (.ref a_FROM), .val (.int (1 : Int32)), .val (.int (1 : Int32)), .unset, .unset, .unset, .unset] [(.int i2)])) _
          refine XS.iconst X55.here hx rfl (hb hby at_32) ?_
          show Steps p.tables e below (T55.setTop (mkF m 33 #[.val (.int i0), .val (.int i1), .val (.int i2), .val (.ref a_FROM), .val (.int (1 : Int32)), .val (.int (1 : Int32)), .unset, .unset, .unset, .unset] [(.int (1 : Int32)), (.int i2)])) _
          refine XS.iand X55.here hx rfl (hb hby at_33) rfl ?_
          exact kt)
      rcases own_b i2 with hk71 | hk71
      · skip
        obtain ⟨cq72, kq72, q72a, q72b, q72c⟩ := isOf hZ hh55 (Exa.ext O0.2 X_a_FROM)
        obtain ⟨_, _, ⟨T72, L72, k72, n72⟩, -, X72, ⟨Lc72, hQ72, l72, y72, z72⟩, st72⟩ := X55.virtualBack hx (y := (⟨"com/example/carbonfold/carbonfold/model/RosterItem$Subscription", "hasFrom", "()Z"⟩ : MethodName)) (z := (⟨"com/example/carbonfold/carbonfold/model/RosterItem$Subscription", "hasFrom", "()Z"⟩ : MethodName)) hown (mvT hZ (hw _ (List.mem_of_getElem? (i := 7) rfl))) (mvT hZ (hw _ (List.mem_of_getElem? (i := 8) rfl))) (notFace_of_selects (args := #[]) (mvT hZ (hw _ (List.mem_of_getElem? (i := 10) rfl)))) (mvT hZ (hw _ (List.mem_of_getElem? (i := 10) rfl))) (mvT hZ (hw _ (List.mem_of_getElem? (i := 9) rfl))) (by decide) (backOf (W := 0) (rm_hasFrom_11 l Z a0 hw [] a_NONE a_FROM a_BOTH a_TO h0 n0 O0 En) hZ (hw _ (List.mem_of_getElem? (i := 11) rfl)) (hw _ (List.mem_of_getElem? (i := 5) rfl)) (by decide) (by decide)) q72a q72c (g := (mkF m 45 #[.val (.int i0), .val (.int i1), .val (.int i2), .val (.ref a_FROM), .val (.int (1 : Int32)), .val (.int (1 : Int32)), .val (.int (0 : Int32)), .unset, .unset, .unset] [(.ref a_FROM)])) rfl (by rw [hml]; rfl) (Steps.refl _) (argsL := []) (rest := []) (lenOf pd_1 rfl) rfl (by show 2 * 0 + _ ≤ _; exact Nat.le_of_eq rfl) (hb hby at_45) (fun _ _ => ⟨rfl, hh55, (by decide : 0 + 0 ≤ _), (by decide : 0 + 0 ≤ _)⟩)
        dsimp only [Pt.U, Pt.locs, Pt.cells, Pt.slots] at X72 l72 y72 z72 st72 hQ72
        subst l72 y72 z72
        obtain ⟨rfl, N72q, hh72⟩ := hQ72
        have N72 := Fr.app N55 N72q
        obtain ⟨cq73, kq73, q73a, q73b, q73c⟩ := isOf hZ hh72 (Exa.ext O0.2 X_a_FROM)
        obtain ⟨_, _, ⟨T73, L73, k73, n73⟩, -, X73, ⟨Lc73, hQ73, l73, y73, z73⟩, st73⟩ := X72.virtualBack hx (y := (⟨"com/example/carbonfold/carbonfold/model/RosterItem$Subscription", "withFrom", "(Z)Lcom/example/carbonfold/carbonfold/model/RosterItem$Subscription;"⟩ : MethodName)) (z := (⟨"com/example/carbonfold/carbonfold/model/RosterItem$Subscription", "withFrom", "(Z)Lcom/example/carbonfold/carbonfold/model/RosterItem$Subscription;"⟩ : MethodName)) hown (mvT hZ (hw _ (List.mem_of_getElem? (i := 16) rfl))) (mvT hZ (hw _ (List.mem_of_getElem? (i := 17) rfl))) (notFace_of_selects (args := #[]) (mvT hZ (hw _ (List.mem_of_getElem? (i := 19) rfl)))) (mvT hZ (hw _ (List.mem_of_getElem? (i := 19) rfl))) (mvT hZ (hw _ (List.mem_of_getElem? (i := 18) rfl))) (by decide) (backOf (W := 0) (rm_withFrom_23 l Z a0 hw [] a_NONE a_FROM a_BOTH a_TO h0 n0 O0 En) hZ (hw _ (List.mem_of_getElem? (i := 20) rfl)) (hw _ (List.mem_of_getElem? (i := 5) rfl)) (by decide) (by decide)) q73a q73c (g := (mkF m 63 #[.val (.int i0), .val (.int i1), .val (.int i2), .val (.ref a_FROM), .val (.int (1 : Int32)), .val (.int (1 : Int32)), .val (.int (0 : Int32)), .val (.int (1 : Int32)), .unset, .unset] [(.int (1 : Int32)), (.ref a_FROM)])) rfl (by rw [hml]; rfl) (Steps.refl _) (argsL := [(.int (1 : Int32))]) (rest := []) (lenOf pd_3 rfl) rfl (by show 2 * 0 + _ ≤ _; exact Nat.le_of_eq rfl) (hb hby at_63) (fun _ _ => ⟨rfl, hh72, (by decide : 0 + 0 ≤ _), (by decide : 0 + 0 ≤ _)⟩)
        dsimp only [Pt.U, Pt.locs, Pt.cells, Pt.slots] at X73 l73 y73 z73 st73 hQ73
        subst l73 y73 z73
        obtain ⟨rfl, N73q, hh73⟩ := hQ73
        have N73 := Fr.app N72 N73q
        obtain ⟨cq74, kq74, q74a, q74b, q74c⟩ := isOf hZ hh73 (Exa.ext O0.2 X_a_FROM)
        obtain ⟨_, _, ⟨T74, L74, k74, n74⟩, -, X74, ⟨Lc74, hQ74, l74, y74, z74⟩, st74⟩ := X73.virtualBack hx (y := (⟨"com/example/carbonfold/carbonfold/model/RosterItem$Subscription", "hasFrom", "()Z"⟩ : MethodName)) (z := (⟨"com/example/carbonfold/carbonfold/model/RosterItem$Subscription", "hasFrom", "()Z"⟩ : MethodName)) hown (mvT hZ (hw _ (List.mem_of_getElem? (i := 7) rfl))) (mvT hZ (hw _ (List.mem_of_getElem? (i := 8) rfl))) (notFace_of_selects (args := #[]) (mvT hZ (hw _ (List.mem_of_getElem? (i := 10) rfl)))) (mvT hZ (hw _ (List.mem_of_getElem? (i := 10) rfl))) (mvT hZ (hw _ (List.mem_of_getElem? (i := 9) rfl))) (by decide) (backOf (W := 0) (rm_hasFrom_11 l Z a0 hw [] a_NONE a_FROM a_BOTH a_TO h0 n0 O0 En) hZ (hw _ (List.mem_of_getElem? (i := 11) rfl)) (hw _ (List.mem_of_getElem? (i := 5) rfl)) (by decide) (by decide)) q74a q74c (g := (mkF m 66 #[.val (.int i0), .val (.int i1), .val (.int i2), .val (.ref a_FROM), .val (.int (1 : Int32)), .val (.int (1 : Int32)), .val (.int (0 : Int32)), .val (.int (1 : Int32)), .unset, .unset] [(.ref a_FROM)])) rfl (by rw [hml]; rfl) (Steps.refl _) (argsL := []) (rest := []) (lenOf pd_1 rfl) rfl (by show 2 * 0 + _ ≤ _; exact Nat.le_of_eq rfl) (hb hby at_66) (fun _ _ => ⟨rfl, hh73, (by decide : 0 + 0 ≤ _), (by decide : 0 + 0 ≤ _)⟩)
        dsimp only [Pt.U, Pt.locs, Pt.cells, Pt.slots] at X74 l74 y74 z74 st74 hQ74
        subst l74 y74 z74
        obtain ⟨rfl, N74q, hh74⟩ := hQ74
        have N74 := Fr.app N73 N74q
        obtain ⟨cq75, kq75, q75a, q75b, q75c⟩ := isOf hZ hh74 (Exa.ext O0.2 X_a_FROM)
        obtain ⟨_, _, ⟨T75, L75, k75, n75⟩, -, X75, ⟨Lc75, hQ75, l75, y75, z75⟩, st75⟩ := X74.virtualBack hx (y := (⟨"com/example/carbonfold/carbonfold/model/RosterItem$Subscription", "withTo", "(Z)Lcom/example/carbonfold/carbonfold/model/RosterItem$Subscription;"⟩ : MethodName)) (z := (⟨"com/example/carbonfold/carbonfold/model/RosterItem$Subscription", "withTo", "(Z)Lcom/example/carbonfold/carbonfold/model/RosterItem$Subscription;"⟩ : MethodName)) hown (mvT hZ (hw _ (List.mem_of_getElem? (i := 31) rfl))) (mvT hZ (hw _ (List.mem_of_getElem? (i := 32) rfl))) (notFace_of_selects (args := #[]) (mvT hZ (hw _ (List.mem_of_getElem? (i := 34) rfl)))) (mvT hZ (hw _ (List.mem_of_getElem? (i := 34) rfl))) (mvT hZ (hw _ (List.mem_of_getElem? (i := 33) rfl))) (by decide) (backOf (W := 0) (rm_withTo_21 l Z a0 hw [] a_NONE a_FROM a_BOTH a_TO h0 n0 O0 En) hZ (hw _ (List.mem_of_getElem? (i := 35) rfl)) (hw _ (List.mem_of_getElem? (i := 5) rfl)) (by decide) (by decide)) q75a q75c (g := (mkF m 84 #[.val (.int i0), .val (.int i1), .val (.int i2), .val (.ref a_FROM), .val (.int (1 : Int32)), .val (.int (1 : Int32)), .val (.int (0 : Int32)), .val (.int (1 : Int32)), .val (.int (1 : Int32)), .unset] [(.int (0 : Int32)), (.ref a_FROM)])) rfl (by rw [hml]; rfl) (Steps.refl _) (argsL := [(.int (0 : Int32))]) (rest := []) (lenOf pd_3 rfl) rfl (by show 2 * 0 + _ ≤ _; exact Nat.le_of_eq rfl) (hb hby at_84) (fun _ _ => ⟨rfl, hh74, (by decide : 0 + 0 ≤ _), (by decide : 0 + 0 ≤ _)⟩)
        dsimp only [Pt.U, Pt.locs, Pt.cells, Pt.slots] at X75 l75 y75 z75 st75 hQ75
        subst l75 y75 z75
        obtain ⟨rfl, N75q, hh75⟩ := hQ75
        have N75 := Fr.app N74 N75q
        obtain ⟨cq76, kq76, q76a, q76b, q76c⟩ := isOf hZ hh75 (Exa.ext O0.2 X_a_FROM)
        obtain ⟨_, _, ⟨T76, L76, k76, n76⟩, -, X76, ⟨Lc76, hQ76, l76, y76, z76⟩, st76⟩ := X75.virtualBack hx (y := (⟨"com/example/carbonfold/carbonfold/model/RosterItem$Subscription", "hasFrom", "()Z"⟩ : MethodName)) (z := (⟨"com/example/carbonfold/carbonfold/model/RosterItem$Subscription", "hasFrom", "()Z"⟩ : MethodName)) hown (mvT hZ (hw _ (List.mem_of_getElem? (i := 7) rfl))) (mvT hZ (hw _ (List.mem_of_getElem? (i := 8) rfl))) (notFace_of_selects (args := #[]) (mvT hZ (hw _ (List.mem_of_getElem? (i := 10) rfl)))) (mvT hZ (hw _ (List.mem_of_getElem? (i := 10) rfl))) (mvT hZ (hw _ (List.mem_of_getElem? (i := 9) rfl))) (by decide) (backOf (W := 0) (rm_hasFrom_11 l Z a0 hw [] a_NONE a_FROM a_BOTH a_TO h0 n0 O0 En) hZ (hw _ (List.mem_of_getElem? (i := 11) rfl)) (hw _ (List.mem_of_getElem? (i := 5) rfl)) (by decide) (by decide)) q76a q76c (g := (mkF m 87 #[.val (.int i0), .val (.int i1), .val (.int i2), .val (.ref a_FROM), .val (.int (1 : Int32)), .val (.int (1 : Int32)), .val (.int (0 : Int32)), .val (.int (1 : Int32)), .val (.int (1 : Int32)), .unset] [(.ref a_FROM)])) rfl (by rw [hml]; rfl) (Steps.refl _) (argsL := []) (rest := []) (lenOf pd_1 rfl) rfl (by show 2 * 0 + _ ≤ _; exact Nat.le_of_eq rfl) (hb hby at_87) (fun _ _ => ⟨rfl, hh75, (by decide : 0 + 0 ≤ _), (by decide : 0 + 0 ≤ _)⟩)
        dsimp only [Pt.U, Pt.locs, Pt.cells, Pt.slots] at X76 l76 y76 z76 st76 hQ76
        subst l76 y76 z76
        obtain ⟨rfl, N76q, hh76⟩ := hQ76
        have N76 := Fr.app N75 N76q
        obtain ⟨fs, hr, hrun, hended, hW, hsame⟩ := X76.leave (v := some (.int (1 : Int32))) (fun h => by rw [Bd.returns] at h; cases h)
        refine ⟨_, _, pre70 _ ?_, hrun, hended, _, _, rfl, ?_, ⟨_, rfl⟩, hW, hsame.mono (by decide) (by decide)⟩
        · skip
          show Steps p.tables e below (T55.setTop (mkF m 34 #[.val (.int i0), .val (.int i1), .val (.int i2), .val (.ref a_FROM), .val (.int (1 : Int32)), .val (.int (1 : Int32)), .unset, .unset, .unset, .unset] [(.int (i2 &&& (1 : Int32)))])) _
          rw [hk71]
          show Steps p.tables e below (T55.setTop (mkF m 34 #[.val (.int i0), .val (.int i1), .val (.int i2), .val (.ref a_FROM), .val (.int (1 : Int32)), .val (.int (1 : Int32)), .unset, .unset, .unset, .unset] [(.int (0 : Int32))])) _
          refine XS.ifYes X55.here hx rfl (pc0 := 34) (pc' := 41) rfl (hb hby at_34) rfl (by decide) (by decide) (by decide) ?_
          show Steps p.tables e below (T55.setTop (mkF m 41 #[.val (.int i0), .val (.int i1), .val (.int i2), .val (.ref a_FROM), .val (.int (1 : Int32)), .val (.int (1 : Int32)), .unset, .unset, .unset, .unset] [])) _
          refine XS.iconst X55.here hx rfl (hb hby at_41) ?_
          show Steps p.tables e below (T55.setTop (mkF m 42 #[.val (.int i0), .val (.int i1), .val (.int i2), .val (.ref a_FROM), .val (.int (1 : Int32)), .val (.int (1 : Int32)), .unset, .unset, .unset, .unset] [(.int (0 : Int32))])) _
          refine XS.istore X55.here hx rfl (hb hby at_42) rfl (l' := #[.val (.int i0), .val (.int i1), .val (.int i2), .val (.ref a_FROM), .val (.int (1 : Int32)), .val (.int (1 : Int32)), .val (.int (0 : Int32)), .unset, .unset, .unset]) rfl ?_
          show Steps p.tables e below (T55.setTop (mkF m 44 #[.val (.int i0), .val (.int i1), .val (.int i2), .val (.ref a_FROM), .val (.int (1 : Int32)), .val (.int (1 : Int32)), .val (.int (0 : Int32)), .unset, .unset, .unset] [])) _
          refine XS.aloadN X55.here hx rfl (hb hby at_44) rfl rfl ?_
          show Steps p.tables e below (T55.setTop (mkF m 45 #[.val (.int i0), .val (.int i1), .val (.int i2), .val (.ref a_FROM), .val (.int (1 : Int32)), .val (.int (1 : Int32)), .val (.int (0 : Int32)), .unset, .unset, .unset] [(.ref a_FROM)])) _
          refine st72.trans ?_
          show Steps p.tables e below (T72.setTop (mkF m 48 #[.val (.int i0), .val (.int i1), .val (.int i2), .val (.ref a_FROM), .val (.int (1 : Int32)), .val (.int (1 : Int32)), .val (.int (0 : Int32)), .unset, .unset, .unset] [(.int (1 : Int32))])) _
          refine XS.iload X72.here hx rfl (hb hby at_48) rfl ?_
          show Steps p.tables e below (T72.setTop (mkF m 50 #[.val (.int i0), .val (.int i1), .val (.int i2), .val (.ref a_FROM), .val (.int (1 : Int32)), .val (.int (1 : Int32)), .val (.int (0 : Int32)), .unset, .unset, .unset] [(.int (1 : Int32)), (.int (1 : Int32))])) _
          refine XS.icmpNo X72.here hx rfl (hb hby at_50) rfl (by decide) ?_
          show Steps p.tables e below (T72.setTop (mkF m 53 #[.val (.int i0), .val (.int i1), .val (.int i2), .val (.ref a_FROM), .val (.int (1 : Int32)), .val (.int (1 : Int32)), .val (.int (0 : Int32)), .unset, .unset, .unset] [])) _
          refine XS.iconst X72.here hx rfl (hb hby at_53) ?_
          show Steps p.tables e below (T72.setTop (mkF m 54 #[.val (.int i0), .val (.int i1), .val (.int i2), .val (.ref a_FROM), .val (.int (1 : Int32)), .val (.int (1 : Int32)), .val (.int (0 : Int32)), .unset, .unset, .unset] [(.int (1 : Int32))])) _
          refine XS.goto X72.here hx rfl (pc0 := 54) (pc' := 58) rfl (hb hby at_54) (by decide) (by decide) ?_
          show Steps p.tables e below (T72.setTop (mkF m 58 #[.val (.int i0), .val (.int i1), .val (.int i2), .val (.ref a_FROM), .val (.int (1 : Int32)), .val (.int (1 : Int32)), .val (.int (0 : Int32)), .unset, .unset, .unset] [(.int (1 : Int32))])) _
          refine XS.istore X72.here hx rfl (hb hby at_58) rfl (l' := #[.val (.int i0), .val (.int i1), .val (.int i2), .val (.ref a_FROM), .val (.int (1 : Int32)), .val (.int (1 : Int32)), .val (.int (0 : Int32)), .val (.int (1 : Int32)), .unset, .unset]) rfl ?_
          show Steps p.tables e below (T72.setTop (mkF m 60 #[.val (.int i0), .val (.int i1), .val (.int i2), .val (.ref a_FROM), .val (.int (1 : Int32)), .val (.int (1 : Int32)), .val (.int (0 : Int32)), .val (.int (1 : Int32)), .unset, .unset] [])) _
          refine XS.aloadN X72.here hx rfl (hb hby at_60) rfl rfl ?_
          show Steps p.tables e below (T72.setTop (mkF m 61 #[.val (.int i0), .val (.int i1), .val (.int i2), .val (.ref a_FROM), .val (.int (1 : Int32)), .val (.int (1 : Int32)), .val (.int (0 : Int32)), .val (.int (1 : Int32)), .unset, .unset] [(.ref a_FROM)])) _
          refine XS.iload X72.here hx rfl (hb hby at_61) rfl ?_
          show Steps p.tables e below (T72.setTop (mkF m 63 #[.val (.int i0), .val (.int i1), .val (.int i2), .val (.ref a_FROM), .val (.int (1 : Int32)), .val (.int (1 : Int32)), .val (.int (0 : Int32)), .val (.int (1 : Int32)), .unset, .unset] [(.int (1 : Int32)), (.ref a_FROM)])) _
          refine st73.trans ?_
          show Steps p.tables e below (T73.setTop (mkF m 66 #[.val (.int i0), .val (.int i1), .val (.int i2), .val (.ref a_FROM), .val (.int (1 : Int32)), .val (.int (1 : Int32)), .val (.int (0 : Int32)), .val (.int (1 : Int32)), .unset, .unset] [(.ref a_FROM)])) _
          refine st74.trans ?_
          show Steps p.tables e below (T74.setTop (mkF m 69 #[.val (.int i0), .val (.int i1), .val (.int i2), .val (.ref a_FROM), .val (.int (1 : Int32)), .val (.int (1 : Int32)), .val (.int (0 : Int32)), .val (.int (1 : Int32)), .unset, .unset] [(.int (1 : Int32))])) _
          refine XS.iload X74.here hx rfl (hb hby at_69) rfl ?_
          show Steps p.tables e below (T74.setTop (mkF m 71 #[.val (.int i0), .val (.int i1), .val (.int i2), .val (.ref a_FROM), .val (.int (1 : Int32)), .val (.int (1 : Int32)), .val (.int (0 : Int32)), .val (.int (1 : Int32)), .unset, .unset] [(.int (1 : Int32)), (.int (1 : Int32))])) _
          refine XS.icmpNo X74.here hx rfl (hb hby at_71) rfl (by decide) ?_
          show Steps p.tables e below (T74.setTop (mkF m 74 #[.val (.int i0), .val (.int i1), .val (.int i2), .val (.ref a_FROM), .val (.int (1 : Int32)), .val (.int (1 : Int32)), .val (.int (0 : Int32)), .val (.int (1 : Int32)), .unset, .unset] [])) _
          refine XS.iconst X74.here hx rfl (hb hby at_74) ?_
          show Steps p.tables e below (T74.setTop (mkF m 75 #[.val (.int i0), .val (.int i1), .val (.int i2), .val (.ref a_FROM), .val (.int (1 : Int32)), .val (.int (1 : Int32)), .val (.int (0 : Int32)), .val (.int (1 : Int32)), .unset, .unset] [(.int (1 : Int32))])) _
          refine XS.goto X74.here hx rfl (pc0 := 75) (pc' := 79) rfl (hb hby at_75) (by decide) (by decide) ?_
          show Steps p.tables e below (T74.setTop (mkF m 79 #[.val (.int i0), .val (.int i1), .val (.int i2), .val (.ref a_FROM), .val (.int (1 : Int32)), .val (.int (1 : Int32)), .val (.int (0 : Int32)), .val (.int (1 : Int32)), .unset, .unset] [(.int (1 : Int32))])) _
          refine XS.istore X74.here hx rfl (hb hby at_79) rfl (l' := #[.val (.int i0), .val (.int i1), .val (.int i2), .val (.ref a_FROM), .val (.int (1 : Int32)), .val (.int (1 : Int32)), .val (.int (0 : Int32)), .val (.int (1 : Int32)), .val (.int (1 : Int32)), .unset]) rfl ?_
          show Steps p.tables e below (T74.setTop (mkF m 81 #[.val (.int i0), .val (.int i1), .val (.int i2), .val (.ref a_FROM), .val (.int (1 : Int32)), .val (.int (1 : Int32)), .val (.int (0 : Int32)), .val (.int (1 : Int32)), .val (.int (1 : Int32)), .unset] [])) _
          refine XS.aloadN X74.here hx rfl (hb hby at_81) rfl rfl ?_
          show Steps p.tables e below (T74.setTop (mkF m 82 #[.val (.int i0), .val (.int i1), .val (.int i2), .val (.ref a_FROM), .val (.int (1 : Int32)), .val (.int (1 : Int32)), .val (.int (0 : Int32)), .val (.int (1 : Int32)), .val (.int (1 : Int32)), .unset] [(.ref a_FROM)])) _
          refine XS.iload X74.here hx rfl (hb hby at_82) rfl ?_
          show Steps p.tables e below (T74.setTop (mkF m 84 #[.val (.int i0), .val (.int i1), .val (.int i2), .val (.ref a_FROM), .val (.int (1 : Int32)), .val (.int (1 : Int32)), .val (.int (0 : Int32)), .val (.int (1 : Int32)), .val (.int (1 : Int32)), .unset] [(.int (0 : Int32)), (.ref a_FROM)])) _
          refine st75.trans ?_
          show Steps p.tables e below (T75.setTop (mkF m 87 #[.val (.int i0), .val (.int i1), .val (.int i2), .val (.ref a_FROM), .val (.int (1 : Int32)), .val (.int (1 : Int32)), .val (.int (0 : Int32)), .val (.int (1 : Int32)), .val (.int (1 : Int32)), .unset] [(.ref a_FROM)])) _
          refine st76.trans ?_
          show Steps p.tables e below (T76.setTop (mkF m 90 #[.val (.int i0), .val (.int i1), .val (.int i2), .val (.ref a_FROM), .val (.int (1 : Int32)), .val (.int (1 : Int32)), .val (.int (0 : Int32)), .val (.int (1 : Int32)), .val (.int (1 : Int32)), .unset] [(.int (1 : Int32))])) _
          refine XS.iload X76.here hx rfl (hb hby at_90) rfl ?_
          show Steps p.tables e below (T76.setTop (mkF m 92 #[.val (.int i0), .val (.int i1), .val (.int i2), .val (.ref a_FROM), .val (.int (1 : Int32)), .val (.int (1 : Int32)), .val (.int (0 : Int32)), .val (.int (1 : Int32)), .val (.int (1 : Int32)), .unset] [(.int (1 : Int32)), (.int (1 : Int32))])) _
          refine XS.icmpNo X76.here hx rfl (hb hby at_92) rfl (by decide) ?_
          show Steps p.tables e below (T76.setTop (mkF m 95 #[.val (.int i0), .val (.int i1), .val (.int i2), .val (.ref a_FROM), .val (.int (1 : Int32)), .val (.int (1 : Int32)), .val (.int (0 : Int32)), .val (.int (1 : Int32)), .val (.int (1 : Int32)), .unset] [])) _
          refine XS.iconst X76.here hx rfl (hb hby at_95) ?_
          show Steps p.tables e below (T76.setTop (mkF m 96 #[.val (.int i0), .val (.int i1), .val (.int i2), .val (.ref a_FROM), .val (.int (1 : Int32)), .val (.int (1 : Int32)), .val (.int (0 : Int32)), .val (.int (1 : Int32)), .val (.int (1 : Int32)), .unset] [(.int (1 : Int32))])) _
          refine XS.goto X76.here hx rfl (pc0 := 96) (pc' := 100) rfl (hb hby at_96) (by decide) (by decide) ?_
          show Steps p.tables e below (T76.setTop (mkF m 100 #[.val (.int i0), .val (.int i1), .val (.int i2), .val (.ref a_FROM), .val (.int (1 : Int32)), .val (.int (1 : Int32)), .val (.int (0 : Int32)), .val (.int (1 : Int32)), .val (.int (1 : Int32)), .unset] [(.int (1 : Int32))])) _
          refine XS.istore X76.here hx rfl (hb hby at_100) rfl (l' := #[.val (.int i0), .val (.int i1), .val (.int i2), .val (.ref a_FROM), .val (.int (1 : Int32)), .val (.int (1 : Int32)), .val (.int (0 : Int32)), .val (.int (1 : Int32)), .val (.int (1 : Int32)), .val (.int (1 : Int32))]) rfl ?_
          show Steps p.tables e below (T76.setTop (mkF m 102 #[.val (.int i0), .val (.int i1), .val (.int i2), .val (.ref a_FROM), .val (.int (1 : Int32)), .val (.int (1 : Int32)), .val (.int (0 : Int32)), .val (.int (1 : Int32)), .val (.int (1 : Int32)), .val (.int (1 : Int32))] [])) _
          refine XS.iload X76.here hx rfl (hb hby at_102) rfl ?_
          show Steps p.tables e below (T76.setTop (mkF m 104 #[.val (.int i0), .val (.int i1), .val (.int i2), .val (.ref a_FROM), .val (.int (1 : Int32)), .val (.int (1 : Int32)), .val (.int (0 : Int32)), .val (.int (1 : Int32)), .val (.int (1 : Int32)), .val (.int (1 : Int32))] [(.int (1 : Int32))])) _
          refine XS.ifNo X76.here hx rfl (hb hby at_104) rfl (by decide) ?_
          show Steps p.tables e below (T76.setTop (mkF m 107 #[.val (.int i0), .val (.int i1), .val (.int i2), .val (.ref a_FROM), .val (.int (1 : Int32)), .val (.int (1 : Int32)), .val (.int (0 : Int32)), .val (.int (1 : Int32)), .val (.int (1 : Int32)), .val (.int (1 : Int32))] [])) _
          refine XS.iload X76.here hx rfl (hb hby at_107) rfl ?_
          show Steps p.tables e below (T76.setTop (mkF m 109 #[.val (.int i0), .val (.int i1), .val (.int i2), .val (.ref a_FROM), .val (.int (1 : Int32)), .val (.int (1 : Int32)), .val (.int (0 : Int32)), .val (.int (1 : Int32)), .val (.int (1 : Int32)), .val (.int (1 : Int32))] [(.int (1 : Int32))])) _
          refine XS.ifNo X76.here hx rfl (hb hby at_109) rfl (by decide) ?_
          show Steps p.tables e below (T76.setTop (mkF m 112 #[.val (.int i0), .val (.int i1), .val (.int i2), .val (.ref a_FROM), .val (.int (1 : Int32)), .val (.int (1 : Int32)), .val (.int (0 : Int32)), .val (.int (1 : Int32)), .val (.int (1 : Int32)), .val (.int (1 : Int32))] [])) _
          refine XS.iload X76.here hx rfl (hb hby at_112) rfl ?_
          show Steps p.tables e below (T76.setTop (mkF m 114 #[.val (.int i0), .val (.int i1), .val (.int i2), .val (.ref a_FROM), .val (.int (1 : Int32)), .val (.int (1 : Int32)), .val (.int (0 : Int32)), .val (.int (1 : Int32)), .val (.int (1 : Int32)), .val (.int (1 : Int32))] [(.int (1 : Int32))])) _
          refine XS.ifNo X76.here hx rfl (hb hby at_114) rfl (by decide) ?_
          show Steps p.tables e below (T76.setTop (mkF m 117 #[.val (.int i0), .val (.int i1), .val (.int i2), .val (.ref a_FROM), .val (.int (1 : Int32)), .val (.int (1 : Int32)), .val (.int (0 : Int32)), .val (.int (1 : Int32)), .val (.int (1 : Int32)), .val (.int (1 : Int32))] [])) _
          refine XS.iconst X76.here hx rfl (hb hby at_117) ?_
          show Steps p.tables e below (T76.setTop (mkF m 118 #[.val (.int i0), .val (.int i1), .val (.int i2), .val (.ref a_FROM), .val (.int (1 : Int32)), .val (.int (1 : Int32)), .val (.int (0 : Int32)), .val (.int (1 : Int32)), .val (.int (1 : Int32)), .val (.int (1 : Int32))] [(.int (1 : Int32))])) _
          refine XS.goto X76.here hx rfl (pc0 := 118) (pc' := 122) rfl (hb hby at_118) (by decide) (by decide) ?_
          show Steps p.tables e below (T76.setTop (mkF m 122 #[.val (.int i0), .val (.int i1), .val (.int i2), .val (.ref a_FROM), .val (.int (1 : Int32)), .val (.int (1 : Int32)), .val (.int (0 : Int32)), .val (.int (1 : Int32)), .val (.int (1 : Int32)), .val (.int (1 : Int32))] [(.int (1 : Int32))])) _
          exact retN X76 hx (t := .boolean) Bd.returns (by simp) (hb hby at_122) hr
        · show QL n0 _ T76.heap _
          rw [hh76]
          exact ⟨rfl, N76⟩
      · skip
        obtain ⟨cq77, kq77, q77a, q77b, q77c⟩ := isOf hZ hh55 (Exa.ext O0.2 X_a_FROM)
        obtain ⟨_, _, ⟨T77, L77, k77, n77⟩, -, X77, ⟨Lc77, hQ77, l77, y77, z77⟩, st77⟩ := X55.virtualBack hx (y := (⟨"com/example/carbonfold/carbonfold/model/RosterItem$Subscription", "hasFrom", "()Z"⟩ : MethodName)) (z := (⟨"com/example/carbonfold/carbonfold/model/RosterItem$Subscription", "hasFrom", "()Z"⟩ : MethodName)) hown (mvT hZ (hw _ (List.mem_of_getElem? (i := 7) rfl))) (mvT hZ (hw _ (List.mem_of_getElem? (i := 8) rfl))) (notFace_of_selects (args := #[]) (mvT hZ (hw _ (List.mem_of_getElem? (i := 10) rfl)))) (mvT hZ (hw _ (List.mem_of_getElem? (i := 10) rfl))) (mvT hZ (hw _ (List.mem_of_getElem? (i := 9) rfl))) (by decide) (backOf (W := 0) (rm_hasFrom_11 l Z a0 hw [] a_NONE a_FROM a_BOTH a_TO h0 n0 O0 En) hZ (hw _ (List.mem_of_getElem? (i := 11) rfl)) (hw _ (List.mem_of_getElem? (i := 5) rfl)) (by decide) (by decide)) q77a q77c (g := (mkF m 45 #[.val (.int i0), .val (.int i1), .val (.int i2), .val (.ref a_FROM), .val (.int (1 : Int32)), .val (.int (1 : Int32)), .val (.int (1 : Int32)), .unset, .unset, .unset] [(.ref a_FROM)])) rfl (by rw [hml]; rfl) (Steps.refl _) (argsL := []) (rest := []) (lenOf pd_1 rfl) rfl (by show 2 * 0 + _ ≤ _; exact Nat.le_of_eq rfl) (hb hby at_45) (fun _ _ => ⟨rfl, hh55, (by decide : 0 + 0 ≤ _), (by decide : 0 + 0 ≤ _)⟩)
        dsimp only [Pt.U, Pt.locs, Pt.cells, Pt.slots] at X77 l77 y77 z77 st77 hQ77
        subst l77 y77 z77
        obtain ⟨rfl, N77q, hh77⟩ := hQ77
        have N77 := Fr.app N55 N77q
        obtain ⟨cq78, kq78, q78a, q78b, q78c⟩ := isOf hZ hh77 (Exa.ext O0.2 X_a_FROM)
        obtain ⟨_, _, ⟨T78, L78, k78, n78⟩, -, X78, ⟨Lc78, hQ78, l78, y78, z78⟩, st78⟩ := X77.virtualBack hx (y := (⟨"com/example/carbonfold/carbonfold/model/RosterItem$Subscription", "withFrom", "(Z)Lcom/example/carbonfold/carbonfold/model/RosterItem$Subscription;"⟩ : MethodName)) (z := (⟨"com/example/carbonfold/carbonfold/model/RosterItem$Subscription", "withFrom", "(Z)Lcom/example/carbonfold/carbonfold/model/RosterItem$Subscription;"⟩ : MethodName)) hown (mvT hZ (hw _ (List.mem_of_getElem? (i := 16) rfl))) (mvT hZ (hw _ (List.mem_of_getElem? (i := 17) rfl))) (notFace_of_selects (args := #[]) (mvT hZ (hw _ (List.mem_of_getElem? (i := 19) rfl)))) (mvT hZ (hw _ (List.mem_of_getElem? (i := 19) rfl))) (mvT hZ (hw _ (List.mem_of_getElem? (i := 18) rfl))) (by decide) (backOf (W := 0) (rm_withFrom_23 l Z a0 hw [] a_NONE a_FROM a_BOTH a_TO h0 n0 O0 En) hZ (hw _ (List.mem_of_getElem? (i := 20) rfl)) (hw _ (List.mem_of_getElem? (i := 5) rfl)) (by decide) (by decide)) q78a q78c (g := (mkF m 63 #[.val (.int i0), .val (.int i1), .val (.int i2), .val (.ref a_FROM), .val (.int (1 : Int32)), .val (.int (1 : Int32)), .val (.int (1 : Int32)), .val (.int (1 : Int32)), .unset, .unset] [(.int (1 : Int32)), (.ref a_FROM)])) rfl (by rw [hml]; rfl) (Steps.refl _) (argsL := [(.int (1 : Int32))]) (rest := []) (lenOf pd_3 rfl) rfl (by show 2 * 0 + _ ≤ _; exact Nat.le_of_eq rfl) (hb hby at_63) (fun _ _ => ⟨rfl, hh77, (by decide : 0 + 0 ≤ _), (by decide : 0 + 0 ≤ _)⟩)
        dsimp only [Pt.U, Pt.locs, Pt.cells, Pt.slots] at X78 l78 y78 z78 st78 hQ78
        subst l78 y78 z78
        obtain ⟨rfl, N78q, hh78⟩ := hQ78
        have N78 := Fr.app N77 N78q
        obtain ⟨cq79, kq79, q79a, q79b, q79c⟩ := isOf hZ hh78 (Exa.ext O0.2 X_a_FROM)
        obtain ⟨_, _, ⟨T79, L79, k79, n79⟩, -, X79, ⟨Lc79, hQ79, l79, y79, z79⟩, st79⟩ := X78.virtualBack hx (y := (⟨"com/example/carbonfold/carbonfold/model/RosterItem$Subscription", "hasFrom", "()Z"⟩ : MethodName)) (z := (⟨"com/example/carbonfold/carbonfold/model/RosterItem$Subscription", "hasFrom", "()Z"⟩ : MethodName)) hown (mvT hZ (hw _ (List.mem_of_getElem? (i := 7) rfl))) (mvT hZ (hw _ (List.mem_of_getElem? (i := 8) rfl))) (notFace_of_selects (args := #[]) (mvT hZ (hw _ (List.mem_of_getElem? (i := 10) rfl)))) (mvT hZ (hw _ (List.mem_of_getElem? (i := 10) rfl))) (mvT hZ (hw _ (List.mem_of_getElem? (i := 9) rfl))) (by decide) (backOf (W := 0) (rm_hasFrom_11 l Z a0 hw [] a_NONE a_FROM a_BOTH a_TO h0 n0 O0 En) hZ (hw _ (List.mem_of_getElem? (i := 11) rfl)) (hw _ (List.mem_of_getElem? (i := 5) rfl)) (by decide) (by decide)) q79a q79c (g := (mkF m 66 #[.val (.int i0), .val (.int i1), .val (.int i2), .val (.ref a_FROM), .val (.int (1 : Int32)), .val (.int (1 : Int32)), .val (.int (1 : Int32)), .val (.int (1 : Int32)), .unset, .unset] [(.ref a_FROM)])) rfl (by rw [hml]; rfl) (Steps.refl _) (argsL := []) (rest := []) (lenOf pd_1 rfl) rfl (by show 2 * 0 + _ ≤ _; exact Nat.le_of_eq rfl) (hb hby at_66) (fun _ _ => ⟨rfl, hh78, (by decide : 0 + 0 ≤ _), (by decide : 0 + 0 ≤ _)⟩)
        dsimp only [Pt.U, Pt.locs, Pt.cells, Pt.slots] at X79 l79 y79 z79 st79 hQ79
        subst l79 y79 z79
        obtain ⟨rfl, N79q, hh79⟩ := hQ79
        have N79 := Fr.app N78 N79q
        obtain ⟨cq80, kq80, q80a, q80b, q80c⟩ := isOf hZ hh79 (Exa.ext O0.2 X_a_FROM)
        obtain ⟨_, _, ⟨T80, L80, k80, n80⟩, -, X80, ⟨Lc80, hQ80, l80, y80, z80⟩, st80⟩ := X79.virtualBack hx (y := (⟨"com/example/carbonfold/carbonfold/model/RosterItem$Subscription", "withTo", "(Z)Lcom/example/carbonfold/carbonfold/model/RosterItem$Subscription;"⟩ : MethodName)) (z := (⟨"com/example/carbonfold/carbonfold/model/RosterItem$Subscription", "withTo", "(Z)Lcom/example/carbonfold/carbonfold/model/RosterItem$Subscription;"⟩ : MethodName)) hown (mvT hZ (hw _ (List.mem_of_getElem? (i := 31) rfl))) (mvT hZ (hw _ (List.mem_of_getElem? (i := 32) rfl))) (notFace_of_selects (args := #[]) (mvT hZ (hw _ (List.mem_of_getElem? (i := 34) rfl)))) (mvT hZ (hw _ (List.mem_of_getElem? (i := 34) rfl))) (mvT hZ (hw _ (List.mem_of_getElem? (i := 33) rfl))) (by decide) (backOf (W := 0) (rm_withTo_22 l Z a0 hw [] a_NONE a_FROM a_BOTH a_TO h0 n0 O0 En) hZ (hw _ (List.mem_of_getElem? (i := 35) rfl)) (hw _ (List.mem_of_getElem? (i := 5) rfl)) (by decide) (by decide)) q80a q80c (g := (mkF m 84 #[.val (.int i0), .val (.int i1), .val (.int i2), .val (.ref a_FROM), .val (.int (1 : Int32)), .val (.int (1 : Int32)), .val (.int (1 : Int32)), .val (.int (1 : Int32)), .val (.int (1 : Int32)), .unset] [(.int (1 : Int32)), (.ref a_FROM)])) rfl (by rw [hml]; rfl) (Steps.refl _) (argsL := [(.int (1 : Int32))]) (rest := []) (lenOf pd_3 rfl) rfl (by show 2 * 0 + _ ≤ _; exact Nat.le_of_eq rfl) (hb hby at_84) (fun _ _ => ⟨rfl, hh79, (by decide : 0 + 0 ≤ _), (by decide : 0 + 0 ≤ _)⟩)
        dsimp only [Pt.U, Pt.locs, Pt.cells, Pt.slots] at X80 l80 y80 z80 st80 hQ80
        subst l80 y80 z80
        obtain ⟨rfl, N80q, hh80⟩ := hQ80
        have N80 := Fr.app N79 N80q
        obtain ⟨cq81, kq81, q81a, q81b, q81c⟩ := isOf hZ hh80 (Exa.ext O0.2 X_a_BOTH)
        obtain ⟨_, _, ⟨T81, L81, k81, n81⟩, -, X81, ⟨Lc81, hQ81, l81, y81, z81⟩, st81⟩ := X80.virtualBack hx (y := (⟨"com/example/carbonfold/carbonfold/model/RosterItem$Subscription", "hasFrom", "()Z"⟩ : MethodName)) (z := (⟨"com/example/carbonfold/carbonfold/model/RosterItem$Subscription", "hasFrom", "()Z"⟩ : MethodName)) hown (mvT hZ (hw _ (List.mem_of_getElem? (i := 7) rfl))) (mvT hZ (hw _ (List.mem_of_getElem? (i := 8) rfl))) (notFace_of_selects (args := #[]) (mvT hZ (hw _ (List.mem_of_getElem? (i := 10) rfl)))) (mvT hZ (hw _ (List.mem_of_getElem? (i := 10) rfl))) (mvT hZ (hw _ (List.mem_of_getElem? (i := 9) rfl))) (by decide) (backOf (W := 0) (rm_hasFrom_18 l Z a0 hw [] a_NONE a_FROM a_BOTH a_TO h0 n0 O0 En) hZ (hw _ (List.mem_of_getElem? (i := 11) rfl)) (hw _ (List.mem_of_getElem? (i := 5) rfl)) (by decide) (by decide)) q81a q81c (g := (mkF m 87 #[.val (.int i0), .val (.int i1), .val (.int i2), .val (.ref a_FROM), .val (.int (1 : Int32)), .val (.int (1 : Int32)), .val (.int (1 : Int32)), .val (.int (1 : Int32)), .val (.int (1 : Int32)), .unset] [(.ref a_BOTH)])) rfl (by rw [hml]; rfl) (Steps.refl _) (argsL := []) (rest := []) (lenOf pd_1 rfl) rfl (by show 2 * 0 + _ ≤ _; exact Nat.le_of_eq rfl) (hb hby at_87) (fun _ _ => ⟨rfl, hh80, (by decide : 0 + 0 ≤ _), (by decide : 0 + 0 ≤ _)⟩)
        dsimp only [Pt.U, Pt.locs, Pt.cells, Pt.slots] at X81 l81 y81 z81 st81 hQ81
        subst l81 y81 z81
        obtain ⟨rfl, N81q, hh81⟩ := hQ81
        have N81 := Fr.app N80 N81q
        obtain ⟨fs, hr, hrun, hended, hW, hsame⟩ := X81.leave (v := some (.int (1 : Int32))) (fun h => by rw [Bd.returns] at h; cases h)
        refine ⟨_, _, pre70 _ ?_, hrun, hended, _, _, rfl, ?_, ⟨_, rfl⟩, hW, hsame.mono (by decide) (by decide)⟩
        · skip
          show Steps p.tables e below (T55.setTop (mkF m 34 #[.val (.int i0), .val (.int i1), .val (.int i2), .val (.ref a_FROM), .val (.int (1 : Int32)), .val (.int (1 : Int32)), .unset, .unset, .unset, .unset] [(.int (i2 &&& (1 : Int32)))])) _
          rw [hk71]
          show Steps p.tables e below (T55.setTop (mkF m 34 #[.val (.int i0), .val (.int i1), .val (.int i2), .val (.ref a_FROM), .val (.int (1 : Int32)), .val (.int (1 : Int32)), .unset, .unset, .unset, .unset] [(.int (1 : Int32))])) _
          refine XS.ifNo X55.here hx rfl (hb hby at_34) rfl (by decide) ?_
          show Steps p.tables e below (T55.setTop (mkF m 37 #[.val (.int i0), .val (.int i1), .val (.int i2), .val (.ref a_FROM), .val (.int (1 : Int32)), .val (.int (1 : Int32)), .unset, .unset, .unset, .unset] [])) _
          refine XS.iconst X55.here hx rfl (hb hby at_37) ?_
          show Steps p.tables e below (T55.setTop (mkF m 38 #[.val (.int i0), .val (.int i1), .val (.int i2), .val (.ref a_FROM), .val (.int (1 : Int32)), .val (.int (1 : Int32)), .unset, .unset, .unset, .unset] [(.int (1 : Int32))])) _
          refine XS.goto X55.here hx rfl (pc0 := 38) (pc' := 42) rfl (hb hby at_38) (by decide) (by decide) ?_
          show Steps p.tables e below (T55.setTop (mkF m 42 #[.val (.int i0), .val (.int i1), .val (.int i2), .val (.ref a_FROM), .val (.int (1 : Int32)), .val (.int (1 : Int32)), .unset, .unset, .unset, .unset] [(.int (1 : Int32))])) _
          refine XS.istore X55.here hx rfl (hb hby at_42) rfl (l' := #[.val (.int i0), .val (.int i1), .val (.int i2), .val (.ref a_FROM), .val (.int (1 : Int32)), .val (.int (1 : Int32)), .val (.int (1 : Int32)), .unset, .unset, .unset]) rfl ?_
          show Steps p.tables e below (T55.setTop (mkF m 44 #[.val (.int i0), .val (.int i1), .val (.int i2), .val (.ref a_FROM), .val (.int (1 : Int32)), .val (.int (1 : Int32)), .val (.int (1 : Int32)), .unset, .unset, .unset] [])) _
          refine XS.aloadN X55.here hx rfl (hb hby at_44) rfl rfl ?_
          show Steps p.tables e below (T55.setTop (mkF m 45 #[.val (.int i0), .val (.int i1), .val (.int i2), .val (.ref a_FROM), .val (.int (1 : Int32)), .val (.int (1 : Int32)), .val (.int (1 : Int32)), .unset, .unset, .unset] [(.ref a_FROM)])) _
          refine st77.trans ?_
          show Steps p.tables e below (T77.setTop (mkF m 48 #[.val (.int i0), .val (.int i1), .val (.int i2), .val (.ref a_FROM), .val (.int (1 : Int32)), .val (.int (1 : Int32)), .val (.int (1 : Int32)), .unset, .unset, .unset] [(.int (1 : Int32))])) _
          refine XS.iload X77.here hx rfl (hb hby at_48) rfl ?_
          show Steps p.tables e below (T77.setTop (mkF m 50 #[.val (.int i0), .val (.int i1), .val (.int i2), .val (.ref a_FROM), .val (.int (1 : Int32)), .val (.int (1 : Int32)), .val (.int (1 : Int32)), .unset, .unset, .unset] [(.int (1 : Int32)), (.int (1 : Int32))])) _
          refine XS.icmpNo X77.here hx rfl (hb hby at_50) rfl (by decide) ?_
          show Steps p.tables e below (T77.setTop (mkF m 53 #[.val (.int i0), .val (.int i1), .val (.int i2), .val (.ref a_FROM), .val (.int (1 : Int32)), .val (.int (1 : Int32)), .val (.int (1 : Int32)), .unset, .unset, .unset] [])) _
          refine XS.iconst X77.here hx rfl (hb hby at_53) ?_
          show Steps p.tables e below (T77.setTop (mkF m 54 #[.val (.int i0), .val (.int i1), .val (.int i2), .val (.ref a_FROM), .val (.int (1 : Int32)), .val (.int (1 : Int32)), .val (.int (1 : Int32)), .unset, .unset, .unset] [(.int (1 : Int32))])) _
          refine XS.goto X77.here hx rfl (pc0 := 54) (pc' := 58) rfl (hb hby at_54) (by decide) (by decide) ?_
          show Steps p.tables e below (T77.setTop (mkF m 58 #[.val (.int i0), .val (.int i1), .val (.int i2), .val (.ref a_FROM), .val (.int (1 : Int32)), .val (.int (1 : Int32)), .val (.int (1 : Int32)), .unset, .unset, .unset] [(.int (1 : Int32))])) _
          refine XS.istore X77.here hx rfl (hb hby at_58) rfl (l' := #[.val (.int i0), .val (.int i1), .val (.int i2), .val (.ref a_FROM), .val (.int (1 : Int32)), .val (.int (1 : Int32)), .val (.int (1 : Int32)), .val (.int (1 : Int32)), .unset, .unset]) rfl ?_
          show Steps p.tables e below (T77.setTop (mkF m 60 #[.val (.int i0), .val (.int i1), .val (.int i2), .val (.ref a_FROM), .val (.int (1 : Int32)), .val (.int (1 : Int32)), .val (.int (1 : Int32)), .val (.int (1 : Int32)), .unset, .unset] [])) _
          refine XS.aloadN X77.here hx rfl (hb hby at_60) rfl rfl ?_
          show Steps p.tables e below (T77.setTop (mkF m 61 #[.val (.int i0), .val (.int i1), .val (.int i2), .val (.ref a_FROM), .val (.int (1 : Int32)), .val (.int (1 : Int32)), .val (.int (1 : Int32)), .val (.int (1 : Int32)), .unset, .unset] [(.ref a_FROM)])) _
          refine XS.iload X77.here hx rfl (hb hby at_61) rfl ?_
          show Steps p.tables e below (T77.setTop (mkF m 63 #[.val (.int i0), .val (.int i1), .val (.int i2), .val (.ref a_FROM), .val (.int (1 : Int32)), .val (.int (1 : Int32)), .val (.int (1 : Int32)), .val (.int (1 : Int32)), .unset, .unset] [(.int (1 : Int32)), (.ref a_FROM)])) _
          refine st78.trans ?_
          show Steps p.tables e below (T78.setTop (mkF m 66 #[.val (.int i0), .val (.int i1), .val (.int i2), .val (.ref a_FROM), .val (.int (1 : Int32)), .val (.int (1 : Int32)), .val (.int (1 : Int32)), .val (.int (1 : Int32)), .unset, .unset] [(.ref a_FROM)])) _
          refine st79.trans ?_
          show Steps p.tables e below (T79.setTop (mkF m 69 #[.val (.int i0), .val (.int i1), .val (.int i2), .val (.ref a_FROM), .val (.int (1 : Int32)), .val (.int (1 : Int32)), .val (.int (1 : Int32)), .val (.int (1 : Int32)), .unset, .unset] [(.int (1 : Int32))])) _
          refine XS.iload X79.here hx rfl (hb hby at_69) rfl ?_
          show Steps p.tables e below (T79.setTop (mkF m 71 #[.val (.int i0), .val (.int i1), .val (.int i2), .val (.ref a_FROM), .val (.int (1 : Int32)), .val (.int (1 : Int32)), .val (.int (1 : Int32)), .val (.int (1 : Int32)), .unset, .unset] [(.int (1 : Int32)), (.int (1 : Int32))])) _
          refine XS.icmpNo X79.here hx rfl (hb hby at_71) rfl (by decide) ?_
          show Steps p.tables e below (T79.setTop (mkF m 74 #[.val (.int i0), .val (.int i1), .val (.int i2), .val (.ref a_FROM), .val (.int (1 : Int32)), .val (.int (1 : Int32)), .val (.int (1 : Int32)), .val (.int (1 : Int32)), .unset, .unset] [])) _
          refine XS.iconst X79.here hx rfl (hb hby at_74) ?_
          show Steps p.tables e below (T79.setTop (mkF m 75 #[.val (.int i0), .val (.int i1), .val (.int i2), .val (.ref a_FROM), .val (.int (1 : Int32)), .val (.int (1 : Int32)), .val (.int (1 : Int32)), .val (.int (1 : Int32)), .unset, .unset] [(.int (1 : Int32))])) _
          refine XS.goto X79.here hx rfl (pc0 := 75) (pc' := 79) rfl (hb hby at_75) (by decide) (by decide) ?_
          show Steps p.tables e below (T79.setTop (mkF m 79 #[.val (.int i0), .val (.int i1), .val (.int i2), .val (.ref a_FROM), .val (.int (1 : Int32)), .val (.int (1 : Int32)), .val (.int (1 : Int32)), .val (.int (1 : Int32)), .unset, .unset] [(.int (1 : Int32))])) _
          refine XS.istore X79.here hx rfl (hb hby at_79) rfl (l' := #[.val (.int i0), .val (.int i1), .val (.int i2), .val (.ref a_FROM), .val (.int (1 : Int32)), .val (.int (1 : Int32)), .val (.int (1 : Int32)), .val (.int (1 : Int32)), .val (.int (1 : Int32)), .unset]) rfl ?_
          show Steps p.tables e below (T79.setTop (mkF m 81 #[.val (.int i0), .val (.int i1), .val (.int i2), .val (.ref a_FROM), .val (.int (1 : Int32)), .val (.int (1 : Int32)), .val (.int (1 : Int32)), .val (.int (1 : Int32)), .val (.int (1 : Int32)), .unset] [])) _
          refine XS.aloadN X79.here hx rfl (hb hby at_81) rfl rfl ?_
          show Steps p.tables e below (T79.setTop (mkF m 82 #[.val (.int i0), .val (.int i1), .val (.int i2), .val (.ref a_FROM), .val (.int (1 : Int32)), .val (.int (1 : Int32)), .val (.int (1 : Int32)), .val (.int (1 : Int32)), .val (.int (1 : Int32)), .unset] [(.ref a_FROM)])) _
          refine XS.iload X79.here hx rfl (hb hby at_82) rfl ?_
          show Steps p.tables e below (T79.setTop (mkF m 84 #[.val (.int i0), .val (.int i1), .val (.int i2), .val (.ref a_FROM), .val (.int (1 : Int32)), .val (.int (1 : Int32)), .val (.int (1 : Int32)), .val (.int (1 : Int32)), .val (.int (1 : Int32)), .unset] [(.int (1 : Int32)), (.ref a_FROM)])) _
          refine st80.trans ?_
          show Steps p.tables e below (T80.setTop (mkF m 87 #[.val (.int i0), .val (.int i1), .val (.int i2), .val (.ref a_FROM), .val (.int (1 : Int32)), .val (.int (1 : Int32)), .val (.int (1 : Int32)), .val (.int (1 : Int32)), .val (.int (1 : Int32)), .unset] [(.ref a_BOTH)])) _
          refine st81.trans ?_
          show Steps p.tables e below (T81.setTop (mkF m 90 #[.val (.int i0), .val (.int i1), .val (.int i2), .val (.ref a_FROM), .val (.int (1 : Int32)), .val (.int (1 : Int32)), .val (.int (1 : Int32)), .val (.int (1 : Int32)), .val (.int (1 : Int32)), .unset] [(.int (1 : Int32))])) _
          refine XS.iload X81.here hx rfl (hb hby at_90) rfl ?_
          show Steps p.tables e below (T81.setTop (mkF m 92 #[.val (.int i0), .val (.int i1), .val (.int i2), .val (.ref a_FROM), .val (.int (1 : Int32)), .val (.int (1 : Int32)), .val (.int (1 : Int32)), .val (.int (1 : Int32)), .val (.int (1 : Int32)), .unset] [(.int (1 : Int32)), (.int (1 : Int32))])) _
          refine XS.icmpNo X81.here hx rfl (hb hby at_92) rfl (by decide) ?_
          show Steps p.tables e below (T81.setTop (mkF m 95 #[.val (.int i0), .val (.int i1), .val (.int i2), .val (.ref a_FROM), .val (.int (1 : Int32)), .val (.int (1 : Int32)), .val (.int (1 : Int32)), .val (.int (1 : Int32)), .val (.int (1 : Int32)), .unset] [])) _
          refine XS.iconst X81.here hx rfl (hb hby at_95) ?_
          show Steps p.tables e below (T81.setTop (mkF m 96 #[.val (.int i0), .val (.int i1), .val (.int i2), .val (.ref a_FROM), .val (.int (1 : Int32)), .val (.int (1 : Int32)), .val (.int (1 : Int32)), .val (.int (1 : Int32)), .val (.int (1 : Int32)), .unset] [(.int (1 : Int32))])) _
          refine XS.goto X81.here hx rfl (pc0 := 96) (pc' := 100) rfl (hb hby at_96) (by decide) (by decide) ?_
          show Steps p.tables e below (T81.setTop (mkF m 100 #[.val (.int i0), .val (.int i1), .val (.int i2), .val (.ref a_FROM), .val (.int (1 : Int32)), .val (.int (1 : Int32)), .val (.int (1 : Int32)), .val (.int (1 : Int32)), .val (.int (1 : Int32)), .unset] [(.int (1 : Int32))])) _
          refine XS.istore X81.here hx rfl (hb hby at_100) rfl (l' := #[.val (.int i0), .val (.int i1), .val (.int i2), .val (.ref a_FROM), .val (.int (1 : Int32)), .val (.int (1 : Int32)), .val (.int (1 : Int32)), .val (.int (1 : Int32)), .val (.int (1 : Int32)), .val (.int (1 : Int32))]) rfl ?_
          show Steps p.tables e below (T81.setTop (mkF m 102 #[.val (.int i0), .val (.int i1), .val (.int i2), .val (.ref a_FROM), .val (.int (1 : Int32)), .val (.int (1 : Int32)), .val (.int (1 : Int32)), .val (.int (1 : Int32)), .val (.int (1 : Int32)), .val (.int (1 : Int32))] [])) _
          refine XS.iload X81.here hx rfl (hb hby at_102) rfl ?_
          show Steps p.tables e below (T81.setTop (mkF m 104 #[.val (.int i0), .val (.int i1), .val (.int i2), .val (.ref a_FROM), .val (.int (1 : Int32)), .val (.int (1 : Int32)), .val (.int (1 : Int32)), .val (.int (1 : Int32)), .val (.int (1 : Int32)), .val (.int (1 : Int32))] [(.int (1 : Int32))])) _
          refine XS.ifNo X81.here hx rfl (hb hby at_104) rfl (by decide) ?_
          show Steps p.tables e below (T81.setTop (mkF m 107 #[.val (.int i0), .val (.int i1), .val (.int i2), .val (.ref a_FROM), .val (.int (1 : Int32)), .val (.int (1 : Int32)), .val (.int (1 : Int32)), .val (.int (1 : Int32)), .val (.int (1 : Int32)), .val (.int (1 : Int32))] [])) _
          refine XS.iload X81.here hx rfl (hb hby at_107) rfl ?_
          show Steps p.tables e below (T81.setTop (mkF m 109 #[.val (.int i0), .val (.int i1), .val (.int i2), .val (.ref a_FROM), .val (.int (1 : Int32)), .val (.int (1 : Int32)), .val (.int (1 : Int32)), .val (.int (1 : Int32)), .val (.int (1 : Int32)), .val (.int (1 : Int32))] [(.int (1 : Int32))])) _
          refine XS.ifNo X81.here hx rfl (hb hby at_109) rfl (by decide) ?_
          show Steps p.tables e below (T81.setTop (mkF m 112 #[.val (.int i0), .val (.int i1), .val (.int i2), .val (.ref a_FROM), .val (.int (1 : Int32)), .val (.int (1 : Int32)), .val (.int (1 : Int32)), .val (.int (1 : Int32)), .val (.int (1 : Int32)), .val (.int (1 : Int32))] [])) _
          refine XS.iload X81.here hx rfl (hb hby at_112) rfl ?_
          show Steps p.tables e below (T81.setTop (mkF m 114 #[.val (.int i0), .val (.int i1), .val (.int i2), .val (.ref a_FROM), .val (.int (1 : Int32)), .val (.int (1 : Int32)), .val (.int (1 : Int32)), .val (.int (1 : Int32)), .val (.int (1 : Int32)), .val (.int (1 : Int32))] [(.int (1 : Int32))])) _
          refine XS.ifNo X81.here hx rfl (hb hby at_114) rfl (by decide) ?_
          show Steps p.tables e below (T81.setTop (mkF m 117 #[.val (.int i0), .val (.int i1), .val (.int i2), .val (.ref a_FROM), .val (.int (1 : Int32)), .val (.int (1 : Int32)), .val (.int (1 : Int32)), .val (.int (1 : Int32)), .val (.int (1 : Int32)), .val (.int (1 : Int32))] [])) _
          refine XS.iconst X81.here hx rfl (hb hby at_117) ?_
          show Steps p.tables e below (T81.setTop (mkF m 118 #[.val (.int i0), .val (.int i1), .val (.int i2), .val (.ref a_FROM), .val (.int (1 : Int32)), .val (.int (1 : Int32)), .val (.int (1 : Int32)), .val (.int (1 : Int32)), .val (.int (1 : Int32)), .val (.int (1 : Int32))] [(.int (1 : Int32))])) _
          refine XS.goto X81.here hx rfl (pc0 := 118) (pc' := 122) rfl (hb hby at_118) (by decide) (by decide) ?_
          show Steps p.tables e below (T81.setTop (mkF m 122 #[.val (.int i0), .val (.int i1), .val (.int i2), .val (.ref a_FROM), .val (.int (1 : Int32)), .val (.int (1 : Int32)), .val (.int (1 : Int32)), .val (.int (1 : Int32)), .val (.int (1 : Int32)), .val (.int (1 : Int32))] [(.int (1 : Int32))])) _
          exact retN X81 hx (t := .boolean) Bd.returns (by simp) (hb hby at_122) hr
        · show QL n0 _ T81.heap _
          rw [hh81]
          exact ⟨rfl, N81⟩
  · skip
    have hk2 : (i0 &&& (2 : Int32)) = (2 : Int32) := own_k2 hk rfl
    obtain ⟨_, _, ⟨T82, L82, k82, n82⟩, -, X82, ⟨Lc82, hQ82, l82, y82, z82⟩, st82⟩ := Jvm.LawKit.callS X0 hx (y := (⟨"com/example/carbonfold/carbonfold/model/SubscriptionHasFromPinLaw", "pick", "(I)Lcom/example/carbonfold/carbonfold/model/RosterItem$Subscription;"⟩ : MethodName)) hown (mvT hZ (hw _ (List.mem_of_getElem? (i := 0) rfl))) (mvT hZ (hw _ (List.mem_of_getElem? (i := 1) rfl))) (mvT hZ (hw _ (List.mem_of_getElem? (i := 2) rfl))) (mvT hZ (hw _ (List.mem_of_getElem? (i := 3) rfl))) (by decide) (backOf (W := 0) (rm_pick3 l Z a0 hw [] i0 a_NONE a_FROM a_BOTH a_TO h0 n0 O0 En hk) hZ (hw _ (List.mem_of_getElem? (i := 3) rfl)) (hw _ (List.mem_of_getElem? (i := 2) rfl)) (by decide) (by decide)) (g := (mkF m 1 #[.val (.int i0), .val (.int i1), .val (.int i2), .unset, .unset, .unset, .unset, .unset, .unset, .unset] [(.int i0)])) rfl (by rw [hml]; rfl) (argsL := [(.int i0)]) (rest := []) (lenOf pd_0 rfl) rfl (by show 2 * 0 + _ ≤ _; exact Nat.le_of_eq rfl) (hb hby at_1) (fun _ _ => ⟨rfl, e0, (by decide : 0 + 0 ≤ _), (by decide : 0 + 0 ≤ _)⟩)
    dsimp only [Pt.U, Pt.locs, Pt.cells, Pt.slots] at X82 l82 y82 z82 st82 hQ82
    subst l82 y82 z82
    obtain ⟨rfl, N82q, hh82⟩ := hQ82
    have N82 := Fr.app N0 N82q
    have pre83 : ∀ t, Steps p.tables e below (T82.setTop (mkF m 21 #[.val (.int i0), .val (.int i1), .val (.int i2), .val (.ref a_BOTH), .val (.int (1 : Int32)), .unset, .unset, .unset, .unset, .unset] [(.int (i1 &&& (1 : Int32)))])) t → Steps p.tables e below (s₁.setTop (entryFrame m #[(.int i0), (.int i1), (.int i2)] maxLocals)) t := fun t kt => pre0 t (by
        show Steps p.tables e below (s₁.setTop (mkF m 0 #[.val (.int i0), .val (.int i1), .val (.int i2), .unset, .unset, .unset, .unset, .unset, .unset, .unset] [])) _
        refine XS.iloadN X0.here hx rfl (hb hby at_0) rfl ?_
        show Steps p.tables e below (s₁.setTop (mkF m 1 #[.val (.int i0), .val (.int i1), .val (.int i2), .unset, .unset, .unset, .unset, .unset, .unset, .unset] [(.int i0)])) _
        refine st82 _ ?_
        show Steps p.tables e below (T82.setTop (mkF m 4 #[.val (.int i0), .val (.int i1), .val (.int i2), .unset, .unset, .unset, .unset, .unset, .unset, .unset] [(.ref a_BOTH)])) _
        refine XS.astoreN X82.here hx rfl (hb hby at_4) rfl rfl (l' := #[.val (.int i0), .val (.int i1), .val (.int i2), .val (.ref a_BOTH), .unset, .unset, .unset, .unset, .unset, .unset]) rfl ?_
        show Steps p.tables e below (T82.setTop (mkF m 5 #[.val (.int i0), .val (.int i1), .val (.int i2), .val (.ref a_BOTH), .unset, .unset, .unset, .unset, .unset, .unset] [])) _
        refine XS.iloadN X82.here hx rfl (hb hby at_5) rfl ?_
        show Steps p.tables e below (T82.setTop (mkF m 6 #[.val (.int i0), .val (.int i1), .val (.int i2), .val (.ref a_BOTH), .unset, .unset, .unset, .unset, .unset, .unset] [(.int i0)])) _
        refine XS.iconst X82.here hx rfl (hb hby at_6) ?_
        show Steps p.tables e below (T82.setTop (mkF m 7 #[.val (.int i0), .val (.int i1), .val (.int i2), .val (.ref a_BOTH), .unset, .unset, .unset, .unset, .unset, .unset] [(.int (2 : Int32)), (.int i0)])) _
        refine XS.iand X82.here hx rfl (hb hby at_7) rfl ?_
        show Steps p.tables e below (T82.setTop (mkF m 8 #[.val (.int i0), .val (.int i1), .val (.int i2), .val (.ref a_BOTH), .unset, .unset, .unset, .unset, .unset, .unset] [(.int (i0 &&& (2 : Int32)))])) _
        rw [hk2]
        show Steps p.tables e below (T82.setTop (mkF m 8 #[.val (.int i0), .val (.int i1), .val (.int i2), .val (.ref a_BOTH), .unset, .unset, .unset, .unset, .unset, .unset] [(.int (2 : Int32))])) _
        refine XS.ifNo X82.here hx rfl (hb hby at_8) rfl (by decide) ?_
        show Steps p.tables e below (T82.setTop (mkF m 11 #[.val (.int i0), .val (.int i1), .val (.int i2), .val (.ref a_BOTH), .unset, .unset, .unset, .unset, .unset, .unset] [])) _
        refine XS.iconst X82.here hx rfl (hb hby at_11) ?_
        show Steps p.tables e below (T82.setTop (mkF m 12 #[.val (.int i0), .val (.int i1), .val (.int i2), .val (.ref a_BOTH), .unset, .unset, .unset, .unset, .unset, .unset] [(.int (1 : Int32))])) _
        refine XS.goto X82.here hx rfl (pc0 := 12) (pc' := 16) rfl (hb hby at_12) (by decide) (by decide) ?_
        show Steps p.tables e below (T82.setTop (mkF m 16 #[.val (.int i0), .val (.int i1), .val (.int i2), .val (.ref a_BOTH), .unset, .unset, .unset, .unset, .unset, .unset] [(.int (1 : Int32))])) _
        refine XS.istore X82.here hx rfl (hb hby at_16) rfl (l' := #[.val (.int i0), .val (.int i1), .val (.int i2), .val (.ref a_BOTH), .val (.int (1 : Int32)), .unset, .unset, .unset, .unset, .unset]) rfl ?_
        show Steps p.tables e below (T82.setTop (mkF m 18 #[.val (.int i0), .val (.int i1), .val (.int i2), .val (.ref a_BOTH), .val (.int (1 : Int32)), .unset, .unset, .unset, .unset, .unset] [])) _
        refine XS.iloadN X82.here hx rfl (hb hby at_18) rfl ?_
        show Steps p.tables e below (T82.setTop (mkF m 19 #[.val (.int i0), .val (.int i1), .val (.int i2), .val (.ref a_BOTH), .val (.int (1 : Int32)), .unset, .unset, .unset, .unset, .unset] [(.int i1)])) _
        refine XS.iconst X82.here hx rfl (hb hby at_19) ?_
        show Steps p.tables e below (T82.setTop (mkF m 20 #[.val (.int i0), .val (.int i1), .val (.int i2), .val (.ref a_BOTH), .val (.int (1 : Int32)), .unset, .unset, .unset, .unset, .unset] [(.int (1 : Int32)), (.int i1)])) _
        refine XS.iand X82.here hx rfl (hb hby at_20) rfl ?_
        exact kt)
    rcases own_b i1 with hk84 | hk84
    · skip
      have pre85 : ∀ t, Steps p.tables e below (T82.setTop (mkF m 34 #[.val (.int i0), .val (.int i1), .val (.int i2), .val (.ref a_BOTH), .val (.int (1 : Int32)), .val (.int (0 : Int32)), .unset, .unset, .unset, .unset] [(.int (i2 &&& (1 : Int32)))])) t → Steps p.tables e below (s₁.setTop (entryFrame m #[(.int i0), (.int i1), (.int i2)] maxLocals)) t := fun t kt => pre83 t (by
          show Steps p.tables e below (T82.setTop (mkF m 21 #[.val (.int i0), .val (.int i1), .val (.int i2), .val (.ref a_BOTH), .val (.int (1 : Int32)), .unset, .unset, .unset, .unset, .unset] [(.int (i1 &&& (1 : Int32)))])) _
          rw [hk84]
          show Steps p.tables e below (T82.setTop (mkF m 21 #[.val (.int i0), .val (.int i1), .val (.int i2), .val (.ref a_BOTH), .val (.int (1 : Int32)), .unset, .unset, .unset, .unset, .unset] [(.int (0 : Int32))])) _
          refine XS.ifYes X82.here hx rfl (pc0 := 21) (pc' := 28) rfl (hb hby at_21) rfl (by decide) (by decide) (by decide) ?_
          show Steps p.tables e below (T82.setTop (mkF m 28 #[.val (.int i0), .val (.int i1), .val (.int i2), .val (.ref a_BOTH), .val (.int (1 : Int32)), .unset, .unset, .unset, .unset, .unset] [])) _
          refine XS.iconst X82.here hx rfl (hb hby at_28) ?_
          show Steps p.tables e below (T82.setTop (mkF m 29 #[.val (.int i0), .val (.int i1), .val (.int i2), .val (.ref a_BOTH), .val (.int (1 : Int32)), .unset, .unset, .unset, .unset, .unset] [(.int (0 : Int32))])) _
          refine XS.istore X82.here hx rfl (hb hby at_29) rfl (l' := #[.val (.int i0), .val (.int i1), .val (.int i2), .val (.ref a_BOTH), .val (.int (1 : Int32)), .val (.int (0 : Int32)), .unset, .unset, .unset, .unset]) rfl ?_
          show Steps p.tables e below (T82.setTop (mkF m 31 #[.val (.int i0), .val (.int i1), .val (.int i2), .val (.ref a_BOTH), .val (.int (1 : Int32)), .val (.int (0 : Int32)), .unset, .unset, .unset, .unset] [])) _
          refine XS.iloadN X82.here hx rfl (hb hby at_31) rfl ?_
          show Steps p.tables e below (T82.setTop (mkF m 32 #[.val (.int i0), .val (.int i1), .val (.int i2), .val (.ref a_BOTH), .val (.int (1 : Int32)), .val (.int (0 : Int32)), .unset, .unset, .unset, .unset] [(.int i2)])) _
          refine XS.iconst X82.here hx rfl (hb hby at_32) ?_
          show Steps p.tables e below (T82.setTop (mkF m 33 #[.val (.int i0), .val (.int i1), .val (.int i2), .val (.ref a_BOTH), .val (.int (1 : Int32)), .val (.int (0 : Int32)), .unset, .unset, .unset, .unset] [(.int (1 : Int32)), (.int i2)])) _
          refine XS.iand X82.here hx rfl (hb hby at_33) rfl ?_
          exact kt)
      rcases own_b i2 with hk86 | hk86
      · skip
        obtain ⟨cq87, kq87, q87a, q87b, q87c⟩ := isOf hZ hh82 (Exa.ext O0.2 X_a_BOTH)
        obtain ⟨_, _, ⟨T87, L87, k87, n87⟩, -, X87, ⟨Lc87, hQ87, l87, y87, z87⟩, st87⟩ := X82.virtualBack hx (y := (⟨"com/example/carbonfold/carbonfold/model/RosterItem$Subscription", "hasFrom", "()Z"⟩ : MethodName)) (z := (⟨"com/example/carbonfold/carbonfold/model/RosterItem$Subscription", "hasFrom", "()Z"⟩ : MethodName)) hown (mvT hZ (hw _ (List.mem_of_getElem? (i := 7) rfl))) (mvT hZ (hw _ (List.mem_of_getElem? (i := 8) rfl))) (notFace_of_selects (args := #[]) (mvT hZ (hw _ (List.mem_of_getElem? (i := 10) rfl)))) (mvT hZ (hw _ (List.mem_of_getElem? (i := 10) rfl))) (mvT hZ (hw _ (List.mem_of_getElem? (i := 9) rfl))) (by decide) (backOf (W := 0) (rm_hasFrom_18 l Z a0 hw [] a_NONE a_FROM a_BOTH a_TO h0 n0 O0 En) hZ (hw _ (List.mem_of_getElem? (i := 11) rfl)) (hw _ (List.mem_of_getElem? (i := 5) rfl)) (by decide) (by decide)) q87a q87c (g := (mkF m 45 #[.val (.int i0), .val (.int i1), .val (.int i2), .val (.ref a_BOTH), .val (.int (1 : Int32)), .val (.int (0 : Int32)), .val (.int (0 : Int32)), .unset, .unset, .unset] [(.ref a_BOTH)])) rfl (by rw [hml]; rfl) (Steps.refl _) (argsL := []) (rest := []) (lenOf pd_1 rfl) rfl (by show 2 * 0 + _ ≤ _; exact Nat.le_of_eq rfl) (hb hby at_45) (fun _ _ => ⟨rfl, hh82, (by decide : 0 + 0 ≤ _), (by decide : 0 + 0 ≤ _)⟩)
        dsimp only [Pt.U, Pt.locs, Pt.cells, Pt.slots] at X87 l87 y87 z87 st87 hQ87
        subst l87 y87 z87
        obtain ⟨rfl, N87q, hh87⟩ := hQ87
        have N87 := Fr.app N82 N87q
        obtain ⟨cq88, kq88, q88a, q88b, q88c⟩ := isOf hZ hh87 (Exa.ext O0.2 X_a_BOTH)
        obtain ⟨_, _, ⟨T88, L88, k88, n88⟩, -, X88, ⟨Lc88, hQ88, l88, y88, z88⟩, st88⟩ := X87.virtualBack hx (y := (⟨"com/example/carbonfold/carbonfold/model/RosterItem$Subscription", "withFrom", "(Z)Lcom/example/carbonfold/carbonfold/model/RosterItem$Subscription;"⟩ : MethodName)) (z := (⟨"com/example/carbonfold/carbonfold/model/RosterItem$Subscription", "withFrom", "(Z)Lcom/example/carbonfold/carbonfold/model/RosterItem$Subscription;"⟩ : MethodName)) hown (mvT hZ (hw _ (List.mem_of_getElem? (i := 16) rfl))) (mvT hZ (hw _ (List.mem_of_getElem? (i := 17) rfl))) (notFace_of_selects (args := #[]) (mvT hZ (hw _ (List.mem_of_getElem? (i := 19) rfl)))) (mvT hZ (hw _ (List.mem_of_getElem? (i := 19) rfl))) (mvT hZ (hw _ (List.mem_of_getElem? (i := 18) rfl))) (by decide) (backOf (W := 0) (rm_withFrom_24 l Z a0 hw [] a_NONE a_FROM a_BOTH a_TO h0 n0 O0 En) hZ (hw _ (List.mem_of_getElem? (i := 20) rfl)) (hw _ (List.mem_of_getElem? (i := 5) rfl)) (by decide) (by decide)) q88a q88c (g := (mkF m 63 #[.val (.int i0), .val (.int i1), .val (.int i2), .val (.ref a_BOTH), .val (.int (1 : Int32)), .val (.int (0 : Int32)), .val (.int (0 : Int32)), .val (.int (1 : Int32)), .unset, .unset] [(.int (0 : Int32)), (.ref a_BOTH)])) rfl (by rw [hml]; rfl) (Steps.refl _) (argsL := [(.int (0 : Int32))]) (rest := []) (lenOf pd_3 rfl) rfl (by show 2 * 0 + _ ≤ _; exact Nat.le_of_eq rfl) (hb hby at_63) (fun _ _ => ⟨rfl, hh87, (by decide : 0 + 0 ≤ _), (by decide : 0 + 0 ≤ _)⟩)
        dsimp only [Pt.U, Pt.locs, Pt.cells, Pt.slots] at X88 l88 y88 z88 st88 hQ88
        subst l88 y88 z88
        obtain ⟨rfl, N88q, hh88⟩ := hQ88
        have N88 := Fr.app N87 N88q
        obtain ⟨cq89, kq89, q89a, q89b, q89c⟩ := isOf hZ hh88 (Exa.ext O0.2 X_a_TO)
        obtain ⟨_, _, ⟨T89, L89, k89, n89⟩, -, X89, ⟨Lc89, hQ89, l89, y89, z89⟩, st89⟩ := X88.virtualBack hx (y := (⟨"com/example/carbonfold/carbonfold/model/RosterItem$Subscription", "hasFrom", "()Z"⟩ : MethodName)) (z := (⟨"com/example/carbonfold/carbonfold/model/RosterItem$Subscription", "hasFrom", "()Z"⟩ : MethodName)) hown (mvT hZ (hw _ (List.mem_of_getElem? (i := 7) rfl))) (mvT hZ (hw _ (List.mem_of_getElem? (i := 8) rfl))) (notFace_of_selects (args := #[]) (mvT hZ (hw _ (List.mem_of_getElem? (i := 10) rfl)))) (mvT hZ (hw _ (List.mem_of_getElem? (i := 10) rfl))) (mvT hZ (hw _ (List.mem_of_getElem? (i := 9) rfl))) (by decide) (backOf (W := 0) (rm_hasFrom_8 l Z a0 hw [] a_NONE a_FROM a_BOTH a_TO h0 n0 O0 En) hZ (hw _ (List.mem_of_getElem? (i := 11) rfl)) (hw _ (List.mem_of_getElem? (i := 5) rfl)) (by decide) (by decide)) q89a q89c (g := (mkF m 66 #[.val (.int i0), .val (.int i1), .val (.int i2), .val (.ref a_BOTH), .val (.int (1 : Int32)), .val (.int (0 : Int32)), .val (.int (0 : Int32)), .val (.int (1 : Int32)), .unset, .unset] [(.ref a_TO)])) rfl (by rw [hml]; rfl) (Steps.refl _) (argsL := []) (rest := []) (lenOf pd_1 rfl) rfl (by show 2 * 0 + _ ≤ _; exact Nat.le_of_eq rfl) (hb hby at_66) (fun _ _ => ⟨rfl, hh88, (by decide : 0 + 0 ≤ _), (by decide : 0 + 0 ≤ _)⟩)
        dsimp only [Pt.U, Pt.locs, Pt.cells, Pt.slots] at X89 l89 y89 z89 st89 hQ89
        subst l89 y89 z89
        obtain ⟨rfl, N89q, hh89⟩ := hQ89
        have N89 := Fr.app N88 N89q
        obtain ⟨cq90, kq90, q90a, q90b, q90c⟩ := isOf hZ hh89 (Exa.ext O0.2 X_a_BOTH)
        obtain ⟨_, _, ⟨T90, L90, k90, n90⟩, -, X90, ⟨Lc90, hQ90, l90, y90, z90⟩, st90⟩ := X89.virtualBack hx (y := (⟨"com/example/carbonfold/carbonfold/model/RosterItem$Subscription", "withTo", "(Z)Lcom/example/carbonfold/carbonfold/model/RosterItem$Subscription;"⟩ : MethodName)) (z := (⟨"com/example/carbonfold/carbonfold/model/RosterItem$Subscription", "withTo", "(Z)Lcom/example/carbonfold/carbonfold/model/RosterItem$Subscription;"⟩ : MethodName)) hown (mvT hZ (hw _ (List.mem_of_getElem? (i := 31) rfl))) (mvT hZ (hw _ (List.mem_of_getElem? (i := 32) rfl))) (notFace_of_selects (args := #[]) (mvT hZ (hw _ (List.mem_of_getElem? (i := 34) rfl)))) (mvT hZ (hw _ (List.mem_of_getElem? (i := 34) rfl))) (mvT hZ (hw _ (List.mem_of_getElem? (i := 33) rfl))) (by decide) (backOf (W := 0) (rm_withTo_26 l Z a0 hw [] a_NONE a_FROM a_BOTH a_TO h0 n0 O0 En) hZ (hw _ (List.mem_of_getElem? (i := 35) rfl)) (hw _ (List.mem_of_getElem? (i := 5) rfl)) (by decide) (by decide)) q90a q90c (g := (mkF m 84 #[.val (.int i0), .val (.int i1), .val (.int i2), .val (.ref a_BOTH), .val (.int (1 : Int32)), .val (.int (0 : Int32)), .val (.int (0 : Int32)), .val (.int (1 : Int32)), .val (.int (1 : Int32)), .unset] [(.int (0 : Int32)), (.ref a_BOTH)])) rfl (by rw [hml]; rfl) (Steps.refl _) (argsL := [(.int (0 : Int32))]) (rest := []) (lenOf pd_3 rfl) rfl (by show 2 * 0 + _ ≤ _; exact Nat.le_of_eq rfl) (hb hby at_84) (fun _ _ => ⟨rfl, hh89, (by decide : 0 + 0 ≤ _), (by decide : 0 + 0 ≤ _)⟩)
        dsimp only [Pt.U, Pt.locs, Pt.cells, Pt.slots] at X90 l90 y90 z90 st90 hQ90
        subst l90 y90 z90
        obtain ⟨rfl, N90q, hh90⟩ := hQ90
        have N90 := Fr.app N89 N90q
        obtain ⟨cq91, kq91, q91a, q91b, q91c⟩ := isOf hZ hh90 (Exa.ext O0.2 X_a_FROM)
        obtain ⟨_, _, ⟨T91, L91, k91, n91⟩, -, X91, ⟨Lc91, hQ91, l91, y91, z91⟩, st91⟩ := X90.virtualBack hx (y := (⟨"com/example/carbonfold/carbonfold/model/RosterItem$Subscription", "hasFrom", "()Z"⟩ : MethodName)) (z := (⟨"com/example/carbonfold/carbonfold/model/RosterItem$Subscription", "hasFrom", "()Z"⟩ : MethodName)) hown (mvT hZ (hw _ (List.mem_of_getElem? (i := 7) rfl))) (mvT hZ (hw _ (List.mem_of_getElem? (i := 8) rfl))) (notFace_of_selects (args := #[]) (mvT hZ (hw _ (List.mem_of_getElem? (i := 10) rfl)))) (mvT hZ (hw _ (List.mem_of_getElem? (i := 10) rfl))) (mvT hZ (hw _ (List.mem_of_getElem? (i := 9) rfl))) (by decide) (backOf (W := 0) (rm_hasFrom_11 l Z a0 hw [] a_NONE a_FROM a_BOTH a_TO h0 n0 O0 En) hZ (hw _ (List.mem_of_getElem? (i := 11) rfl)) (hw _ (List.mem_of_getElem? (i := 5) rfl)) (by decide) (by decide)) q91a q91c (g := (mkF m 87 #[.val (.int i0), .val (.int i1), .val (.int i2), .val (.ref a_BOTH), .val (.int (1 : Int32)), .val (.int (0 : Int32)), .val (.int (0 : Int32)), .val (.int (1 : Int32)), .val (.int (1 : Int32)), .unset] [(.ref a_FROM)])) rfl (by rw [hml]; rfl) (Steps.refl _) (argsL := []) (rest := []) (lenOf pd_1 rfl) rfl (by show 2 * 0 + _ ≤ _; exact Nat.le_of_eq rfl) (hb hby at_87) (fun _ _ => ⟨rfl, hh90, (by decide : 0 + 0 ≤ _), (by decide : 0 + 0 ≤ _)⟩)
        dsimp only [Pt.U, Pt.locs, Pt.cells, Pt.slots] at X91 l91 y91 z91 st91 hQ91
        subst l91 y91 z91
        obtain ⟨rfl, N91q, hh91⟩ := hQ91
        have N91 := Fr.app N90 N91q
        obtain ⟨fs, hr, hrun, hended, hW, hsame⟩ := X91.leave (v := some (.int (1 : Int32))) (fun h => by rw [Bd.returns] at h; cases h)
        refine ⟨_, _, pre85 _ ?_, hrun, hended, _, _, rfl, ?_, ⟨_, rfl⟩, hW, hsame.mono (by decide) (by decide)⟩
        · skip
          show Steps p.tables e below (T82.setTop (mkF m 34 #[.val (.int i0), .val (.int i1), .val (.int i2), .val (.ref a_BOTH), .val (.int (1 : Int32)), .val (.int (0 : Int32)), .unset, .unset, .unset, .unset] [(.int (i2 &&& (1 : Int32)))])) _
          rw [hk86]
          show Steps p.tables e below (T82.setTop (mkF m 34 #[.val (.int i0), .val (.int i1), .val (.int i2), .val (.ref a_BOTH), .val (.int (1 : Int32)), .val (.int (0 : Int32)), .unset, .unset, .unset, .unset] [(.int (0 : Int32))])) _
          refine XS.ifYes X82.here hx rfl (pc0 := 34) (pc' := 41) rfl (hb hby at_34) rfl (by decide) (by decide) (by decide) ?_
          show Steps p.tables e below (T82.setTop (mkF m 41 #[.val (.int i0), .val (.int i1), .val (.int i2), .val (.ref a_BOTH), .val (.int (1 : Int32)), .val (.int (0 : Int32)), .unset, .unset, .unset, .unset] [])) _
          refine XS.iconst X82.here hx rfl (hb hby at_41) ?_
          show Steps p.tables e below (T82.setTop (mkF m 42 #[.val (.int i0), .val (.int i1), .val (.int i2), .val (.ref a_BOTH), .val (.int (1 : Int32)), .val (.int (0 : Int32)), .unset, .unset, .unset, .unset] [(.int (0 : Int32))])) _
          refine XS.istore X82.here hx rfl (hb hby at_42) rfl (l' := #[.val (.int i0), .val (.int i1), .val (.int i2), .val (.ref a_BOTH), .val (.int (1 : Int32)), .val (.int (0 : Int32)), .val (.int (0 : Int32)), .unset, .unset, .unset]) rfl ?_
          show Steps p.tables e below (T82.setTop (mkF m 44 #[.val (.int i0), .val (.int i1), .val (.int i2), .val (.ref a_BOTH), .val (.int (1 : Int32)), .val (.int (0 : Int32)), .val (.int (0 : Int32)), .unset, .unset, .unset] [])) _
          refine XS.aloadN X82.here hx rfl (hb hby at_44) rfl rfl ?_
          show Steps p.tables e below (T82.setTop (mkF m 45 #[.val (.int i0), .val (.int i1), .val (.int i2), .val (.ref a_BOTH), .val (.int (1 : Int32)), .val (.int (0 : Int32)), .val (.int (0 : Int32)), .unset, .unset, .unset] [(.ref a_BOTH)])) _
          refine st87.trans ?_
          show Steps p.tables e below (T87.setTop (mkF m 48 #[.val (.int i0), .val (.int i1), .val (.int i2), .val (.ref a_BOTH), .val (.int (1 : Int32)), .val (.int (0 : Int32)), .val (.int (0 : Int32)), .unset, .unset, .unset] [(.int (1 : Int32))])) _
          refine XS.iload X87.here hx rfl (hb hby at_48) rfl ?_
          show Steps p.tables e below (T87.setTop (mkF m 50 #[.val (.int i0), .val (.int i1), .val (.int i2), .val (.ref a_BOTH), .val (.int (1 : Int32)), .val (.int (0 : Int32)), .val (.int (0 : Int32)), .unset, .unset, .unset] [(.int (1 : Int32)), (.int (1 : Int32))])) _
          refine XS.icmpNo X87.here hx rfl (hb hby at_50) rfl (by decide) ?_
          show Steps p.tables e below (T87.setTop (mkF m 53 #[.val (.int i0), .val (.int i1), .val (.int i2), .val (.ref a_BOTH), .val (.int (1 : Int32)), .val (.int (0 : Int32)), .val (.int (0 : Int32)), .unset, .unset, .unset] [])) _
          refine XS.iconst X87.here hx rfl (hb hby at_53) ?_
          show Steps p.tables e below (T87.setTop (mkF m 54 #[.val (.int i0), .val (.int i1), .val (.int i2), .val (.ref a_BOTH), .val (.int (1 : Int32)), .val (.int (0 : Int32)), .val (.int (0 : Int32)), .unset, .unset, .unset] [(.int (1 : Int32))])) _
          refine XS.goto X87.here hx rfl (pc0 := 54) (pc' := 58) rfl (hb hby at_54) (by decide) (by decide) ?_
          show Steps p.tables e below (T87.setTop (mkF m 58 #[.val (.int i0), .val (.int i1), .val (.int i2), .val (.ref a_BOTH), .val (.int (1 : Int32)), .val (.int (0 : Int32)), .val (.int (0 : Int32)), .unset, .unset, .unset] [(.int (1 : Int32))])) _
          refine XS.istore X87.here hx rfl (hb hby at_58) rfl (l' := #[.val (.int i0), .val (.int i1), .val (.int i2), .val (.ref a_BOTH), .val (.int (1 : Int32)), .val (.int (0 : Int32)), .val (.int (0 : Int32)), .val (.int (1 : Int32)), .unset, .unset]) rfl ?_
          show Steps p.tables e below (T87.setTop (mkF m 60 #[.val (.int i0), .val (.int i1), .val (.int i2), .val (.ref a_BOTH), .val (.int (1 : Int32)), .val (.int (0 : Int32)), .val (.int (0 : Int32)), .val (.int (1 : Int32)), .unset, .unset] [])) _
          refine XS.aloadN X87.here hx rfl (hb hby at_60) rfl rfl ?_
          show Steps p.tables e below (T87.setTop (mkF m 61 #[.val (.int i0), .val (.int i1), .val (.int i2), .val (.ref a_BOTH), .val (.int (1 : Int32)), .val (.int (0 : Int32)), .val (.int (0 : Int32)), .val (.int (1 : Int32)), .unset, .unset] [(.ref a_BOTH)])) _
          refine XS.iload X87.here hx rfl (hb hby at_61) rfl ?_
          show Steps p.tables e below (T87.setTop (mkF m 63 #[.val (.int i0), .val (.int i1), .val (.int i2), .val (.ref a_BOTH), .val (.int (1 : Int32)), .val (.int (0 : Int32)), .val (.int (0 : Int32)), .val (.int (1 : Int32)), .unset, .unset] [(.int (0 : Int32)), (.ref a_BOTH)])) _
          refine st88.trans ?_
          show Steps p.tables e below (T88.setTop (mkF m 66 #[.val (.int i0), .val (.int i1), .val (.int i2), .val (.ref a_BOTH), .val (.int (1 : Int32)), .val (.int (0 : Int32)), .val (.int (0 : Int32)), .val (.int (1 : Int32)), .unset, .unset] [(.ref a_TO)])) _
          refine st89.trans ?_
          show Steps p.tables e below (T89.setTop (mkF m 69 #[.val (.int i0), .val (.int i1), .val (.int i2), .val (.ref a_BOTH), .val (.int (1 : Int32)), .val (.int (0 : Int32)), .val (.int (0 : Int32)), .val (.int (1 : Int32)), .unset, .unset] [(.int (0 : Int32))])) _
          refine XS.iload X89.here hx rfl (hb hby at_69) rfl ?_
          show Steps p.tables e below (T89.setTop (mkF m 71 #[.val (.int i0), .val (.int i1), .val (.int i2), .val (.ref a_BOTH), .val (.int (1 : Int32)), .val (.int (0 : Int32)), .val (.int (0 : Int32)), .val (.int (1 : Int32)), .unset, .unset] [(.int (0 : Int32)), (.int (0 : Int32))])) _
          refine XS.icmpNo X89.here hx rfl (hb hby at_71) rfl (by decide) ?_
          show Steps p.tables e below (T89.setTop (mkF m 74 #[.val (.int i0), .val (.int i1), .val (.int i2), .val (.ref a_BOTH), .val (.int (1 : Int32)), .val (.int (0 : Int32)), .val (.int (0 : Int32)), .val (.int (1 : Int32)), .unset, .unset] [])) _
          refine XS.iconst X89.here hx rfl (hb hby at_74) ?_
          show Steps p.tables e below (T89.setTop (mkF m 75 #[.val (.int i0), .val (.int i1), .val (.int i2), .val (.ref a_BOTH), .val (.int (1 : Int32)), .val (.int (0 : Int32)), .val (.int (0 : Int32)), .val (.int (1 : Int32)), .unset, .unset] [(.int (1 : Int32))])) _
          refine XS.goto X89.here hx rfl (pc0 := 75) (pc' := 79) rfl (hb hby at_75) (by decide) (by decide) ?_
          show Steps p.tables e below (T89.setTop (mkF m 79 #[.val (.int i0), .val (.int i1), .val (.int i2), .val (.ref a_BOTH), .val (.int (1 : Int32)), .val (.int (0 : Int32)), .val (.int (0 : Int32)), .val (.int (1 : Int32)), .unset, .unset] [(.int (1 : Int32))])) _
          refine XS.istore X89.here hx rfl (hb hby at_79) rfl (l' := #[.val (.int i0), .val (.int i1), .val (.int i2), .val (.ref a_BOTH), .val (.int (1 : Int32)), .val (.int (0 : Int32)), .val (.int (0 : Int32)), .val (.int (1 : Int32)), .val (.int (1 : Int32)), .unset]) rfl ?_
          show Steps p.tables e below (T89.setTop (mkF m 81 #[.val (.int i0), .val (.int i1), .val (.int i2), .val (.ref a_BOTH), .val (.int (1 : Int32)), .val (.int (0 : Int32)), .val (.int (0 : Int32)), .val (.int (1 : Int32)), .val (.int (1 : Int32)), .unset] [])) _
          refine XS.aloadN X89.here hx rfl (hb hby at_81) rfl rfl ?_
          show Steps p.tables e below (T89.setTop (mkF m 82 #[.val (.int i0), .val (.int i1), .val (.int i2), .val (.ref a_BOTH), .val (.int (1 : Int32)), .val (.int (0 : Int32)), .val (.int (0 : Int32)), .val (.int (1 : Int32)), .val (.int (1 : Int32)), .unset] [(.ref a_BOTH)])) _
          refine XS.iload X89.here hx rfl (hb hby at_82) rfl ?_
          show Steps p.tables e below (T89.setTop (mkF m 84 #[.val (.int i0), .val (.int i1), .val (.int i2), .val (.ref a_BOTH), .val (.int (1 : Int32)), .val (.int (0 : Int32)), .val (.int (0 : Int32)), .val (.int (1 : Int32)), .val (.int (1 : Int32)), .unset] [(.int (0 : Int32)), (.ref a_BOTH)])) _
          refine st90.trans ?_
          show Steps p.tables e below (T90.setTop (mkF m 87 #[.val (.int i0), .val (.int i1), .val (.int i2), .val (.ref a_BOTH), .val (.int (1 : Int32)), .val (.int (0 : Int32)), .val (.int (0 : Int32)), .val (.int (1 : Int32)), .val (.int (1 : Int32)), .unset] [(.ref a_FROM)])) _
          refine st91.trans ?_
          show Steps p.tables e below (T91.setTop (mkF m 90 #[.val (.int i0), .val (.int i1), .val (.int i2), .val (.ref a_BOTH), .val (.int (1 : Int32)), .val (.int (0 : Int32)), .val (.int (0 : Int32)), .val (.int (1 : Int32)), .val (.int (1 : Int32)), .unset] [(.int (1 : Int32))])) _
          refine XS.iload X91.here hx rfl (hb hby at_90) rfl ?_
          show Steps p.tables e below (T91.setTop (mkF m 92 #[.val (.int i0), .val (.int i1), .val (.int i2), .val (.ref a_BOTH), .val (.int (1 : Int32)), .val (.int (0 : Int32)), .val (.int (0 : Int32)), .val (.int (1 : Int32)), .val (.int (1 : Int32)), .unset] [(.int (1 : Int32)), (.int (1 : Int32))])) _
          refine XS.icmpNo X91.here hx rfl (hb hby at_92) rfl (by decide) ?_
          show Steps p.tables e below (T91.setTop (mkF m 95 #[.val (.int i0), .val (.int i1), .val (.int i2), .val (.ref a_BOTH), .val (.int (1 : Int32)), .val (.int (0 : Int32)), .val (.int (0 : Int32)), .val (.int (1 : Int32)), .val (.int (1 : Int32)), .unset] [])) _
          refine XS.iconst X91.here hx rfl (hb hby at_95) ?_
          show Steps p.tables e below (T91.setTop (mkF m 96 #[.val (.int i0), .val (.int i1), .val (.int i2), .val (.ref a_BOTH), .val (.int (1 : Int32)), .val (.int (0 : Int32)), .val (.int (0 : Int32)), .val (.int (1 : Int32)), .val (.int (1 : Int32)), .unset] [(.int (1 : Int32))])) _
          refine XS.goto X91.here hx rfl (pc0 := 96) (pc' := 100) rfl (hb hby at_96) (by decide) (by decide) ?_
          show Steps p.tables e below (T91.setTop (mkF m 100 #[.val (.int i0), .val (.int i1), .val (.int i2), .val (.ref a_BOTH), .val (.int (1 : Int32)), .val (.int (0 : Int32)), .val (.int (0 : Int32)), .val (.int (1 : Int32)), .val (.int (1 : Int32)), .unset] [(.int (1 : Int32))])) _
          refine XS.istore X91.here hx rfl (hb hby at_100) rfl (l' := #[.val (.int i0), .val (.int i1), .val (.int i2), .val (.ref a_BOTH), .val (.int (1 : Int32)), .val (.int (0 : Int32)), .val (.int (0 : Int32)), .val (.int (1 : Int32)), .val (.int (1 : Int32)), .val (.int (1 : Int32))]) rfl ?_
          show Steps p.tables e below (T91.setTop (mkF m 102 #[.val (.int i0), .val (.int i1), .val (.int i2), .val (.ref a_BOTH), .val (.int (1 : Int32)), .val (.int (0 : Int32)), .val (.int (0 : Int32)), .val (.int (1 : Int32)), .val (.int (1 : Int32)), .val (.int (1 : Int32))] [])) _
          refine XS.iload X91.here hx rfl (hb hby at_102) rfl ?_
          show Steps p.tables e below (T91.setTop (mkF m 104 #[.val (.int i0), .val (.int i1), .val (.int i2), .val (.ref a_BOTH), .val (.int (1 : Int32)), .val (.int (0 : Int32)), .val (.int (0 : Int32)), .val (.int (1 : Int32)), .val (.int (1 : Int32)), .val (.int (1 : Int32))] [(.int (1 : Int32))])) _
          refine XS.ifNo X91.here hx rfl (hb hby at_104) rfl (by decide) ?_
          show Steps p.tables e below (T91.setTop (mkF m 107 #[.val (.int i0), .val (.int i1), .val (.int i2), .val (.ref a_BOTH), .val (.int (1 : Int32)), .val (.int (0 : Int32)), .val (.int (0 : Int32)), .val (.int (1 : Int32)), .val (.int (1 : Int32)), .val (.int (1 : Int32))] [])) _
          refine XS.iload X91.here hx rfl (hb hby at_107) rfl ?_
          show Steps p.tables e below (T91.setTop (mkF m 109 #[.val (.int i0), .val (.int i1), .val (.int i2), .val (.ref a_BOTH), .val (.int (1 : Int32)), .val (.int (0 : Int32)), .val (.int (0 : Int32)), .val (.int (1 : Int32)), .val (.int (1 : Int32)), .val (.int (1 : Int32))] [(.int (1 : Int32))])) _
          refine XS.ifNo X91.here hx rfl (hb hby at_109) rfl (by decide) ?_
          show Steps p.tables e below (T91.setTop (mkF m 112 #[.val (.int i0), .val (.int i1), .val (.int i2), .val (.ref a_BOTH), .val (.int (1 : Int32)), .val (.int (0 : Int32)), .val (.int (0 : Int32)), .val (.int (1 : Int32)), .val (.int (1 : Int32)), .val (.int (1 : Int32))] [])) _
          refine XS.iload X91.here hx rfl (hb hby at_112) rfl ?_
          show Steps p.tables e below (T91.setTop (mkF m 114 #[.val (.int i0), .val (.int i1), .val (.int i2), .val (.ref a_BOTH), .val (.int (1 : Int32)), .val (.int (0 : Int32)), .val (.int (0 : Int32)), .val (.int (1 : Int32)), .val (.int (1 : Int32)), .val (.int (1 : Int32))] [(.int (1 : Int32))])) _
          refine XS.ifNo X91.here hx rfl (hb hby at_114) rfl (by decide) ?_
          show Steps p.tables e below (T91.setTop (mkF m 117 #[.val (.int i0), .val (.int i1), .val (.int i2), .val (.ref a_BOTH), .val (.int (1 : Int32)), .val (.int (0 : Int32)), .val (.int (0 : Int32)), .val (.int (1 : Int32)), .val (.int (1 : Int32)), .val (.int (1 : Int32))] [])) _
          refine XS.iconst X91.here hx rfl (hb hby at_117) ?_
          show Steps p.tables e below (T91.setTop (mkF m 118 #[.val (.int i0), .val (.int i1), .val (.int i2), .val (.ref a_BOTH), .val (.int (1 : Int32)), .val (.int (0 : Int32)), .val (.int (0 : Int32)), .val (.int (1 : Int32)), .val (.int (1 : Int32)), .val (.int (1 : Int32))] [(.int (1 : Int32))])) _
          refine XS.goto X91.here hx rfl (pc0 := 118) (pc' := 122) rfl (hb hby at_118) (by decide) (by decide) ?_
          show Steps p.tables e below (T91.setTop (mkF m 122 #[.val (.int i0), .val (.int i1), .val (.int i2), .val (.ref a_BOTH), .val (.int (1 : Int32)), .val (.int (0 : Int32)), .val (.int (0 : Int32)), .val (.int (1 : Int32)), .val (.int (1 : Int32)), .val (.int (1 : Int32))] [(.int (1 : Int32))])) _
          exact retN X91 hx (t := .boolean) Bd.returns (by simp) (hb hby at_122) hr
        · show QL n0 _ T91.heap _
          rw [hh91]
          exact ⟨rfl, N91⟩
      · skip
        obtain ⟨cq92, kq92, q92a, q92b, q92c⟩ := isOf hZ hh82 (Exa.ext O0.2 X_a_BOTH)
        obtain ⟨_, _, ⟨T92, L92, k92, n92⟩, -, X92, ⟨Lc92, hQ92, l92, y92, z92⟩, st92⟩ := X82.virtualBack hx (y := (⟨"com/example/carbonfold/carbonfold/model/RosterItem$Subscription", "hasFrom", "()Z"⟩ : MethodName)) (z := (⟨"com/example/carbonfold/carbonfold/model/RosterItem$Subscription", "hasFrom", "()Z"⟩ : MethodName)) hown (mvT hZ (hw _ (List.mem_of_getElem? (i := 7) rfl))) (mvT hZ (hw _ (List.mem_of_getElem? (i := 8) rfl))) (notFace_of_selects (args := #[]) (mvT hZ (hw _ (List.mem_of_getElem? (i := 10) rfl)))) (mvT hZ (hw _ (List.mem_of_getElem? (i := 10) rfl))) (mvT hZ (hw _ (List.mem_of_getElem? (i := 9) rfl))) (by decide) (backOf (W := 0) (rm_hasFrom_18 l Z a0 hw [] a_NONE a_FROM a_BOTH a_TO h0 n0 O0 En) hZ (hw _ (List.mem_of_getElem? (i := 11) rfl)) (hw _ (List.mem_of_getElem? (i := 5) rfl)) (by decide) (by decide)) q92a q92c (g := (mkF m 45 #[.val (.int i0), .val (.int i1), .val (.int i2), .val (.ref a_BOTH), .val (.int (1 : Int32)), .val (.int (0 : Int32)), .val (.int (1 : Int32)), .unset, .unset, .unset] [(.ref a_BOTH)])) rfl (by rw [hml]; rfl) (Steps.refl _) (argsL := []) (rest := []) (lenOf pd_1 rfl) rfl (by show 2 * 0 + _ ≤ _; exact Nat.le_of_eq rfl) (hb hby at_45) (fun _ _ => ⟨rfl, hh82, (by decide : 0 + 0 ≤ _), (by decide : 0 + 0 ≤ _)⟩)
        dsimp only [Pt.U, Pt.locs, Pt.cells, Pt.slots] at X92 l92 y92 z92 st92 hQ92
        subst l92 y92 z92
        obtain ⟨rfl, N92q, hh92⟩ := hQ92
        have N92 := Fr.app N82 N92q
        obtain ⟨cq93, kq93, q93a, q93b, q93c⟩ := isOf hZ hh92 (Exa.ext O0.2 X_a_BOTH)
        obtain ⟨_, _, ⟨T93, L93, k93, n93⟩, -, X93, ⟨Lc93, hQ93, l93, y93, z93⟩, st93⟩ := X92.virtualBack hx (y := (⟨"com/example/carbonfold/carbonfold/model/RosterItem$Subscription", "withFrom", "(Z)Lcom/example/carbonfold/carbonfold/model/RosterItem$Subscription;"⟩ : MethodName)) (z := (⟨"com/example/carbonfold/carbonfold/model/RosterItem$Subscription", "withFrom", "(Z)Lcom/example/carbonfold/carbonfold/model/RosterItem$Subscription;"⟩ : MethodName)) hown (mvT hZ (hw _ (List.mem_of_getElem? (i := 16) rfl))) (mvT hZ (hw _ (List.mem_of_getElem? (i := 17) rfl))) (notFace_of_selects (args := #[]) (mvT hZ (hw _ (List.mem_of_getElem? (i := 19) rfl)))) (mvT hZ (hw _ (List.mem_of_getElem? (i := 19) rfl))) (mvT hZ (hw _ (List.mem_of_getElem? (i := 18) rfl))) (by decide) (backOf (W := 0) (rm_withFrom_24 l Z a0 hw [] a_NONE a_FROM a_BOTH a_TO h0 n0 O0 En) hZ (hw _ (List.mem_of_getElem? (i := 20) rfl)) (hw _ (List.mem_of_getElem? (i := 5) rfl)) (by decide) (by decide)) q93a q93c (g := (mkF m 63 #[.val (.int i0), .val (.int i1), .val (.int i2), .val (.ref a_BOTH), .val (.int (1 : Int32)), .val (.int (0 : Int32)), .val (.int (1 : Int32)), .val (.int (1 : Int32)), .unset, .unset] [(.int (0 : Int32)), (.ref a_BOTH)])) rfl (by rw [hml]; rfl) (Steps.refl _) (argsL := [(.int (0 : Int32))]) (rest := []) (lenOf pd_3 rfl) rfl (by show 2 * 0 + _ ≤ _; exact Nat.le_of_eq rfl) (hb hby at_63) (fun _ _ => ⟨rfl, hh92, (by decide : 0 + 0 ≤ _), (by decide : 0 + 0 ≤ _)⟩)
        dsimp only [Pt.U, Pt.locs, Pt.cells, Pt.slots] at X93 l93 y93 z93 st93 hQ93
        subst l93 y93 z93
        obtain ⟨rfl, N93q, hh93⟩ := hQ93
        have N93 := Fr.app N92 N93q
        obtain ⟨cq94, kq94, q94a, q94b, q94c⟩ := isOf hZ hh93 (Exa.ext O0.2 X_a_TO)
        obtain ⟨_, _, ⟨T94, L94, k94, n94⟩, -, X94, ⟨Lc94, hQ94, l94, y94, z94⟩, st94⟩ := X93.virtualBack hx (y := (⟨"com/example/carbonfold/carbonfold/model/RosterItem$Subscription", "hasFrom", "()Z"⟩ : MethodName)) (z := (⟨"com/example/carbonfold/carbonfold/model/RosterItem$Subscription", "hasFrom", "()Z"⟩ : MethodName)) hown (mvT hZ (hw _ (List.mem_of_getElem? (i := 7) rfl))) (mvT hZ (hw _ (List.mem_of_getElem? (i := 8) rfl))) (notFace_of_selects (args := #[]) (mvT hZ (hw _ (List.mem_of_getElem? (i := 10) rfl)))) (mvT hZ (hw _ (List.mem_of_getElem? (i := 10) rfl))) (mvT hZ (hw _ (List.mem_of_getElem? (i := 9) rfl))) (by decide) (backOf (W := 0) (rm_hasFrom_8 l Z a0 hw [] a_NONE a_FROM a_BOTH a_TO h0 n0 O0 En) hZ (hw _ (List.mem_of_getElem? (i := 11) rfl)) (hw _ (List.mem_of_getElem? (i := 5) rfl)) (by decide) (by decide)) q94a q94c (g := (mkF m 66 #[.val (.int i0), .val (.int i1), .val (.int i2), .val (.ref a_BOTH), .val (.int (1 : Int32)), .val (.int (0 : Int32)), .val (.int (1 : Int32)), .val (.int (1 : Int32)), .unset, .unset] [(.ref a_TO)])) rfl (by rw [hml]; rfl) (Steps.refl _) (argsL := []) (rest := []) (lenOf pd_1 rfl) rfl (by show 2 * 0 + _ ≤ _; exact Nat.le_of_eq rfl) (hb hby at_66) (fun _ _ => ⟨rfl, hh93, (by decide : 0 + 0 ≤ _), (by decide : 0 + 0 ≤ _)⟩)
        dsimp only [Pt.U, Pt.locs, Pt.cells, Pt.slots] at X94 l94 y94 z94 st94 hQ94
        subst l94 y94 z94
        obtain ⟨rfl, N94q, hh94⟩ := hQ94
        have N94 := Fr.app N93 N94q
        obtain ⟨cq95, kq95, q95a, q95b, q95c⟩ := isOf hZ hh94 (Exa.ext O0.2 X_a_BOTH)
        obtain ⟨_, _, ⟨T95, L95, k95, n95⟩, -, X95, ⟨Lc95, hQ95, l95, y95, z95⟩, st95⟩ := X94.virtualBack hx (y := (⟨"com/example/carbonfold/carbonfold/model/RosterItem$Subscription", "withTo", "(Z)Lcom/example/carbonfold/carbonfold/model/RosterItem$Subscription;"⟩ : MethodName)) (z := (⟨"com/example/carbonfold/carbonfold/model/RosterItem$Subscription", "withTo", "(Z)Lcom/example/carbonfold/carbonfold/model/RosterItem$Subscription;"⟩ : MethodName)) hown (mvT hZ (hw _ (List.mem_of_getElem? (i := 31) rfl))) (mvT hZ (hw _ (List.mem_of_getElem? (i := 32) rfl))) (notFace_of_selects (args := #[]) (mvT hZ (hw _ (List.mem_of_getElem? (i := 34) rfl)))) (mvT hZ (hw _ (List.mem_of_getElem? (i := 34) rfl))) (mvT hZ (hw _ (List.mem_of_getElem? (i := 33) rfl))) (by decide) (backOf (W := 0) (rm_withTo_27 l Z a0 hw [] a_NONE a_FROM a_BOTH a_TO h0 n0 O0 En) hZ (hw _ (List.mem_of_getElem? (i := 35) rfl)) (hw _ (List.mem_of_getElem? (i := 5) rfl)) (by decide) (by decide)) q95a q95c (g := (mkF m 84 #[.val (.int i0), .val (.int i1), .val (.int i2), .val (.ref a_BOTH), .val (.int (1 : Int32)), .val (.int (0 : Int32)), .val (.int (1 : Int32)), .val (.int (1 : Int32)), .val (.int (1 : Int32)), .unset] [(.int (1 : Int32)), (.ref a_BOTH)])) rfl (by rw [hml]; rfl) (Steps.refl _) (argsL := [(.int (1 : Int32))]) (rest := []) (lenOf pd_3 rfl) rfl (by show 2 * 0 + _ ≤ _; exact Nat.le_of_eq rfl) (hb hby at_84) (fun _ _ => ⟨rfl, hh94, (by decide : 0 + 0 ≤ _), (by decide : 0 + 0 ≤ _)⟩)
        dsimp only [Pt.U, Pt.locs, Pt.cells, Pt.slots] at X95 l95 y95 z95 st95 hQ95
        subst l95 y95 z95
        obtain ⟨rfl, N95q, hh95⟩ := hQ95
        have N95 := Fr.app N94 N95q
        obtain ⟨cq96, kq96, q96a, q96b, q96c⟩ := isOf hZ hh95 (Exa.ext O0.2 X_a_BOTH)
        obtain ⟨_, _, ⟨T96, L96, k96, n96⟩, -, X96, ⟨Lc96, hQ96, l96, y96, z96⟩, st96⟩ := X95.virtualBack hx (y := (⟨"com/example/carbonfold/carbonfold/model/RosterItem$Subscription", "hasFrom", "()Z"⟩ : MethodName)) (z := (⟨"com/example/carbonfold/carbonfold/model/RosterItem$Subscription", "hasFrom", "()Z"⟩ : MethodName)) hown (mvT hZ (hw _ (List.mem_of_getElem? (i := 7) rfl))) (mvT hZ (hw _ (List.mem_of_getElem? (i := 8) rfl))) (notFace_of_selects (args := #[]) (mvT hZ (hw _ (List.mem_of_getElem? (i := 10) rfl)))) (mvT hZ (hw _ (List.mem_of_getElem? (i := 10) rfl))) (mvT hZ (hw _ (List.mem_of_getElem? (i := 9) rfl))) (by decide) (backOf (W := 0) (rm_hasFrom_18 l Z a0 hw [] a_NONE a_FROM a_BOTH a_TO h0 n0 O0 En) hZ (hw _ (List.mem_of_getElem? (i := 11) rfl)) (hw _ (List.mem_of_getElem? (i := 5) rfl)) (by decide) (by decide)) q96a q96c (g := (mkF m 87 #[.val (.int i0), .val (.int i1), .val (.int i2), .val (.ref a_BOTH), .val (.int (1 : Int32)), .val (.int (0 : Int32)), .val (.int (1 : Int32)), .val (.int (1 : Int32)), .val (.int (1 : Int32)), .unset] [(.ref a_BOTH)])) rfl (by rw [hml]; rfl) (Steps.refl _) (argsL := []) (rest := []) (lenOf pd_1 rfl) rfl (by show 2 * 0 + _ ≤ _; exact Nat.le_of_eq rfl) (hb hby at_87) (fun _ _ => ⟨rfl, hh95, (by decide : 0 + 0 ≤ _), (by decide : 0 + 0 ≤ _)⟩)
        dsimp only [Pt.U, Pt.locs, Pt.cells, Pt.slots] at X96 l96 y96 z96 st96 hQ96
        subst l96 y96 z96
        obtain ⟨rfl, N96q, hh96⟩ := hQ96
        have N96 := Fr.app N95 N96q
        obtain ⟨fs, hr, hrun, hended, hW, hsame⟩ := X96.leave (v := some (.int (1 : Int32))) (fun h => by rw [Bd.returns] at h; cases h)
        refine ⟨_, _, pre85 _ ?_, hrun, hended, _, _, rfl, ?_, ⟨_, rfl⟩, hW, hsame.mono (by decide) (by decide)⟩
        · skip
          show Steps p.tables e below (T82.setTop (mkF m 34 #[.val (.int i0), .val (.int i1), .val (.int i2), .val (.ref a_BOTH), .val (.int (1 : Int32)), .val (.int (0 : Int32)), .unset, .unset, .unset, .unset] [(.int (i2 &&& (1 : Int32)))])) _
          rw [hk86]
          show Steps p.tables e below (T82.setTop (mkF m 34 #[.val (.int i0), .val (.int i1), .val (.int i2), .val (.ref a_BOTH), .val (.int (1 : Int32)), .val (.int (0 : Int32)), .unset, .unset, .unset, .unset] [(.int (1 : Int32))])) _
          refine XS.ifNo X82.here hx rfl (hb hby at_34) rfl (by decide) ?_
          show Steps p.tables e below (T82.setTop (mkF m 37 #[.val (.int i0), .val (.int i1), .val (.int i2), .val (.ref a_BOTH), .val (.int (1 : Int32)), .val (.int (0 : Int32)), .unset, .unset, .unset, .unset] [])) _
          refine XS.iconst X82.here hx rfl (hb hby at_37) ?_
          show Steps p.tables e below (T82.setTop (mkF m 38 #[.val (.int i0), .val (.int i1), .val (.int i2), .val (.ref a_BOTH), .val (.int (1 : Int32)), .val (.int (0 : Int32)), .unset, .unset, .unset, .unset] [(.int (1 : Int32))])) _
          refine XS.goto X82.here hx rfl (pc0 := 38) (pc' := 42) rfl (hb hby at_38) (by decide) (by decide) ?_
          show Steps p.tables e below (T82.setTop (mkF m 42 #[.val (.int i0), .val (.int i1), .val (.int i2), .val (.ref a_BOTH), .val (.int (1 : Int32)), .val (.int (0 : Int32)), .unset, .unset, .unset, .unset] [(.int (1 : Int32))])) _
          refine XS.istore X82.here hx rfl (hb hby at_42) rfl (l' := #[.val (.int i0), .val (.int i1), .val (.int i2), .val (.ref a_BOTH), .val (.int (1 : Int32)), .val (.int (0 : Int32)), .val (.int (1 : Int32)), .unset, .unset, .unset]) rfl ?_
          show Steps p.tables e below (T82.setTop (mkF m 44 #[.val (.int i0), .val (.int i1), .val (.int i2), .val (.ref a_BOTH), .val (.int (1 : Int32)), .val (.int (0 : Int32)), .val (.int (1 : Int32)), .unset, .unset, .unset] [])) _
          refine XS.aloadN X82.here hx rfl (hb hby at_44) rfl rfl ?_
          show Steps p.tables e below (T82.setTop (mkF m 45 #[.val (.int i0), .val (.int i1), .val (.int i2), .val (.ref a_BOTH), .val (.int (1 : Int32)), .val (.int (0 : Int32)), .val (.int (1 : Int32)), .unset, .unset, .unset] [(.ref a_BOTH)])) _
          refine st92.trans ?_
          show Steps p.tables e below (T92.setTop (mkF m 48 #[.val (.int i0), .val (.int i1), .val (.int i2), .val (.ref a_BOTH), .val (.int (1 : Int32)), .val (.int (0 : Int32)), .val (.int (1 : Int32)), .unset, .unset, .unset] [(.int (1 : Int32))])) _
          refine XS.iload X92.here hx rfl (hb hby at_48) rfl ?_
          show Steps p.tables e below (T92.setTop (mkF m 50 #[.val (.int i0), .val (.int i1), .val (.int i2), .val (.ref a_BOTH), .val (.int (1 : Int32)), .val (.int (0 : Int32)), .val (.int (1 : Int32)), .unset, .unset, .unset] [(.int (1 : Int32)), (.int (1 : Int32))])) _
          refine XS.icmpNo X92.here hx rfl (hb hby at_50) rfl (by decide) ?_
          show Steps p.tables e below (T92.setTop (mkF m 53 #[.val (.int i0), .val (.int i1), .val (.int i2), .val (.ref a_BOTH), .val (.int (1 : Int32)), .val (.int (0 : Int32)), .val (.int (1 : Int32)), .unset, .unset, .unset] [])) _
          refine XS.iconst X92.here hx rfl (hb hby at_53) ?_
          show Steps p.tables e below (T92.setTop (mkF m 54 #[.val (.int i0), .val (.int i1), .val (.int i2), .val (.ref a_BOTH), .val (.int (1 : Int32)), .val (.int (0 : Int32)), .val (.int (1 : Int32)), .unset, .unset, .unset] [(.int (1 : Int32))])) _
          refine XS.goto X92.here hx rfl (pc0 := 54) (pc' := 58) rfl (hb hby at_54) (by decide) (by decide) ?_
          show Steps p.tables e below (T92.setTop (mkF m 58 #[.val (.int i0), .val (.int i1), .val (.int i2), .val (.ref a_BOTH), .val (.int (1 : Int32)), .val (.int (0 : Int32)), .val (.int (1 : Int32)), .unset, .unset, .unset] [(.int (1 : Int32))])) _
          refine XS.istore X92.here hx rfl (hb hby at_58) rfl (l' := #[.val (.int i0), .val (.int i1), .val (.int i2), .val (.ref a_BOTH), .val (.int (1 : Int32)), .val (.int (0 : Int32)), .val (.int (1 : Int32)), .val (.int (1 : Int32)), .unset, .unset]) rfl ?_
          show Steps p.tables e below (T92.setTop (mkF m 60 #[.val (.int i0), .val (.int i1), .val (.int i2), .val (.ref a_BOTH), .val (.int (1 : Int32)), .val (.int (0 : Int32)), .val (.int (1 : Int32)), .val (.int (1 : Int32)), .unset, .unset] [])) _
          refine XS.aloadN X92.here hx rfl (hb hby at_60) rfl rfl ?_
          show Steps p.tables e below (T92.setTop (mkF m 61 #[.val (.int i0), .val (.int i1), .val (.int i2), .val (.ref a_BOTH), .val (.int (1 : Int32)), .val (.int (0 : Int32)), .val (.int (1 : Int32)), .val (.int (1 : Int32)), .unset, .unset] [(.ref a_BOTH)])) _
          refine XS.iload X92.here hx rfl (hb hby at_61) rfl ?_
          show Steps p.tables e below (T92.setTop (mkF m 63 #[.val (.int i0), .val (.int i1), .val (.int i2), .val (.ref a_BOTH), .val (.int (1 : Int32)), .val (.int (0 : Int32)), .val (.int (1 : Int32)), .val (.int (1 : Int32)), .unset, .unset] [(.int (0 : Int32)), (.ref a_BOTH)])) _
          refine st93.trans ?_
          show Steps p.tables e below (T93.setTop (mkF m 66 #[.val (.int i0), .val (.int i1), .val (.int i2), .val (.ref a_BOTH), .val (.int (1 : Int32)), .val (.int (0 : Int32)), .val (.int (1 : Int32)), .val (.int (1 : Int32)), .unset, .unset] [(.ref a_TO)])) _
          refine st94.trans ?_
          show Steps p.tables e below (T94.setTop (mkF m 69 #[.val (.int i0), .val (.int i1), .val (.int i2), .val (.ref a_BOTH), .val (.int (1 : Int32)), .val (.int (0 : Int32)), .val (.int (1 : Int32)), .val (.int (1 : Int32)), .unset, .unset] [(.int (0 : Int32))])) _
          refine XS.iload X94.here hx rfl (hb hby at_69) rfl ?_
          show Steps p.tables e below (T94.setTop (mkF m 71 #[.val (.int i0), .val (.int i1), .val (.int i2), .val (.ref a_BOTH), .val (.int (1 : Int32)), .val (.int (0 : Int32)), .val (.int (1 : Int32)), .val (.int (1 : Int32)), .unset, .unset] [(.int (0 : Int32)), (.int (0 : Int32))])) _
          refine XS.icmpNo X94.here hx rfl (hb hby at_71) rfl (by decide) ?_
          show Steps p.tables e below (T94.setTop (mkF m 74 #[.val (.int i0), .val (.int i1), .val (.int i2), .val (.ref a_BOTH), .val (.int (1 : Int32)), .val (.int (0 : Int32)), .val (.int (1 : Int32)), .val (.int (1 : Int32)), .unset, .unset] [])) _
          refine XS.iconst X94.here hx rfl (hb hby at_74) ?_
          show Steps p.tables e below (T94.setTop (mkF m 75 #[.val (.int i0), .val (.int i1), .val (.int i2), .val (.ref a_BOTH), .val (.int (1 : Int32)), .val (.int (0 : Int32)), .val (.int (1 : Int32)), .val (.int (1 : Int32)), .unset, .unset] [(.int (1 : Int32))])) _
          refine XS.goto X94.here hx rfl (pc0 := 75) (pc' := 79) rfl (hb hby at_75) (by decide) (by decide) ?_
          show Steps p.tables e below (T94.setTop (mkF m 79 #[.val (.int i0), .val (.int i1), .val (.int i2), .val (.ref a_BOTH), .val (.int (1 : Int32)), .val (.int (0 : Int32)), .val (.int (1 : Int32)), .val (.int (1 : Int32)), .unset, .unset] [(.int (1 : Int32))])) _
          refine XS.istore X94.here hx rfl (hb hby at_79) rfl (l' := #[.val (.int i0), .val (.int i1), .val (.int i2), .val (.ref a_BOTH), .val (.int (1 : Int32)), .val (.int (0 : Int32)), .val (.int (1 : Int32)), .val (.int (1 : Int32)), .val (.int (1 : Int32)), .unset]) rfl ?_
          show Steps p.tables e below (T94.setTop (mkF m 81 #[.val (.int i0), .val (.int i1), .val (.int i2), .val (.ref a_BOTH), .val (.int (1 : Int32)), .val (.int (0 : Int32)), .val (.int (1 : Int32)), .val (.int (1 : Int32)), .val (.int (1 : Int32)), .unset] [])) _
          refine XS.aloadN X94.here hx rfl (hb hby at_81) rfl rfl ?_
          show Steps p.tables e below (T94.setTop (mkF m 82 #[.val (.int i0), .val (.int i1), .val (.int i2), .val (.ref a_BOTH), .val (.int (1 : Int32)), .val (.int (0 : Int32)), .val (.int (1 : Int32)), .val (.int (1 : Int32)), .val (.int (1 : Int32)), .unset] [(.ref a_BOTH)])) _
          refine XS.iload X94.here hx rfl (hb hby at_82) rfl ?_
          show Steps p.tables e below (T94.setTop (mkF m 84 #[.val (.int i0), .val (.int i1), .val (.int i2), .val (.ref a_BOTH), .val (.int (1 : Int32)), .val (.int (0 : Int32)), .val (.int (1 : Int32)), .val (.int (1 : Int32)), .val (.int (1 : Int32)), .unset] [(.int (1 : Int32)), (.ref a_BOTH)])) _
          refine st95.trans ?_
          show Steps p.tables e below (T95.setTop (mkF m 87 #[.val (.int i0), .val (.int i1), .val (.int i2), .val (.ref a_BOTH), .val (.int (1 : Int32)), .val (.int (0 : Int32)), .val (.int (1 : Int32)), .val (.int (1 : Int32)), .val (.int (1 : Int32)), .unset] [(.ref a_BOTH)])) _
          refine st96.trans ?_
          show Steps p.tables e below (T96.setTop (mkF m 90 #[.val (.int i0), .val (.int i1), .val (.int i2), .val (.ref a_BOTH), .val (.int (1 : Int32)), .val (.int (0 : Int32)), .val (.int (1 : Int32)), .val (.int (1 : Int32)), .val (.int (1 : Int32)), .unset] [(.int (1 : Int32))])) _
          refine XS.iload X96.here hx rfl (hb hby at_90) rfl ?_
          show Steps p.tables e below (T96.setTop (mkF m 92 #[.val (.int i0), .val (.int i1), .val (.int i2), .val (.ref a_BOTH), .val (.int (1 : Int32)), .val (.int (0 : Int32)), .val (.int (1 : Int32)), .val (.int (1 : Int32)), .val (.int (1 : Int32)), .unset] [(.int (1 : Int32)), (.int (1 : Int32))])) _
          refine XS.icmpNo X96.here hx rfl (hb hby at_92) rfl (by decide) ?_
          show Steps p.tables e below (T96.setTop (mkF m 95 #[.val (.int i0), .val (.int i1), .val (.int i2), .val (.ref a_BOTH), .val (.int (1 : Int32)), .val (.int (0 : Int32)), .val (.int (1 : Int32)), .val (.int (1 : Int32)), .val (.int (1 : Int32)), .unset] [])) _
          refine XS.iconst X96.here hx rfl (hb hby at_95) ?_
          show Steps p.tables e below (T96.setTop (mkF m 96 #[.val (.int i0), .val (.int i1), .val (.int i2), .val (.ref a_BOTH), .val (.int (1 : Int32)), .val (.int (0 : Int32)), .val (.int (1 : Int32)), .val (.int (1 : Int32)), .val (.int (1 : Int32)), .unset] [(.int (1 : Int32))])) _
          refine XS.goto X96.here hx rfl (pc0 := 96) (pc' := 100) rfl (hb hby at_96) (by decide) (by decide) ?_
          show Steps p.tables e below (T96.setTop (mkF m 100 #[.val (.int i0), .val (.int i1), .val (.int i2), .val (.ref a_BOTH), .val (.int (1 : Int32)), .val (.int (0 : Int32)), .val (.int (1 : Int32)), .val (.int (1 : Int32)), .val (.int (1 : Int32)), .unset] [(.int (1 : Int32))])) _
          refine XS.istore X96.here hx rfl (hb hby at_100) rfl (l' := #[.val (.int i0), .val (.int i1), .val (.int i2), .val (.ref a_BOTH), .val (.int (1 : Int32)), .val (.int (0 : Int32)), .val (.int (1 : Int32)), .val (.int (1 : Int32)), .val (.int (1 : Int32)), .val (.int (1 : Int32))]) rfl ?_
          show Steps p.tables e below (T96.setTop (mkF m 102 #[.val (.int i0), .val (.int i1), .val (.int i2), .val (.ref a_BOTH), .val (.int (1 : Int32)), .val (.int (0 : Int32)), .val (.int (1 : Int32)), .val (.int (1 : Int32)), .val (.int (1 : Int32)), .val (.int (1 : Int32))] [])) _
          refine XS.iload X96.here hx rfl (hb hby at_102) rfl ?_
          show Steps p.tables e below (T96.setTop (mkF m 104 #[.val (.int i0), .val (.int i1), .val (.int i2), .val (.ref a_BOTH), .val (.int (1 : Int32)), .val (.int (0 : Int32)), .val (.int (1 : Int32)), .val (.int (1 : Int32)), .val (.int (1 : Int32)), .val (.int (1 : Int32))] [(.int (1 : Int32))])) _
          refine XS.ifNo X96.here hx rfl (hb hby at_104) rfl (by decide) ?_
          show Steps p.tables e below (T96.setTop (mkF m 107 #[.val (.int i0), .val (.int i1), .val (.int i2), .val (.ref a_BOTH), .val (.int (1 : Int32)), .val (.int (0 : Int32)), .val (.int (1 : Int32)), .val (.int (1 : Int32)), .val (.int (1 : Int32)), .val (.int (1 : Int32))] [])) _
          refine XS.iload X96.here hx rfl (hb hby at_107) rfl ?_
          show Steps p.tables e below (T96.setTop (mkF m 109 #[.val (.int i0), .val (.int i1), .val (.int i2), .val (.ref a_BOTH), .val (.int (1 : Int32)), .val (.int (0 : Int32)), .val (.int (1 : Int32)), .val (.int (1 : Int32)), .val (.int (1 : Int32)), .val (.int (1 : Int32))] [(.int (1 : Int32))])) _
          refine XS.ifNo X96.here hx rfl (hb hby at_109) rfl (by decide) ?_
          show Steps p.tables e below (T96.setTop (mkF m 112 #[.val (.int i0), .val (.int i1), .val (.int i2), .val (.ref a_BOTH), .val (.int (1 : Int32)), .val (.int (0 : Int32)), .val (.int (1 : Int32)), .val (.int (1 : Int32)), .val (.int (1 : Int32)), .val (.int (1 : Int32))] [])) _
          refine XS.iload X96.here hx rfl (hb hby at_112) rfl ?_
          show Steps p.tables e below (T96.setTop (mkF m 114 #[.val (.int i0), .val (.int i1), .val (.int i2), .val (.ref a_BOTH), .val (.int (1 : Int32)), .val (.int (0 : Int32)), .val (.int (1 : Int32)), .val (.int (1 : Int32)), .val (.int (1 : Int32)), .val (.int (1 : Int32))] [(.int (1 : Int32))])) _
          refine XS.ifNo X96.here hx rfl (hb hby at_114) rfl (by decide) ?_
          show Steps p.tables e below (T96.setTop (mkF m 117 #[.val (.int i0), .val (.int i1), .val (.int i2), .val (.ref a_BOTH), .val (.int (1 : Int32)), .val (.int (0 : Int32)), .val (.int (1 : Int32)), .val (.int (1 : Int32)), .val (.int (1 : Int32)), .val (.int (1 : Int32))] [])) _
          refine XS.iconst X96.here hx rfl (hb hby at_117) ?_
          show Steps p.tables e below (T96.setTop (mkF m 118 #[.val (.int i0), .val (.int i1), .val (.int i2), .val (.ref a_BOTH), .val (.int (1 : Int32)), .val (.int (0 : Int32)), .val (.int (1 : Int32)), .val (.int (1 : Int32)), .val (.int (1 : Int32)), .val (.int (1 : Int32))] [(.int (1 : Int32))])) _
          refine XS.goto X96.here hx rfl (pc0 := 118) (pc' := 122) rfl (hb hby at_118) (by decide) (by decide) ?_
          show Steps p.tables e below (T96.setTop (mkF m 122 #[.val (.int i0), .val (.int i1), .val (.int i2), .val (.ref a_BOTH), .val (.int (1 : Int32)), .val (.int (0 : Int32)), .val (.int (1 : Int32)), .val (.int (1 : Int32)), .val (.int (1 : Int32)), .val (.int (1 : Int32))] [(.int (1 : Int32))])) _
          exact retN X96 hx (t := .boolean) Bd.returns (by simp) (hb hby at_122) hr
        · show QL n0 _ T96.heap _
          rw [hh96]
          exact ⟨rfl, N96⟩
    · skip
      have pre97 : ∀ t, Steps p.tables e below (T82.setTop (mkF m 34 #[.val (.int i0), .val (.int i1), .val (.int i2), .val (.ref a_BOTH), .val (.int (1 : Int32)), .val (.int (1 : Int32)), .unset, .unset, .unset, .unset] [(.int (i2 &&& (1 : Int32)))])) t → Steps p.tables e below (s₁.setTop (entryFrame m #[(.int i0), (.int i1), (.int i2)] maxLocals)) t := fun t kt => pre83 t (by
          show Steps p.tables e below (T82.setTop (mkF m 21 #[.val (.int i0), .val (.int i1), .val (.int i2), .val (.ref a_BOTH), .val (.int (1 : Int32)), .unset, .unset, .unset, .unset, .unset] [(.int (i1 &&& (1 : Int32)))])) _
          rw [hk84]
          show Steps p.tables e below (T82.setTop (mkF m 21 #[.val (.int i0), .val (.int i1), .val (.int i2), .val (.ref a_BOTH), .val (.int (1 : Int32)), .unset, .unset, .unset, .unset, .unset] [(.int (1 : Int32))])) _
          refine XS.ifNo X82.here hx rfl (hb hby at_21) rfl (by decide) ?_
          show Steps p.tables e below (T82.setTop (mkF m 24 #[.val (.int i0), .val (.int i1), .val (.int i2), .val (.ref a_BOTH), .val (.int (1 : Int32)), .unset, .unset, .unset, .unset, .unset] [])) _
          refine XS.iconst X82.here hx rfl (hb hby at_24) ?_
          show Steps p.tables e below (T82.setTop (mkF m 25 #[.val (.int i0), .val (.int i1), .val (.int i2), .val (.ref a_BOTH), .val (.int (1 : Int32)), .unset, .unset, .unset, .unset, .unset] [(.int (1 : Int32))])) _
          refine XS.goto X82.here hx rfl (pc0 := 25) (pc' := 29) rfl (hb hby at_25) (by decide) (by decide) ?_
          show Steps p.tables e below (T82.setTop (mkF m 29 #[.val (.int i0), .val (.int i1), .val (.int i2), .val (.ref a_BOTH), .val (.int (1 : Int32)), .unset, .unset, .unset, .unset, .unset] [(.int (1 : Int32))])) _
          refine XS.istore X82.here hx rfl (hb hby at_29) rfl (l' := #[.val (.int i0), .val (.int i1), .val (.int i2), .val (.ref a_BOTH), .val (.int (1 : Int32)), .val (.int (1 : Int32)), .unset, .unset, .unset, .unset]) rfl ?_
          show Steps p.tables e below (T82.setTop (mkF m 31 #[.val (.int i0), .val (.int i1), .val (.int i2), .val (.ref a_BOTH), .val (.int (1 : Int32)), .val (.int (1 : Int32)), .unset, .unset, .unset, .unset] [])) _
          refine XS.iloadN X82.here hx rfl (hb hby at_31) rfl ?_
          show Steps p.tables e below (T82.setTop (mkF m 32 #[.val (.int i0), .val (.int i1), .val (.int i2), .val (.ref a_BOTH), .val (.int (1 : Int32)), .val (.int (1 : Int32)), .unset, .unset, .unset, .unset] [(.int i2)])) _
          refine XS.iconst X82.here hx rfl (hb hby at_32) ?_
          show Steps p.tables e below (T82.setTop (mkF m 33 #[.val (.int i0), .val (.int i1), .val (.int i2), .val (.ref a_BOTH), .val (.int (1 : Int32)), .val (.int (1 : Int32)), .unset, .unset, .unset, .unset] [(.int (1 : Int32)), (.int i2)])) _
          refine XS.iand X82.here hx rfl (hb hby at_33) rfl ?_
          exact kt)
      rcases own_b i2 with hk98 | hk98
      · skip
        obtain ⟨cq99, kq99, q99a, q99b, q99c⟩ := isOf hZ hh82 (Exa.ext O0.2 X_a_BOTH)
        obtain ⟨_, _, ⟨T99, L99, k99, n99⟩, -, X99, ⟨Lc99, hQ99, l99, y99, z99⟩, st99⟩ := X82.virtualBack hx (y := (⟨"com/example/carbonfold/carbonfold/model/RosterItem$Subscription", "hasFrom", "()Z"⟩ : MethodName)) (z := (⟨"com/example/carbonfold/carbonfold/model/RosterItem$Subscription", "hasFrom", "()Z"⟩ : MethodName)) hown (mvT hZ (hw _ (List.mem_of_getElem? (i := 7) rfl))) (mvT hZ (hw _ (List.mem_of_getElem? (i := 8) rfl))) (notFace_of_selects (args := #[]) (mvT hZ (hw _ (List.mem_of_getElem? (i := 10) rfl)))) (mvT hZ (hw _ (List.mem_of_getElem? (i := 10) rfl))) (mvT hZ (hw _ (List.mem_of_getElem? (i := 9) rfl))) (by decide) (backOf (W := 0) (rm_hasFrom_18 l Z a0 hw [] a_NONE a_FROM a_BOTH a_TO h0 n0 O0 En) hZ (hw _ (List.mem_of_getElem? (i := 11) rfl)) (hw _ (List.mem_of_getElem? (i := 5) rfl)) (by decide) (by decide)) q99a q99c (g := (mkF m 45 #[.val (.int i0), .val (.int i1), .val (.int i2), .val (.ref a_BOTH), .val (.int (1 : Int32)), .val (.int (1 : Int32)), .val (.int (0 : Int32)), .unset, .unset, .unset] [(.ref a_BOTH)])) rfl (by rw [hml]; rfl) (Steps.refl _) (argsL := []) (rest := []) (lenOf pd_1 rfl) rfl (by show 2 * 0 + _ ≤ _; exact Nat.le_of_eq rfl) (hb hby at_45) (fun _ _ => ⟨rfl, hh82, (by decide : 0 + 0 ≤ _), (by decide : 0 + 0 ≤ _)⟩)
        dsimp only [Pt.U, Pt.locs, Pt.cells, Pt.slots] at X99 l99 y99 z99 st99 hQ99
        subst l99 y99 z99
        obtain ⟨rfl, N99q, hh99⟩ := hQ99
        have N99 := Fr.app N82 N99q
        obtain ⟨cq100, kq100, q100a, q100b, q100c⟩ := isOf hZ hh99 (Exa.ext O0.2 X_a_BOTH)
        obtain ⟨_, _, ⟨T100, L100, k100, n100⟩, -, X100, ⟨Lc100, hQ100, l100, y100, z100⟩, st100⟩ := X99.virtualBack hx (y := (⟨"com/example/carbonfold/carbonfold/model/RosterItem$Subscription", "withFrom", "(Z)Lcom/example/carbonfold/carbonfold/model/RosterItem$Subscription;"⟩ : MethodName)) (z := (⟨"com/example/carbonfold/carbonfold/model/RosterItem$Subscription", "withFrom", "(Z)Lcom/example/carbonfold/carbonfold/model/RosterItem$Subscription;"⟩ : MethodName)) hown (mvT hZ (hw _ (List.mem_of_getElem? (i := 16) rfl))) (mvT hZ (hw _ (List.mem_of_getElem? (i := 17) rfl))) (notFace_of_selects (args := #[]) (mvT hZ (hw _ (List.mem_of_getElem? (i := 19) rfl)))) (mvT hZ (hw _ (List.mem_of_getElem? (i := 19) rfl))) (mvT hZ (hw _ (List.mem_of_getElem? (i := 18) rfl))) (by decide) (backOf (W := 0) (rm_withFrom_28 l Z a0 hw [] a_NONE a_FROM a_BOTH a_TO h0 n0 O0 En) hZ (hw _ (List.mem_of_getElem? (i := 20) rfl)) (hw _ (List.mem_of_getElem? (i := 5) rfl)) (by decide) (by decide)) q100a q100c (g := (mkF m 63 #[.val (.int i0), .val (.int i1), .val (.int i2), .val (.ref a_BOTH), .val (.int (1 : Int32)), .val (.int (1 : Int32)), .val (.int (0 : Int32)), .val (.int (1 : Int32)), .unset, .unset] [(.int (1 : Int32)), (.ref a_BOTH)])) rfl (by rw [hml]; rfl) (Steps.refl _) (argsL := [(.int (1 : Int32))]) (rest := []) (lenOf pd_3 rfl) rfl (by show 2 * 0 + _ ≤ _; exact Nat.le_of_eq rfl) (hb hby at_63) (fun _ _ => ⟨rfl, hh99, (by decide : 0 + 0 ≤ _), (by decide : 0 + 0 ≤ _)⟩)
        dsimp only [Pt.U, Pt.locs, Pt.cells, Pt.slots] at X100 l100 y100 z100 st100 hQ100
        subst l100 y100 z100
        obtain ⟨rfl, N100q, hh100⟩ := hQ100
        have N100 := Fr.app N99 N100q
        obtain ⟨cq101, kq101, q101a, q101b, q101c⟩ := isOf hZ hh100 (Exa.ext O0.2 X_a_BOTH)
        obtain ⟨_, _, ⟨T101, L101, k101, n101⟩, -, X101, ⟨Lc101, hQ101, l101, y101, z101⟩, st101⟩ := X100.virtualBack hx (y := (⟨"com/example/carbonfold/carbonfold/model/RosterItem$Subscription", "hasFrom", "()Z"⟩ : MethodName)) (z := (⟨"com/example/carbonfold/carbonfold/model/RosterItem$Subscription", "hasFrom", "()Z"⟩ : MethodName)) hown (mvT hZ (hw _ (List.mem_of_getElem? (i := 7) rfl))) (mvT hZ (hw _ (List.mem_of_getElem? (i := 8) rfl))) (notFace_of_selects (args := #[]) (mvT hZ (hw _ (List.mem_of_getElem? (i := 10) rfl)))) (mvT hZ (hw _ (List.mem_of_getElem? (i := 10) rfl))) (mvT hZ (hw _ (List.mem_of_getElem? (i := 9) rfl))) (by decide) (backOf (W := 0) (rm_hasFrom_18 l Z a0 hw [] a_NONE a_FROM a_BOTH a_TO h0 n0 O0 En) hZ (hw _ (List.mem_of_getElem? (i := 11) rfl)) (hw _ (List.mem_of_getElem? (i := 5) rfl)) (by decide) (by decide)) q101a q101c (g := (mkF m 66 #[.val (.int i0), .val (.int i1), .val (.int i2), .val (.ref a_BOTH), .val (.int (1 : Int32)), .val (.int (1 : Int32)), .val (.int (0 : Int32)), .val (.int (1 : Int32)), .unset, .unset] [(.ref a_BOTH)])) rfl (by rw [hml]; rfl) (Steps.refl _) (argsL := []) (rest := []) (lenOf pd_1 rfl) rfl (by show 2 * 0 + _ ≤ _; exact Nat.le_of_eq rfl) (hb hby at_66) (fun _ _ => ⟨rfl, hh100, (by decide : 0 + 0 ≤ _), (by decide : 0 + 0 ≤ _)⟩)
        dsimp only [Pt.U, Pt.locs, Pt.cells, Pt.slots] at X101 l101 y101 z101 st101 hQ101
        subst l101 y101 z101
        obtain ⟨rfl, N101q, hh101⟩ := hQ101
        have N101 := Fr.app N100 N101q
        obtain ⟨cq102, kq102, q102a, q102b, q102c⟩ := isOf hZ hh101 (Exa.ext O0.2 X_a_BOTH)
        obtain ⟨_, _, ⟨T102, L102, k102, n102⟩, -, X102, ⟨Lc102, hQ102, l102, y102, z102⟩, st102⟩ := X101.virtualBack hx (y := (⟨"com/example/carbonfold/carbonfold/model/RosterItem$Subscription", "withTo", "(Z)Lcom/example/carbonfold/carbonfold/model/RosterItem$Subscription;"⟩ : MethodName)) (z := (⟨"com/example/carbonfold/carbonfold/model/RosterItem$Subscription", "withTo", "(Z)Lcom/example/carbonfold/carbonfold/model/RosterItem$Subscription;"⟩ : MethodName)) hown (mvT hZ (hw _ (List.mem_of_getElem? (i := 31) rfl))) (mvT hZ (hw _ (List.mem_of_getElem? (i := 32) rfl))) (notFace_of_selects (args := #[]) (mvT hZ (hw _ (List.mem_of_getElem? (i := 34) rfl)))) (mvT hZ (hw _ (List.mem_of_getElem? (i := 34) rfl))) (mvT hZ (hw _ (List.mem_of_getElem? (i := 33) rfl))) (by decide) (backOf (W := 0) (rm_withTo_26 l Z a0 hw [] a_NONE a_FROM a_BOTH a_TO h0 n0 O0 En) hZ (hw _ (List.mem_of_getElem? (i := 35) rfl)) (hw _ (List.mem_of_getElem? (i := 5) rfl)) (by decide) (by decide)) q102a q102c (g := (mkF m 84 #[.val (.int i0), .val (.int i1), .val (.int i2), .val (.ref a_BOTH), .val (.int (1 : Int32)), .val (.int (1 : Int32)), .val (.int (0 : Int32)), .val (.int (1 : Int32)), .val (.int (1 : Int32)), .unset] [(.int (0 : Int32)), (.ref a_BOTH)])) rfl (by rw [hml]; rfl) (Steps.refl _) (argsL := [(.int (0 : Int32))]) (rest := []) (lenOf pd_3 rfl) rfl (by show 2 * 0 + _ ≤ _; exact Nat.le_of_eq rfl) (hb hby at_84) (fun _ _ => ⟨rfl, hh101, (by decide : 0 + 0 ≤ _), (by decide : 0 + 0 ≤ _)⟩)
        dsimp only [Pt.U, Pt.locs, Pt.cells, Pt.slots] at X102 l102 y102 z102 st102 hQ102
        subst l102 y102 z102
        obtain ⟨rfl, N102q, hh102⟩ := hQ102
        have N102 := Fr.app N101 N102q
        obtain ⟨cq103, kq103, q103a, q103b, q103c⟩ := isOf hZ hh102 (Exa.ext O0.2 X_a_FROM)
        obtain ⟨_, _, ⟨T103, L103, k103, n103⟩, -, X103, ⟨Lc103, hQ103, l103, y103, z103⟩, st103⟩ := X102.virtualBack hx (y := (⟨"com/example/carbonfold/carbonfold/model/RosterItem$Subscription", "hasFrom", "()Z"⟩ : MethodName)) (z := (⟨"com/example/carbonfold/carbonfold/model/RosterItem$Subscription", "hasFrom", "()Z"⟩ : MethodName)) hown (mvT hZ (hw _ (List.mem_of_getElem? (i := 7) rfl))) (mvT hZ (hw _ (List.mem_of_getElem? (i := 8) rfl))) (notFace_of_selects (args := #[]) (mvT hZ (hw _ (List.mem_of_getElem? (i := 10) rfl)))) (mvT hZ (hw _ (List.mem_of_getElem? (i := 10) rfl))) (mvT hZ (hw _ (List.mem_of_getElem? (i := 9) rfl))) (by decide) (backOf (W := 0) (rm_hasFrom_11 l Z a0 hw [] a_NONE a_FROM a_BOTH a_TO h0 n0 O0 En) hZ (hw _ (List.mem_of_getElem? (i := 11) rfl)) (hw _ (List.mem_of_getElem? (i := 5) rfl)) (by decide) (by decide)) q103a q103c (g := (mkF m 87 #[.val (.int i0), .val (.int i1), .val (.int i2), .val (.ref a_BOTH), .val (.int (1 : Int32)), .val (.int (1 : Int32)), .val (.int (0 : Int32)), .val (.int (1 : Int32)), .val (.int (1 : Int32)), .unset] [(.ref a_FROM)])) rfl (by rw [hml]; rfl) (Steps.refl _) (argsL := []) (rest := []) (lenOf pd_1 rfl) rfl (by show 2 * 0 + _ ≤ _; exact Nat.le_of_eq rfl) (hb hby at_87) (fun _ _ => ⟨rfl, hh102, (by decide : 0 + 0 ≤ _), (by decide : 0 + 0 ≤ _)⟩)
        dsimp only [Pt.U, Pt.locs, Pt.cells, Pt.slots] at X103 l103 y103 z103 st103 hQ103
        subst l103 y103 z103
        obtain ⟨rfl, N103q, hh103⟩ := hQ103
        have N103 := Fr.app N102 N103q
        obtain ⟨fs, hr, hrun, hended, hW, hsame⟩ := X103.leave (v := some (.int (1 : Int32))) (fun h => by rw [Bd.returns] at h; cases h)
        refine ⟨_, _, pre97 _ ?_, hrun, hended, _, _, rfl, ?_, ⟨_, rfl⟩, hW, hsame.mono (by decide) (by decide)⟩
        · skip
          show Steps p.tables e below (T82.setTop (mkF m 34 #[.val (.int i0), .val (.int i1), .val (.int i2), .val (.ref a_BOTH), .val (.int (1 : Int32)), .val (.int (1 : Int32)), .unset, .unset, .unset, .unset] [(.int (i2 &&& (1 : Int32)))])) _
          rw [hk98]
          show Steps p.tables e below (T82.setTop (mkF m 34 #[.val (.int i0), .val (.int i1), .val (.int i2), .val (.ref a_BOTH), .val (.int (1 : Int32)), .val (.int (1 : Int32)), .unset, .unset, .unset, .unset] [(.int (0 : Int32))])) _
          refine XS.ifYes X82.here hx rfl (pc0 := 34) (pc' := 41) rfl (hb hby at_34) rfl (by decide) (by decide) (by decide) ?_
          show Steps p.tables e below (T82.setTop (mkF m 41 #[.val (.int i0), .val (.int i1), .val (.int i2), .val (.ref a_BOTH), .val (.int (1 : Int32)), .val (.int (1 : Int32)), .unset, .unset, .unset, .unset] [])) _
          refine XS.iconst X82.here hx rfl (hb hby at_41) ?_
          show Steps p.tables e below (T82.setTop (mkF m 42 #[.val (.int i0), .val (.int i1), .val (.int i2), .val (.ref a_BOTH), .val (.int (1 : Int32)), .val (.int (1 : Int32)), .unset, .unset, .unset, .unset] [(.int (0 : Int32))])) _
          refine XS.istore X82.here hx rfl (hb hby at_42) rfl (l' := #[.val (.int i0), .val (.int i1), .val (.int i2), .val (.ref a_BOTH), .val (.int (1 : Int32)), .val (.int (1 : Int32)), .val (.int (0 : Int32)), .unset, .unset, .unset]) rfl ?_
          show Steps p.tables e below (T82.setTop (mkF m 44 #[.val (.int i0), .val (.int i1), .val (.int i2), .val (.ref a_BOTH), .val (.int (1 : Int32)), .val (.int (1 : Int32)), .val (.int (0 : Int32)), .unset, .unset, .unset] [])) _
          refine XS.aloadN X82.here hx rfl (hb hby at_44) rfl rfl ?_
          show Steps p.tables e below (T82.setTop (mkF m 45 #[.val (.int i0), .val (.int i1), .val (.int i2), .val (.ref a_BOTH), .val (.int (1 : Int32)), .val (.int (1 : Int32)), .val (.int (0 : Int32)), .unset, .unset, .unset] [(.ref a_BOTH)])) _
          refine st99.trans ?_
          show Steps p.tables e below (T99.setTop (mkF m 48 #[.val (.int i0), .val (.int i1), .val (.int i2), .val (.ref a_BOTH), .val (.int (1 : Int32)), .val (.int (1 : Int32)), .val (.int (0 : Int32)), .unset, .unset, .unset] [(.int (1 : Int32))])) _
          refine XS.iload X99.here hx rfl (hb hby at_48) rfl ?_
          show Steps p.tables e below (T99.setTop (mkF m 50 #[.val (.int i0), .val (.int i1), .val (.int i2), .val (.ref a_BOTH), .val (.int (1 : Int32)), .val (.int (1 : Int32)), .val (.int (0 : Int32)), .unset, .unset, .unset] [(.int (1 : Int32)), (.int (1 : Int32))])) _
          refine XS.icmpNo X99.here hx rfl (hb hby at_50) rfl (by decide) ?_
          show Steps p.tables e below (T99.setTop (mkF m 53 #[.val (.int i0), .val (.int i1), .val (.int i2), .val (.ref a_BOTH), .val (.int (1 : Int32)), .val (.int (1 : Int32)), .val (.int (0 : Int32)), .unset, .unset, .unset] [])) _
          refine XS.iconst X99.here hx rfl (hb hby at_53) ?_
          show Steps p.tables e below (T99.setTop (mkF m 54 #[.val (.int i0), .val (.int i1), .val (.int i2), .val (.ref a_BOTH), .val (.int (1 : Int32)), .val (.int (1 : Int32)), .val (.int (0 : Int32)), .unset, .unset, .unset] [(.int (1 : Int32))])) _
          refine XS.goto X99.here hx rfl (pc0 := 54) (pc' := 58) rfl (hb hby at_54) (by decide) (by decide) ?_
          show Steps p.tables e below (T99.setTop (mkF m 58 #[.val (.int i0), .val (.int i1), .val (.int i2), .val (.ref a_BOTH), .val (.int (1 : Int32)), .val (.int (1 : Int32)), .val (.int (0 : Int32)), .unset, .unset, .unset] [(.int (1 : Int32))])) _
          refine XS.istore X99.here hx rfl (hb hby at_58) rfl (l' := #[.val (.int i0), .val (.int i1), .val (.int i2), .val (.ref a_BOTH), .val (.int (1 : Int32)), .val (.int (1 : Int32)), .val (.int (0 : Int32)), .val (.int (1 : Int32)), .unset, .unset]) rfl ?_
          show Steps p.tables e below (T99.setTop (mkF m 60 #[.val (.int i0), .val (.int i1), .val (.int i2), .val (.ref a_BOTH), .val (.int (1 : Int32)), .val (.int (1 : Int32)), .val (.int (0 : Int32)), .val (.int (1 : Int32)), .unset, .unset] [])) _
          refine XS.aloadN X99.here hx rfl (hb hby at_60) rfl rfl ?_
          show Steps p.tables e below (T99.setTop (mkF m 61 #[.val (.int i0), .val (.int i1), .val (.int i2), .val (.ref a_BOTH), .val (.int (1 : Int32)), .val (.int (1 : Int32)), .val (.int (0 : Int32)), .val (.int (1 : Int32)), .unset, .unset] [(.ref a_BOTH)])) _
          refine XS.iload X99.here hx rfl (hb hby at_61) rfl ?_
          show Steps p.tables e below (T99.setTop (mkF m 63 #[.val (.int i0), .val (.int i1), .val (.int i2), .val (.ref a_BOTH), .val (.int (1 : Int32)), .val (.int (1 : Int32)), .val (.int (0 : Int32)), .val (.int (1 : Int32)), .unset, .unset] [(.int (1 : Int32)), (.ref a_BOTH)])) _
          refine st100.trans ?_
          show Steps p.tables e below (T100.setTop (mkF m 66 #[.val (.int i0), .val (.int i1), .val (.int i2), .val (.ref a_BOTH), .val (.int (1 : Int32)), .val (.int (1 : Int32)), .val (.int (0 : Int32)), .val (.int (1 : Int32)), .unset, .unset] [(.ref a_BOTH)])) _
          refine st101.trans ?_
          show Steps p.tables e below (T101.setTop (mkF m 69 #[.val (.int i0), .val (.int i1), .val (.int i2), .val (.ref a_BOTH), .val (.int (1 : Int32)), .val (.int (1 : Int32)), .val (.int (0 : Int32)), .val (.int (1 : Int32)), .unset, .unset] [(.int (1 : Int32))])) _
          refine XS.iload X101.here hx rfl (hb hby at_69) rfl ?_
          show Steps p.tables e below (T101.setTop (mkF m 71 #[.val (.int i0), .val (.int i1), .val (.int i2), .val (.ref a_BOTH), .val (.int (1 : Int32)), .val (.int (1 : Int32)), .val (.int (0 : Int32)), .val (.int (1 : Int32)), .unset, .unset] [(.int (1 : Int32)), (.int (1 : Int32))])) _
          refine XS.icmpNo X101.here hx rfl (hb hby at_71) rfl (by decide) ?_
          show Steps p.tables e below (T101.setTop (mkF m 74 #[.val (.int i0), .val (.int i1), .val (.int i2), .val (.ref a_BOTH), .val (.int (1 : Int32)), .val (.int (1 : Int32)), .val (.int (0 : Int32)), .val (.int (1 : Int32)), .unset, .unset] [])) _
          refine XS.iconst X101.here hx rfl (hb hby at_74) ?_
          show Steps p.tables e below (T101.setTop (mkF m 75 #[.val (.int i0), .val (.int i1), .val (.int i2), .val (.ref a_BOTH), .val (.int (1 : Int32)), .val (.int (1 : Int32)), .val (.int (0 : Int32)), .val (.int (1 : Int32)), .unset, .unset] [(.int (1 : Int32))])) _
          refine XS.goto X101.here hx rfl (pc0 := 75) (pc' := 79) rfl (hb hby at_75) (by decide) (by decide) ?_
          show Steps p.tables e below (T101.setTop (mkF m 79 #[.val (.int i0), .val (.int i1), .val (.int i2), .val (.ref a_BOTH), .val (.int (1 : Int32)), .val (.int (1 : Int32)), .val (.int (0 : Int32)), .val (.int (1 : Int32)), .unset, .unset] [(.int (1 : Int32))])) _
          refine XS.istore X101.here hx rfl (hb hby at_79) rfl (l' := #[.val (.int i0), .val (.int i1), .val (.int i2), .val (.ref a_BOTH), .val (.int (1 : Int32)), .val (.int (1 : Int32)), .val (.int (0 : Int32)), .val (.int (1 : Int32)), .val (.int (1 : Int32)), .unset]) rfl ?_
          show Steps p.tables e below (T101.setTop (mkF m 81 #[.val (.int i0), .val (.int i1), .val (.int i2), .val (.ref a_BOTH), .val (.int (1 : Int32)), .val (.int (1 : Int32)), .val (.int (0 : Int32)), .val (.int (1 : Int32)), .val (.int (1 : Int32)), .unset] [])) _
          refine XS.aloadN X101.here hx rfl (hb hby at_81) rfl rfl ?_
          show Steps p.tables e below (T101.setTop (mkF m 82 #[.val (.int i0), .val (.int i1), .val (.int i2), .val (.ref a_BOTH), .val (.int (1 : Int32)), .val (.int (1 : Int32)), .val (.int (0 : Int32)), .val (.int (1 : Int32)), .val (.int (1 : Int32)), .unset] [(.ref a_BOTH)])) _
          refine XS.iload X101.here hx rfl (hb hby at_82) rfl ?_
          show Steps p.tables e below (T101.setTop (mkF m 84 #[.val (.int i0), .val (.int i1), .val (.int i2), .val (.ref a_BOTH), .val (.int (1 : Int32)), .val (.int (1 : Int32)), .val (.int (0 : Int32)), .val (.int (1 : Int32)), .val (.int (1 : Int32)), .unset] [(.int (0 : Int32)), (.ref a_BOTH)])) _
          refine st102.trans ?_
          show Steps p.tables e below (T102.setTop (mkF m 87 #[.val (.int i0), .val (.int i1), .val (.int i2), .val (.ref a_BOTH), .val (.int (1 : Int32)), .val (.int (1 : Int32)), .val (.int (0 : Int32)), .val (.int (1 : Int32)), .val (.int (1 : Int32)), .unset] [(.ref a_FROM)])) _
          refine st103.trans ?_
          show Steps p.tables e below (T103.setTop (mkF m 90 #[.val (.int i0), .val (.int i1), .val (.int i2), .val (.ref a_BOTH), .val (.int (1 : Int32)), .val (.int (1 : Int32)), .val (.int (0 : Int32)), .val (.int (1 : Int32)), .val (.int (1 : Int32)), .unset] [(.int (1 : Int32))])) _
          refine XS.iload X103.here hx rfl (hb hby at_90) rfl ?_
          show Steps p.tables e below (T103.setTop (mkF m 92 #[.val (.int i0), .val (.int i1), .val (.int i2), .val (.ref a_BOTH), .val (.int (1 : Int32)), .val (.int (1 : Int32)), .val (.int (0 : Int32)), .val (.int (1 : Int32)), .val (.int (1 : Int32)), .unset] [(.int (1 : Int32)), (.int (1 : Int32))])) _
          refine XS.icmpNo X103.here hx rfl (hb hby at_92) rfl (by decide) ?_
          show Steps p.tables e below (T103.setTop (mkF m 95 #[.val (.int i0), .val (.int i1), .val (.int i2), .val (.ref a_BOTH), .val (.int (1 : Int32)), .val (.int (1 : Int32)), .val (.int (0 : Int32)), .val (.int (1 : Int32)), .val (.int (1 : Int32)), .unset] [])) _
          refine XS.iconst X103.here hx rfl (hb hby at_95) ?_
          show Steps p.tables e below (T103.setTop (mkF m 96 #[.val (.int i0), .val (.int i1), .val (.int i2), .val (.ref a_BOTH), .val (.int (1 : Int32)), .val (.int (1 : Int32)), .val (.int (0 : Int32)), .val (.int (1 : Int32)), .val (.int (1 : Int32)), .unset] [(.int (1 : Int32))])) _
          refine XS.goto X103.here hx rfl (pc0 := 96) (pc' := 100) rfl (hb hby at_96) (by decide) (by decide) ?_
          show Steps p.tables e below (T103.setTop (mkF m 100 #[.val (.int i0), .val (.int i1), .val (.int i2), .val (.ref a_BOTH), .val (.int (1 : Int32)), .val (.int (1 : Int32)), .val (.int (0 : Int32)), .val (.int (1 : Int32)), .val (.int (1 : Int32)), .unset] [(.int (1 : Int32))])) _
          refine XS.istore X103.here hx rfl (hb hby at_100) rfl (l' := #[.val (.int i0), .val (.int i1), .val (.int i2), .val (.ref a_BOTH), .val (.int (1 : Int32)), .val (.int (1 : Int32)), .val (.int (0 : Int32)), .val (.int (1 : Int32)), .val (.int (1 : Int32)), .val (.int (1 : Int32))]) rfl ?_
          show Steps p.tables e below (T103.setTop (mkF m 102 #[.val (.int i0), .val (.int i1), .val (.int i2), .val (.ref a_BOTH), .val (.int (1 : Int32)), .val (.int (1 : Int32)), .val (.int (0 : Int32)), .val (.int (1 : Int32)), .val (.int (1 : Int32)), .val (.int (1 : Int32))] [])) _
          refine XS.iload X103.here hx rfl (hb hby at_102) rfl ?_
          show Steps p.tables e below (T103.setTop (mkF m 104 #[.val (.int i0), .val (.int i1), .val (.int i2), .val (.ref a_BOTH), .val (.int (1 : Int32)), .val (.int (1 : Int32)), .val (.int (0 : Int32)), .val (.int (1 : Int32)), .val (.int (1 : Int32)), .val (.int (1 : Int32))] [(.int (1 : Int32))])) _
          refine XS.ifNo X103.here hx rfl (hb hby at_104) rfl (by decide) ?_
          show Steps p.tables e below (T103.setTop (mkF m 107 #[.val (.int i0), .val (.int i1), .val (.int i2), .val (.ref a_BOTH), .val (.int (1 : Int32)), .val (.int (1 : Int32)), .val (.int (0 : Int32)), .val (.int (1 : Int32)), .val (.int (1 : Int32)), .val (.int (1 : Int32))] [])) _
          refine XS.iload X103.here hx rfl (hb hby at_107) rfl ?_
          show Steps p.tables e below (T103.setTop (mkF m 109 #[.val (.int i0), .val (.int i1), .val (.int i2), .val (.ref a_BOTH), .val (.int (1 : Int32)), .val (.int (1 : Int32)), .val (.int (0 : Int32)), .val (.int (1 : Int32)), .val (.int (1 : Int32)), .val (.int (1 : Int32))] [(.int (1 : Int32))])) _
          refine XS.ifNo X103.here hx rfl (hb hby at_109) rfl (by decide) ?_
          show Steps p.tables e below (T103.setTop (mkF m 112 #[.val (.int i0), .val (.int i1), .val (.int i2), .val (.ref a_BOTH), .val (.int (1 : Int32)), .val (.int (1 : Int32)), .val (.int (0 : Int32)), .val (.int (1 : Int32)), .val (.int (1 : Int32)), .val (.int (1 : Int32))] [])) _
          refine XS.iload X103.here hx rfl (hb hby at_112) rfl ?_
          show Steps p.tables e below (T103.setTop (mkF m 114 #[.val (.int i0), .val (.int i1), .val (.int i2), .val (.ref a_BOTH), .val (.int (1 : Int32)), .val (.int (1 : Int32)), .val (.int (0 : Int32)), .val (.int (1 : Int32)), .val (.int (1 : Int32)), .val (.int (1 : Int32))] [(.int (1 : Int32))])) _
          refine XS.ifNo X103.here hx rfl (hb hby at_114) rfl (by decide) ?_
          show Steps p.tables e below (T103.setTop (mkF m 117 #[.val (.int i0), .val (.int i1), .val (.int i2), .val (.ref a_BOTH), .val (.int (1 : Int32)), .val (.int (1 : Int32)), .val (.int (0 : Int32)), .val (.int (1 : Int32)), .val (.int (1 : Int32)), .val (.int (1 : Int32))] [])) _
          refine XS.iconst X103.here hx rfl (hb hby at_117) ?_
          show Steps p.tables e below (T103.setTop (mkF m 118 #[.val (.int i0), .val (.int i1), .val (.int i2), .val (.ref a_BOTH), .val (.int (1 : Int32)), .val (.int (1 : Int32)), .val (.int (0 : Int32)), .val (.int (1 : Int32)), .val (.int (1 : Int32)), .val (.int (1 : Int32))] [(.int (1 : Int32))])) _
          refine XS.goto X103.here hx rfl (pc0 := 118) (pc' := 122) rfl (hb hby at_118) (by decide) (by decide) ?_
          show Steps p.tables e below (T103.setTop (mkF m 122 #[.val (.int i0), .val (.int i1), .val (.int i2), .val (.ref a_BOTH), .val (.int (1 : Int32)), .val (.int (1 : Int32)), .val (.int (0 : Int32)), .val (.int (1 : Int32)), .val (.int (1 : Int32)), .val (.int (1 : Int32))] [(.int (1 : Int32))])) _
          exact retN X103 hx (t := .boolean) Bd.returns (by simp) (hb hby at_122) hr
        · show QL n0 _ T103.heap _
          rw [hh103]
          exact ⟨rfl, N103⟩
      · skip
        obtain ⟨cq104, kq104, q104a, q104b, q104c⟩ := isOf hZ hh82 (Exa.ext O0.2 X_a_BOTH)
        obtain ⟨_, _, ⟨T104, L104, k104, n104⟩, -, X104, ⟨Lc104, hQ104, l104, y104, z104⟩, st104⟩ := X82.virtualBack hx (y := (⟨"com/example/carbonfold/carbonfold/model/RosterItem$Subscription", "hasFrom", "()Z"⟩ : MethodName)) (z := (⟨"com/example/carbonfold/carbonfold/model/RosterItem$Subscription", "hasFrom", "()Z"⟩ : MethodName)) hown (mvT hZ (hw _ (List.mem_of_getElem? (i := 7) rfl))) (mvT hZ (hw _ (List.mem_of_getElem? (i := 8) rfl))) (notFace_of_selects (args := #[]) (mvT hZ (hw _ (List.mem_of_getElem? (i := 10) rfl)))) (mvT hZ (hw _ (List.mem_of_getElem? (i := 10) rfl))) (mvT hZ (hw _ (List.mem_of_getElem? (i := 9) rfl))) (by decide) (backOf (W := 0) (rm_hasFrom_18 l Z a0 hw [] a_NONE a_FROM a_BOTH a_TO h0 n0 O0 En) hZ (hw _ (List.mem_of_getElem? (i := 11) rfl)) (hw _ (List.mem_of_getElem? (i := 5) rfl)) (by decide) (by decide)) q104a q104c (g := (mkF m 45 #[.val (.int i0), .val (.int i1), .val (.int i2), .val (.ref a_BOTH), .val (.int (1 : Int32)), .val (.int (1 : Int32)), .val (.int (1 : Int32)), .unset, .unset, .unset] [(.ref a_BOTH)])) rfl (by rw [hml]; rfl) (Steps.refl _) (argsL := []) (rest := []) (lenOf pd_1 rfl) rfl (by show 2 * 0 + _ ≤ _; exact Nat.le_of_eq rfl) (hb hby at_45) (fun _ _ => ⟨rfl, hh82, (by decide : 0 + 0 ≤ _), (by decide : 0 + 0 ≤ _)⟩)
        dsimp only [Pt.U, Pt.locs, Pt.cells, Pt.slots] at X104 l104 y104 z104 st104 hQ104
        subst l104 y104 z104
        obtain ⟨rfl, N104q, hh104⟩ := hQ104
        have N104 := Fr.app N82 N104q
        obtain ⟨cq105, kq105, q105a, q105b, q105c⟩ := isOf hZ hh104 (Exa.ext O0.2 X_a_BOTH)
        obtain ⟨_, _, ⟨T105, L105, k105, n105⟩, -, X105, ⟨Lc105, hQ105, l105, y105, z105⟩, st105⟩ := X104.virtualBack hx (y := (⟨"com/example/carbonfold/carbonfold/model/RosterItem$Subscription", "withFrom", "(Z)Lcom/example/carbonfold/carbonfold/model/RosterItem$Subscription;"⟩ : MethodName)) (z := (⟨"com/example/carbonfold/carbonfold/model/RosterItem$Subscription", "withFrom", "(Z)Lcom/example/carbonfold/carbonfold/model/RosterItem$Subscription;"⟩ : MethodName)) hown (mvT hZ (hw _ (List.mem_of_getElem? (i := 16) rfl))) (mvT hZ (hw _ (List.mem_of_getElem? (i := 17) rfl))) (notFace_of_selects (args := #[]) (mvT hZ (hw _ (List.mem_of_getElem? (i := 19) rfl)))) (mvT hZ (hw _ (List.mem_of_getElem? (i := 19) rfl))) (mvT hZ (hw _ (List.mem_of_getElem? (i := 18) rfl))) (by decide) (backOf (W := 0) (rm_withFrom_28 l Z a0 hw [] a_NONE a_FROM a_BOTH a_TO h0 n0 O0 En) hZ (hw _ (List.mem_of_getElem? (i := 20) rfl)) (hw _ (List.mem_of_getElem? (i := 5) rfl)) (by decide) (by decide)) q105a q105c (g := (mkF m 63 #[.val (.int i0), .val (.int i1), .val (.int i2), .val (.ref a_BOTH), .val (.int (1 : Int32)), .val (.int (1 : Int32)), .val (.int (1 : Int32)), .val (.int (1 : Int32)), .unset, .unset] [(.int (1 : Int32)), (.ref a_BOTH)])) rfl (by rw [hml]; rfl) (Steps.refl _) (argsL := [(.int (1 : Int32))]) (rest := []) (lenOf pd_3 rfl) rfl (by show 2 * 0 + _ ≤ _; exact Nat.le_of_eq rfl) (hb hby at_63) (fun _ _ => ⟨rfl, hh104, (by decide : 0 + 0 ≤ _), (by decide : 0 + 0 ≤ _)⟩)
        dsimp only [Pt.U, Pt.locs, Pt.cells, Pt.slots] at X105 l105 y105 z105 st105 hQ105
        subst l105 y105 z105
        obtain ⟨rfl, N105q, hh105⟩ := hQ105
        have N105 := Fr.app N104 N105q
        obtain ⟨cq106, kq106, q106a, q106b, q106c⟩ := isOf hZ hh105 (Exa.ext O0.2 X_a_BOTH)
        obtain ⟨_, _, ⟨T106, L106, k106, n106⟩, -, X106, ⟨Lc106, hQ106, l106, y106, z106⟩, st106⟩ := X105.virtualBack hx (y := (⟨"com/example/carbonfold/carbonfold/model/RosterItem$Subscription", "hasFrom", "()Z"⟩ : MethodName)) (z := (⟨"com/example/carbonfold/carbonfold/model/RosterItem$Subscription", "hasFrom", "()Z"⟩ : MethodName)) hown (mvT hZ (hw _ (List.mem_of_getElem? (i := 7) rfl))) (mvT hZ (hw _ (List.mem_of_getElem? (i := 8) rfl))) (notFace_of_selects (args := #[]) (mvT hZ (hw _ (List.mem_of_getElem? (i := 10) rfl)))) (mvT hZ (hw _ (List.mem_of_getElem? (i := 10) rfl))) (mvT hZ (hw _ (List.mem_of_getElem? (i := 9) rfl))) (by decide) (backOf (W := 0) (rm_hasFrom_18 l Z a0 hw [] a_NONE a_FROM a_BOTH a_TO h0 n0 O0 En) hZ (hw _ (List.mem_of_getElem? (i := 11) rfl)) (hw _ (List.mem_of_getElem? (i := 5) rfl)) (by decide) (by decide)) q106a q106c (g := (mkF m 66 #[.val (.int i0), .val (.int i1), .val (.int i2), .val (.ref a_BOTH), .val (.int (1 : Int32)), .val (.int (1 : Int32)), .val (.int (1 : Int32)), .val (.int (1 : Int32)), .unset, .unset] [(.ref a_BOTH)])) rfl (by rw [hml]; rfl) (Steps.refl _) (argsL := []) (rest := []) (lenOf pd_1 rfl) rfl (by show 2 * 0 + _ ≤ _; exact Nat.le_of_eq rfl) (hb hby at_66) (fun _ _ => ⟨rfl, hh105, (by decide : 0 + 0 ≤ _), (by decide : 0 + 0 ≤ _)⟩)
        dsimp only [Pt.U, Pt.locs, Pt.cells, Pt.slots] at X106 l106 y106 z106 st106 hQ106
        subst l106 y106 z106
        obtain ⟨rfl, N106q, hh106⟩ := hQ106
        have N106 := Fr.app N105 N106q
        obtain ⟨cq107, kq107, q107a, q107b, q107c⟩ := isOf hZ hh106 (Exa.ext O0.2 X_a_BOTH)
        obtain ⟨_, _, ⟨T107, L107, k107, n107⟩, -, X107, ⟨Lc107, hQ107, l107, y107, z107⟩, st107⟩ := X106.virtualBack hx (y := (⟨"com/example/carbonfold/carbonfold/model/RosterItem$Subscription", "withTo", "(Z)Lcom/example/carbonfold/carbonfold/model/RosterItem$Subscription;"⟩ : MethodName)) (z := (⟨"com/example/carbonfold/carbonfold/model/RosterItem$Subscription", "withTo", "(Z)Lcom/example/carbonfold/carbonfold/model/RosterItem$Subscription;"⟩ : MethodName)) hown (mvT hZ (hw _ (List.mem_of_getElem? (i := 31) rfl))) (mvT hZ (hw _ (List.mem_of_getElem? (i := 32) rfl))) (notFace_of_selects (args := #[]) (mvT hZ (hw _ (List.mem_of_getElem? (i := 34) rfl)))) (mvT hZ (hw _ (List.mem_of_getElem? (i := 34) rfl))) (mvT hZ (hw _ (List.mem_of_getElem? (i := 33) rfl))) (by decide) (backOf (W := 0) (rm_withTo_27 l Z a0 hw [] a_NONE a_FROM a_BOTH a_TO h0 n0 O0 En) hZ (hw _ (List.mem_of_getElem? (i := 35) rfl)) (hw _ (List.mem_of_getElem? (i := 5) rfl)) (by decide) (by decide)) q107a q107c (g := (mkF m 84 #[.val (.int i0), .val (.int i1), .val (.int i2), .val (.ref a_BOTH), .val (.int (1 : Int32)), .val (.int (1 : Int32)), .val (.int (1 : Int32)), .val (.int (1 : Int32)), .val (.int (1 : Int32)), .unset] [(.int (1 : Int32)), (.ref a_BOTH)])) rfl (by rw [hml]; rfl) (Steps.refl _) (argsL := [(.int (1 : Int32))]) (rest := []) (lenOf pd_3 rfl) rfl (by show 2 * 0 + _ ≤ _; exact Nat.le_of_eq rfl) (hb hby at_84) (fun _ _ => ⟨rfl, hh106, (by decide : 0 + 0 ≤ _), (by decide : 0 + 0 ≤ _)⟩)
        dsimp only [Pt.U, Pt.locs, Pt.cells, Pt.slots] at X107 l107 y107 z107 st107 hQ107
        subst l107 y107 z107
        obtain ⟨rfl, N107q, hh107⟩ := hQ107
        have N107 := Fr.app N106 N107q
        obtain ⟨cq108, kq108, q108a, q108b, q108c⟩ := isOf hZ hh107 (Exa.ext O0.2 X_a_BOTH)
        obtain ⟨_, _, ⟨T108, L108, k108, n108⟩, -, X108, ⟨Lc108, hQ108, l108, y108, z108⟩, st108⟩ := X107.virtualBack hx (y := (⟨"com/example/carbonfold/carbonfold/model/RosterItem$Subscription", "hasFrom", "()Z"⟩ : MethodName)) (z := (⟨"com/example/carbonfold/carbonfold/model/RosterItem$Subscription", "hasFrom", "()Z"⟩ : MethodName)) hown (mvT hZ (hw _ (List.mem_of_getElem? (i := 7) rfl))) (mvT hZ (hw _ (List.mem_of_getElem? (i := 8) rfl))) (notFace_of_selects (args := #[]) (mvT hZ (hw _ (List.mem_of_getElem? (i := 10) rfl)))) (mvT hZ (hw _ (List.mem_of_getElem? (i := 10) rfl))) (mvT hZ (hw _ (List.mem_of_getElem? (i := 9) rfl))) (by decide) (backOf (W := 0) (rm_hasFrom_18 l Z a0 hw [] a_NONE a_FROM a_BOTH a_TO h0 n0 O0 En) hZ (hw _ (List.mem_of_getElem? (i := 11) rfl)) (hw _ (List.mem_of_getElem? (i := 5) rfl)) (by decide) (by decide)) q108a q108c (g := (mkF m 87 #[.val (.int i0), .val (.int i1), .val (.int i2), .val (.ref a_BOTH), .val (.int (1 : Int32)), .val (.int (1 : Int32)), .val (.int (1 : Int32)), .val (.int (1 : Int32)), .val (.int (1 : Int32)), .unset] [(.ref a_BOTH)])) rfl (by rw [hml]; rfl) (Steps.refl _) (argsL := []) (rest := []) (lenOf pd_1 rfl) rfl (by show 2 * 0 + _ ≤ _; exact Nat.le_of_eq rfl) (hb hby at_87) (fun _ _ => ⟨rfl, hh107, (by decide : 0 + 0 ≤ _), (by decide : 0 + 0 ≤ _)⟩)
        dsimp only [Pt.U, Pt.locs, Pt.cells, Pt.slots] at X108 l108 y108 z108 st108 hQ108
        subst l108 y108 z108
        obtain ⟨rfl, N108q, hh108⟩ := hQ108
        have N108 := Fr.app N107 N108q
        obtain ⟨fs, hr, hrun, hended, hW, hsame⟩ := X108.leave (v := some (.int (1 : Int32))) (fun h => by rw [Bd.returns] at h; cases h)
        refine ⟨_, _, pre97 _ ?_, hrun, hended, _, _, rfl, ?_, ⟨_, rfl⟩, hW, hsame.mono (by decide) (by decide)⟩
        · skip
          show Steps p.tables e below (T82.setTop (mkF m 34 #[.val (.int i0), .val (.int i1), .val (.int i2), .val (.ref a_BOTH), .val (.int (1 : Int32)), .val (.int (1 : Int32)), .unset, .unset, .unset, .unset] [(.int (i2 &&& (1 : Int32)))])) _
          rw [hk98]
          show Steps p.tables e below (T82.setTop (mkF m 34 #[.val (.int i0), .val (.int i1), .val (.int i2), .val (.ref a_BOTH), .val (.int (1 : Int32)), .val (.int (1 : Int32)), .unset, .unset, .unset, .unset] [(.int (1 : Int32))])) _
          refine XS.ifNo X82.here hx rfl (hb hby at_34) rfl (by decide) ?_
          show Steps p.tables e below (T82.setTop (mkF m 37 #[.val (.int i0), .val (.int i1), .val (.int i2), .val (.ref a_BOTH), .val (.int (1 : Int32)), .val (.int (1 : Int32)), .unset, .unset, .unset, .unset] [])) _
          refine XS.iconst X82.here hx rfl (hb hby at_37) ?_
          show Steps p.tables e below (T82.setTop (mkF m 38 #[.val (.int i0), .val (.int i1), .val (.int i2), .val (.ref a_BOTH), .val (.int (1 : Int32)), .val (.int (1 : Int32)), .unset, .unset, .unset, .unset] [(.int (1 : Int32))])) _
          refine XS.goto X82.here hx rfl (pc0 := 38) (pc' := 42) rfl (hb hby at_38) (by decide) (by decide) ?_
          show Steps p.tables e below (T82.setTop (mkF m 42 #[.val (.int i0), .val (.int i1), .val (.int i2), .val (.ref a_BOTH), .val (.int (1 : Int32)), .val (.int (1 : Int32)), .unset, .unset, .unset, .unset] [(.int (1 : Int32))])) _
          refine XS.istore X82.here hx rfl (hb hby at_42) rfl (l' := #[.val (.int i0), .val (.int i1), .val (.int i2), .val (.ref a_BOTH), .val (.int (1 : Int32)), .val (.int (1 : Int32)), .val (.int (1 : Int32)), .unset, .unset, .unset]) rfl ?_
          show Steps p.tables e below (T82.setTop (mkF m 44 #[.val (.int i0), .val (.int i1), .val (.int i2), .val (.ref a_BOTH), .val (.int (1 : Int32)), .val (.int (1 : Int32)), .val (.int (1 : Int32)), .unset, .unset, .unset] [])) _
          refine XS.aloadN X82.here hx rfl (hb hby at_44) rfl rfl ?_
          show Steps p.tables e below (T82.setTop (mkF m 45 #[.val (.int i0), .val (.int i1), .val (.int i2), .val (.ref a_BOTH), .val (.int (1 : Int32)), .val (.int (1 : Int32)), .val (.int (1 : Int32)), .unset, .unset, .unset] [(.ref a_BOTH)])) _
          refine st104.trans ?_
          show Steps p.tables e below (T104.setTop (mkF m 48 #[.val (.int i0), .val (.int i1), .val (.int i2), .val (.ref a_BOTH), .val (.int (1 : Int32)), .val (.int (1 : Int32)), .val (.int (1 : Int32)), .unset, .unset, .unset] [(.int (1 : Int32))])) _
          refine XS.iload X104.here hx rfl (hb hby at_48) rfl ?_
          show Steps p.tables e below (T104.setTop (mkF m 50 #[.val (.int i0), .val (.int i1), .val (.int i2), .val (.ref a_BOTH), .val (.int (1 : Int32)), .val (.int (1 : Int32)), .val (.int (1 : Int32)), .unset, .unset, .unset] [(.int (1 : Int32)), (.int (1 : Int32))])) _
          refine XS.icmpNo X104.here hx rfl (hb hby at_50) rfl (by decide) ?_
          show Steps p.tables e below (T104.setTop (mkF m 53 #[.val (.int i0), .val (.int i1), .val (.int i2), .val (.ref a_BOTH), .val (.int (1 : Int32)), .val (.int (1 : Int32)), .val (.int (1 : Int32)), .unset, .unset, .unset] [])) _
          refine XS.iconst X104.here hx rfl (hb hby at_53) ?_
          show Steps p.tables e below (T104.setTop (mkF m 54 #[.val (.int i0), .val (.int i1), .val (.int i2), .val (.ref a_BOTH), .val (.int (1 : Int32)), .val (.int (1 : Int32)), .val (.int (1 : Int32)), .unset, .unset, .unset] [(.int (1 : Int32))])) _
          refine XS.goto X104.here hx rfl (pc0 := 54) (pc' := 58) rfl (hb hby at_54) (by decide) (by decide) ?_
          show Steps p.tables e below (T104.setTop (mkF m 58 #[.val (.int i0), .val (.int i1), .val (.int i2), .val (.ref a_BOTH), .val (.int (1 : Int32)), .val (.int (1 : Int32)), .val (.int (1 : Int32)), .unset, .unset, .unset] [(.int (1 : Int32))])) _
          refine XS.istore X104.here hx rfl (hb hby at_58) rfl (l' := #[.val (.int i0), .val (.int i1), .val (.int i2), .val (.ref a_BOTH), .val (.int (1 : Int32)), .val (.int (1 : Int32)), .val (.int (1 : Int32)), .val (.int (1 : Int32)), .unset, .unset]) rfl ?_
          show Steps p.tables e below (T104.setTop (mkF m 60 #[.val (.int i0), .val (.int i1), .val (.int i2), .val (.ref a_BOTH), .val (.int (1 : Int32)), .val (.int (1 : Int32)), .val (.int (1 : Int32)), .val (.int (1 : Int32)), .unset, .unset] [])) _
          refine XS.aloadN X104.here hx rfl (hb hby at_60) rfl rfl ?_
          show Steps p.tables e below (T104.setTop (mkF m 61 #[.val (.int i0), .val (.int i1), .val (.int i2), .val (.ref a_BOTH), .val (.int (1 : Int32)), .val (.int (1 : Int32)), .val (.int (1 : Int32)), .val (.int (1 : Int32)), .unset, .unset] [(.ref a_BOTH)])) _
          refine XS.iload X104.here hx rfl (hb hby at_61) rfl ?_
          show Steps p.tables e below (T104.setTop (mkF m 63 #[.val (.int i0), .val (.int i1), .val (.int i2), .val (.ref a_BOTH), .val (.int (1 : Int32)), .val (.int (1 : Int32)), .val (.int (1 : Int32)), .val (.int (1 : Int32)), .unset, .unset] [(.int (1 : Int32)), (.ref a_BOTH)])) _
          refine st105.trans ?_
          show Steps p.tables e below (T105.setTop (mkF m 66 #[.val (.int i0), .val (.int i1), .val (.int i2), .val (.ref a_BOTH), .val (.int (1 : Int32)), .val (.int (1 : Int32)), .val (.int (1 : Int32)), .val (.int (1 : Int32)), .unset, .unset] [(.ref a_BOTH)])) _
          refine st106.trans ?_
          show Steps p.tables e below (T106.setTop (mkF m 69 #[.val (.int i0), .val (.int i1), .val (.int i2), .val (.ref a_BOTH), .val (.int (1 : Int32)), .val (.int (1 : Int32)), .val (.int (1 : Int32)), .val (.int (1 : Int32)), .unset, .unset] [(.int (1 : Int32))])) _
          refine XS.iload X106.here hx rfl (hb hby at_69) rfl ?_
          show Steps p.tables e below (T106.setTop (mkF m 71 #[.val (.int i0), .val (.int i1), .val (.int i2), .val (.ref a_BOTH), .val (.int (1 : Int32)), .val (.int (1 : Int32)), .val (.int (1 : Int32)), .val (.int (1 : Int32)), .unset, .unset] [(.int (1 : Int32)), (.int (1 : Int32))])) _
          refine XS.icmpNo X106.here hx rfl (hb hby at_71) rfl (by decide) ?_
          show Steps p.tables e below (T106.setTop (mkF m 74 #[.val (.int i0), .val (.int i1), .val (.int i2), .val (.ref a_BOTH), .val (.int (1 : Int32)), .val (.int (1 : Int32)), .val (.int (1 : Int32)), .val (.int (1 : Int32)), .unset, .unset] [])) _
          refine XS.iconst X106.here hx rfl (hb hby at_74) ?_
          show Steps p.tables e below (T106.setTop (mkF m 75 #[.val (.int i0), .val (.int i1), .val (.int i2), .val (.ref a_BOTH), .val (.int (1 : Int32)), .val (.int (1 : Int32)), .val (.int (1 : Int32)), .val (.int (1 : Int32)), .unset, .unset] [(.int (1 : Int32))])) _
          refine XS.goto X106.here hx rfl (pc0 := 75) (pc' := 79) rfl (hb hby at_75) (by decide) (by decide) ?_
          show Steps p.tables e below (T106.setTop (mkF m 79 #[.val (.int i0), .val (.int i1), .val (.int i2), .val (.ref a_BOTH), .val (.int (1 : Int32)), .val (.int (1 : Int32)), .val (.int (1 : Int32)), .val (.int (1 : Int32)), .unset, .unset] [(.int (1 : Int32))])) _
          refine XS.istore X106.here hx rfl (hb hby at_79) rfl (l' := #[.val (.int i0), .val (.int i1), .val (.int i2), .val (.ref a_BOTH), .val (.int (1 : Int32)), .val (.int (1 : Int32)), .val (.int (1 : Int32)), .val (.int (1 : Int32)), .val (.int (1 : Int32)), .unset]) rfl ?_
          show Steps p.tables e below (T106.setTop (mkF m 81 #[.val (.int i0), .val (.int i1), .val (.int i2), .val (.ref a_BOTH), .val (.int (1 : Int32)), .val (.int (1 : Int32)), .val (.int (1 : Int32)), .val (.int (1 : Int32)), .val (.int (1 : Int32)), .unset] [])) _
          refine XS.aloadN X106.here hx rfl (hb hby at_81) rfl rfl ?_
          show Steps p.tables e below (T106.setTop (mkF m 82 #[.val (.int i0), .val (.int i1), .val (.int i2), .val (.ref a_BOTH), .val (.int (1 : Int32)), .val (.int (1 : Int32)), .val (.int (1 : Int32)), .val (.int (1 : Int32)), .val (.int (1 : Int32)), .unset] [(.ref a_BOTH)])) _
          refine XS.iload X106.here hx rfl (hb hby at_82) rfl ?_
          show Steps p.tables e below (T106.setTop (mkF m 84 #[.val (.int i0), .val (.int i1), .val (.int i2), .val (.ref a_BOTH), .val (.int (1 : Int32)), .val (.int (1 : Int32)), .val (.int (1 : Int32)), .val (.int (1 : Int32)), .val (.int (1 : Int32)), .unset] [(.int (1 : Int32)), (.ref a_BOTH)])) _
          refine st107.trans ?_
          show Steps p.tables e below (T107.setTop (mkF m 87 #[.val (.int i0), .val (.int i1), .val (.int i2), .val (.ref a_BOTH), .val (.int (1 : Int32)), .val (.int (1 : Int32)), .val (.int (1 : Int32)), .val (.int (1 : Int32)), .val (.int (1 : Int32)), .unset] [(.ref a_BOTH)])) _
          refine st108.trans ?_
          show Steps p.tables e below (T108.setTop (mkF m 90 #[.val (.int i0), .val (.int i1), .val (.int i2), .val (.ref a_BOTH), .val (.int (1 : Int32)), .val (.int (1 : Int32)), .val (.int (1 : Int32)), .val (.int (1 : Int32)), .val (.int (1 : Int32)), .unset] [(.int (1 : Int32))])) _
          refine XS.iload X108.here hx rfl (hb hby at_90) rfl ?_
          show Steps p.tables e below (T108.setTop (mkF m 92 #[.val (.int i0), .val (.int i1), .val (.int i2), .val (.ref a_BOTH), .val (.int (1 : Int32)), .val (.int (1 : Int32)), .val (.int (1 : Int32)), .val (.int (1 : Int32)), .val (.int (1 : Int32)), .unset] [(.int (1 : Int32)), (.int (1 : Int32))])) _
          refine XS.icmpNo X108.here hx rfl (hb hby at_92) rfl (by decide) ?_
          show Steps p.tables e below (T108.setTop (mkF m 95 #[.val (.int i0), .val (.int i1), .val (.int i2), .val (.ref a_BOTH), .val (.int (1 : Int32)), .val (.int (1 : Int32)), .val (.int (1 : Int32)), .val (.int (1 : Int32)), .val (.int (1 : Int32)), .unset] [])) _
          refine XS.iconst X108.here hx rfl (hb hby at_95) ?_
          show Steps p.tables e below (T108.setTop (mkF m 96 #[.val (.int i0), .val (.int i1), .val (.int i2), .val (.ref a_BOTH), .val (.int (1 : Int32)), .val (.int (1 : Int32)), .val (.int (1 : Int32)), .val (.int (1 : Int32)), .val (.int (1 : Int32)), .unset] [(.int (1 : Int32))])) _
          refine XS.goto X108.here hx rfl (pc0 := 96) (pc' := 100) rfl (hb hby at_96) (by decide) (by decide) ?_
          show Steps p.tables e below (T108.setTop (mkF m 100 #[.val (.int i0), .val (.int i1), .val (.int i2), .val (.ref a_BOTH), .val (.int (1 : Int32)), .val (.int (1 : Int32)), .val (.int (1 : Int32)), .val (.int (1 : Int32)), .val (.int (1 : Int32)), .unset] [(.int (1 : Int32))])) _
          refine XS.istore X108.here hx rfl (hb hby at_100) rfl (l' := #[.val (.int i0), .val (.int i1), .val (.int i2), .val (.ref a_BOTH), .val (.int (1 : Int32)), .val (.int (1 : Int32)), .val (.int (1 : Int32)), .val (.int (1 : Int32)), .val (.int (1 : Int32)), .val (.int (1 : Int32))]) rfl ?_
          show Steps p.tables e below (T108.setTop (mkF m 102 #[.val (.int i0), .val (.int i1), .val (.int i2), .val (.ref a_BOTH), .val (.int (1 : Int32)), .val (.int (1 : Int32)), .val (.int (1 : Int32)), .val (.int (1 : Int32)), .val (.int (1 : Int32)), .val (.int (1 : Int32))] [])) _
          refine XS.iload X108.here hx rfl (hb hby at_102) rfl ?_
          show Steps p.tables e below (T108.setTop (mkF m 104 #[.val (.int i0), .val (.int i1), .val (.int i2), .val (.ref a_BOTH), .val (.int (1 : Int32)), .val (.int (1 : Int32)), .val (.int (1 : Int32)), .val (.int (1 : Int32)), .val (.int (1 : Int32)), .val (.int (1 : Int32))] [(.int (1 : Int32))])) _
          refine XS.ifNo X108.here hx rfl (hb hby at_104) rfl (by decide) ?_
          show Steps p.tables e below (T108.setTop (mkF m 107 #[.val (.int i0), .val (.int i1), .val (.int i2), .val (.ref a_BOTH), .val (.int (1 : Int32)), .val (.int (1 : Int32)), .val (.int (1 : Int32)), .val (.int (1 : Int32)), .val (.int (1 : Int32)), .val (.int (1 : Int32))] [])) _
          refine XS.iload X108.here hx rfl (hb hby at_107) rfl ?_
          show Steps p.tables e below (T108.setTop (mkF m 109 #[.val (.int i0), .val (.int i1), .val (.int i2), .val (.ref a_BOTH), .val (.int (1 : Int32)), .val (.int (1 : Int32)), .val (.int (1 : Int32)), .val (.int (1 : Int32)), .val (.int (1 : Int32)), .val (.int (1 : Int32))] [(.int (1 : Int32))])) _
          refine XS.ifNo X108.here hx rfl (hb hby at_109) rfl (by decide) ?_
          show Steps p.tables e below (T108.setTop (mkF m 112 #[.val (.int i0), .val (.int i1), .val (.int i2), .val (.ref a_BOTH), .val (.int (1 : Int32)), .val (.int (1 : Int32)), .val (.int (1 : Int32)), .val (.int (1 : Int32)), .val (.int (1 : Int32)), .val (.int (1 : Int32))] [])) _
          refine XS.iload X108.here hx rfl (hb hby at_112) rfl ?_
          show Steps p.tables e below (T108.setTop (mkF m 114 #[.val (.int i0), .val (.int i1), .val (.int i2), .val (.ref a_BOTH), .val (.int (1 : Int32)), .val (.int (1 : Int32)), .val (.int (1 : Int32)), .val (.int (1 : Int32)), .val (.int (1 : Int32)), .val (.int (1 : Int32))] [(.int (1 : Int32))])) _
          refine XS.ifNo X108.here hx rfl (hb hby at_114) rfl (by decide) ?_
          show Steps p.tables e below (T108.setTop (mkF m 117 #[.val (.int i0), .val (.int i1), .val (.int i2), .val (.ref a_BOTH), .val (.int (1 : Int32)), .val (.int (1 : Int32)), .val (.int (1 : Int32)), .val (.int (1 : Int32)), .val (.int (1 : Int32)), .val (.int (1 : Int32))] [])) _
          refine XS.iconst X108.here hx rfl (hb hby at_117) ?_
          show Steps p.tables e below (T108.setTop (mkF m 118 #[.val (.int i0), .val (.int i1), .val (.int i2), .val (.ref a_BOTH), .val (.int (1 : Int32)), .val (.int (1 : Int32)), .val (.int (1 : Int32)), .val (.int (1 : Int32)), .val (.int (1 : Int32)), .val (.int (1 : Int32))] [(.int (1 : Int32))])) _
          refine XS.goto X108.here hx rfl (pc0 := 118) (pc' := 122) rfl (hb hby at_118) (by decide) (by decide) ?_
          show Steps p.tables e below (T108.setTop (mkF m 122 #[.val (.int i0), .val (.int i1), .val (.int i2), .val (.ref a_BOTH), .val (.int (1 : Int32)), .val (.int (1 : Int32)), .val (.int (1 : Int32)), .val (.int (1 : Int32)), .val (.int (1 : Int32)), .val (.int (1 : Int32))] [(.int (1 : Int32))])) _
          exact retN X108 hx (t := .boolean) Bd.returns (by simp) (hb hby at_122) hr
        · show QL n0 _ T108.heap _
          rw [hh108]
          exact ⟨rfl, N108⟩
set_option maxRecDepth 65536 in
set_option maxHeartbeats 40000000 in
theorem comes_1 {Post : Tables → Env → Array Value → State → Outcome → State → Prop} (hpost : ∀ tb e args s v u, (limb_1_1.after args s (.returned v) u = true ∧ limb_1_2.after args s (.returned v) u = true ∧ True) → FrameEnd s (.returned v) u (Jvm.fieldLocs frame_1_writes args s ++ Jvm.arrayLocs frame_1_arrays args s ++ Jvm.staticLocs frame_1_statics s) 0 0 → Post tb e args s (.returned v) u) :
    ArmFor flags0 classFile x code maxLocals ret World_1 tables_1 room_1 Calls_1 rest_1 Pre_1 Post := by
  intro l hfl _ _ p e ha hc hk s m args below hf hA hF happ hP
  obtain ⟨hcalls, hrest, hpre⟩ := hP
  obtain ⟨-, -, -, hnamed, -, -, -, hat⟩ := (Spec.applies_iff hf).mp happ
  obtain ⟨hg, hn⟩ := and_e (Cond.before_iff.mp (show (Jvm.Cond.and given_1 narrow_1).before args s = true from hpre))
  obtain ⟨g0, r0⟩ := and_e hg
  obtain ⟨g1, r1⟩ := and_e r0
  obtain ⟨g2, r2⟩ := and_e r1
  obtain ⟨w0, w1, w2, rfl⟩ : ∃ w0 w1 w2 : Value, args = #[w0, w1, w2] := by
    have hs : args.size = 3 := by simpa [Cond.value, given_1] using g0
    obtain ⟨L⟩ := args
    match L, hs with
    | [w0, w1, w2], _ => exact ⟨w0, w1, w2, rfl⟩
  have hw := fun d (hd : d ∈ tables_1) => atoms_spec (ws := Jvm.Cond.code x code maxLocals ret :: tables_1) hat d (List.mem_cons_of_mem _ hd)
  have hfit : Fit s := fun {y c} hc i hi => by
    obtain ⟨ha, rfl⟩ := Array.getElem?_eq_some_iff.mp hc
    have q := List.all_eq_true.mp ((Array.all_eq_true_iff_forall_mem.mp hF) _ (Array.getElem_mem ha)) i (List.mem_range.mpr hi)
    simpa [Array.getElem?_eq_getElem hi] using q
  obtain ⟨i0, ei0⟩ := is_v g1
  obtain rfl : w0 = (.int i0) := Option.some.inj ei0
  obtain ⟨i1, ei1⟩ := is_v g2
  obtain rfl : w1 = (.int i1) := Option.some.inj ei1
  obtain ⟨i2, ei2⟩ := is_v r2
  obtain rfl : w2 = (.int i2) := Option.some.inj ei2
  obtain ⟨n0, m0⟩ := and_e hn
  obtain ⟨a_NONE, ev_a_NONE⟩ := exa_v n0
  have X_a_NONE := Exa.start ev_a_NONE n0
  have S_a_NONE := Sta.start ev_a_NONE (Or.inr ⟨(hw _ (List.mem_of_getElem? (i := 5) rfl)), (hw _ (List.mem_of_getElem? (i := 6) rfl))⟩)
  obtain ⟨n1, m1⟩ := and_e m0
  obtain ⟨a_FROM, ev_a_FROM⟩ := exa_v n1
  have X_a_FROM := Exa.start ev_a_FROM n1
  have S_a_FROM := Sta.start ev_a_FROM (Or.inr ⟨(hw _ (List.mem_of_getElem? (i := 5) rfl)), (hw _ (List.mem_of_getElem? (i := 13) rfl))⟩)
  obtain ⟨n2, m2⟩ := and_e m1
  have F_a_NONE_ordinal := own_fldI ev_a_NONE n2
  obtain ⟨n3, m3⟩ := and_e m2
  have F_a_FROM_ordinal := own_fldI ev_a_FROM n3
  obtain ⟨n4, m4⟩ := and_e m3
  obtain ⟨a_BOTH, ev_a_BOTH⟩ := exa_v n4
  have X_a_BOTH := Exa.start ev_a_BOTH n4
  have S_a_BOTH := Sta.start ev_a_BOTH (Or.inr ⟨(hw _ (List.mem_of_getElem? (i := 5) rfl)), (hw _ (List.mem_of_getElem? (i := 15) rfl))⟩)
  obtain ⟨n5, m5⟩ := and_e m4
  have F_a_BOTH_ordinal := own_fldI ev_a_BOTH n5
  obtain ⟨n6, m6⟩ := and_e m5
  obtain ⟨a_TO, ev_a_TO⟩ := exa_v n6
  have X_a_TO := Exa.start ev_a_TO n6
  have S_a_TO := Sta.start ev_a_TO (Or.inr ⟨(hw _ (List.mem_of_getElem? (i := 5) rfl)), (hw _ (List.mem_of_getElem? (i := 27) rfl))⟩)
  have F_a_TO_ordinal := own_fldI ev_a_TO m6
  obtain ⟨n, o, h1, h2, h3, _, L, rfl, ⟨rfl, N⟩, hq⟩ := rm0 l s _ hw tables_1 i0 i1 i2 a_NONE a_FROM a_BOTH a_TO s.heap s.heap.size (Old.start s) ⟨S_a_NONE, X_a_NONE, S_a_FROM, X_a_FROM, S_a_BOTH, X_a_BOTH, S_a_TO, X_a_TO, F_a_NONE_ordinal, F_a_FROM_ordinal, F_a_BOTH_ordinal, F_a_TO_ordinal⟩ p e ha hc hk s m _ below hf ((Spec.applies_iff_loose hf).mp happ).1 ⟨rfl, State.Warmed39.refl s, rfl⟩ trivial
  refine ⟨n, _, h1, h2, h3, hpost _ _ _ _ _ _ ⟨Cond.after_iff.mpr rfl, Cond.after_iff.mpr (eq_i res_at (Term.int_eval (1)) rfl), trivial⟩ ⟨hq.1, hq.2.1, (hq.2.2.sift fun y hy => Or.inr (N y hy)).mono (by decide) (by decide)⟩⟩
theorem main_1_1 : Claimed_1_1 := comes_1 fun _ _ _ _ _ _ h hF => ⟨h.1, hF⟩
theorem main_1_2 : Claimed_1_2 := comes_1 fun _ _ _ _ _ _ h hF => ⟨h.2.1, hF⟩
end Jvm.Pilot.@@N@@
namespace Jvm.Pilot.@@N@@
open Jvm Jvm.ClassFile Sem Op Lib Jvm.Free Jvm.Stand Jvm.Pilot.@@N@@.Jvm.D
/-! MADE BY PROGRAM (witnessworld.py) out of the Statement's table words and the real class files: 12 classes; the members and pool entries that the words name. The judged class is class 1, her method 2. -/
namespace start1
open Jvm.ClassFile
def u (s : String) : CpInfo := .utf8 (stringToUtf16 s)
/-- a pool by its gaps: so many unusable entries, then the entry; so many at the end -/
def gap : Nat → List CpInfo → List CpInfo
  | 0, r => r
  | n + 1, r => .unusable :: gap n r
def poolList (es : List (Nat × CpInfo)) (last : Nat) : List CpInfo := es.foldr (fun e r => gap e.1 (e.2 :: r)) (gap last [])
def pool (es : List (Nat × CpInfo)) (last : Nat) : Array CpInfo := ⟨poolList es last⟩
def fileOf (pool : Array CpInfo) (this : Nat) (attrs : Array Attribute := #[]) (ms : Array MethodInfo := #[]) (fl : Nat := 33) (sup : Nat := 0) (ifs : Array Nat := #[]) (fds : Array FieldInfo := #[]) : ClassFile where
  minorVersion := 0
  majorVersion := 65
  constantPool := pool
  accessFlags := fl
  thisClass := this
  superClass := sup
  interfaces := ifs
  fields := fds
  methods := ms
  attributes := attrs
def plain (name : String) (sup : Option ClassId) : Class where
  name := name
  kind := .ordinary
  loader := none
  accessFlags := 33
  super := sup
  interfaces := #[]
  cf := none
  fields := #[]
  methods := #[]
  instanceTypes := #[]
  staticTypes := #[]
  resolved := #[]
  callSites := []
  init := .initialized
  statics := none
  mirror := none

def pool0 : Array CpInfo := pool [(5, u "<init>"), (0, u "()V"), (1, .class_ 10), (1, u "java/lang/Object")] 113

def k0m0 : Method := { name := "<init>", desc := "()V", sig := { parameters := [], returnType := none }, accessFlags := 1, code := none }
/-- java/lang/Object -/
def k0 : Class := { plain "java/lang/Object" none with
  accessFlags := 33
  interfaces := #[]
  cf := some (fileOf pool0 8 #[] #[{ accessFlags := 1, nameIndex := 5, descriptorIndex := 6, attributes := #[] }] 33 0 #[] #[])
  fields := #[]
  methods := #[k0m0]
  instanceTypes := #[]
  staticTypes := #[]
  resolved := Array.replicate 124 none
  statics := none }

def pool1 : Array CpInfo := pool [(2, .class_ 4), (1, u "java/lang/Object"), (0, u "<init>"), (0, u "()V"), (0, .fieldref 8 9), (0, .class_ 10), (0, .nameAndType 11 12), (0, u "com/example/carbonfold/carbonfold/model/RosterItem$Subscription"), (0, u "NONE"), (0, u "Lcom/example/carbonfold/carbonfold/model/RosterItem$Subscription;"), (0, .fieldref 8 14), (0, .nameAndType 15 12), (0, u "TO"), (0, .fieldref 8 17), (0, .nameAndType 18 12), (0, u "FROM"), (0, .fieldref 8 20), (0, .nameAndType 21 12), (0, u "BOTH"), (0, .methodref 23 24), (0, .class_ 25), (0, .nameAndType 26 27), (0, u "com/example/carbonfold/carbonfold/model/SubscriptionHasFromPinLaw"), (0, u "pick"), (0, u "(I)Lcom/example/carbonfold/carbonfold/model/RosterItem$Subscription;"), (0, .methodref 8 29), (0, .nameAndType 30 31), (0, u "hasFrom"), (0, u "()Z"), (0, .methodref 8 33), (0, .nameAndType 34 35), (0, u "withFrom"), (0, u "(Z)Lcom/example/carbonfold/carbonfold/model/RosterItem$Subscription;"), (0, .methodref 8 37), (0, .nameAndType 38 35), (0, u "withTo"), (3, u "law"), (0, u "(III)Z")] 6

def k1m0 : Method := { name := "<init>", desc := "()V", sig := { parameters := [], returnType := none }, accessFlags := 1, code := none }
def k1c1 : Code := { maxStack := 2, maxLocals := 2, code := method_2_code, exceptionTable := #[], attributes := #[] }
def k1m1 : Method := { name := "pick", desc := "(I)Lcom/example/carbonfold/carbonfold/model/RosterItem$Subscription;", sig := { parameters := [.int], returnType := some (.object "com/example/carbonfold/carbonfold/model/RosterItem$Subscription") }, accessFlags := 10, code := some k1c1 }
def k1c2 : Code := { maxStack := 2, maxLocals := 10, code := code, exceptionTable := #[], attributes := #[] }
def k1m2 : Method := { name := "law", desc := "(III)Z", sig := { parameters := [.int, .int, .int], returnType := some .boolean }, accessFlags := 9, code := some k1c2 }
/-- com/example/carbonfold/carbonfold/model/SubscriptionHasFromPinLaw -/
def k1 : Class := { plain "com/example/carbonfold/carbonfold/model/SubscriptionHasFromPinLaw" (some 0) with
  accessFlags := 49
  interfaces := #[]
  cf := some (fileOf pool1 23 #[] #[{ accessFlags := 1, nameIndex := 5, descriptorIndex := 6, attributes := #[] }, { accessFlags := 10, nameIndex := 26, descriptorIndex := 27, attributes := #[] }, { accessFlags := 9, nameIndex := 42, descriptorIndex := 43, attributes := #[] }] 49 2 #[] #[])
  fields := #[]
  methods := #[k1m0, k1m1, k1m2]
  instanceTypes := #[]
  staticTypes := #[]
  resolved := Array.replicate 50 none
  statics := none }

def pool2 : Array CpInfo := pool [(1, .class_ 2), (0, u "java/lang/constant/Constable"), (0, .class_ 4), (0, u "java/lang/Object")] 6

/-- java/lang/constant/Constable -/
def k2 : Class := { plain "java/lang/constant/Constable" (some 0) with
  accessFlags := 1537
  interfaces := #[]
  cf := some (fileOf pool2 1 #[] #[] 1537 3 #[] #[])
  fields := #[]
  methods := #[]
  instanceTypes := #[]
  staticTypes := #[]
  resolved := Array.replicate 11 none
  statics := none }

def pool3 : Array CpInfo := pool [(1, .class_ 2), (0, u "java/lang/Comparable"), (0, .class_ 4), (0, u "java/lang/Object")] 7

/-- java/lang/Comparable -/
def k3 : Class := { plain "java/lang/Comparable" (some 0) with
  accessFlags := 1537
  interfaces := #[]
  cf := some (fileOf pool3 1 #[] #[] 1537 3 #[] #[])
  fields := #[]
  methods := #[]
  instanceTypes := #[]
  staticTypes := #[]
  resolved := Array.replicate 12 none
  statics := none }

def pool4 : Array CpInfo := pool [(1, .class_ 2), (0, u "java/io/Serializable"), (0, .class_ 4), (0, u "java/lang/Object")] 2

/-- java/io/Serializable -/
def k4 : Class := { plain "java/io/Serializable" (some 0) with
  accessFlags := 1537
  interfaces := #[]
  cf := some (fileOf pool4 1 #[] #[] 1537 3 #[] #[])
  fields := #[]
  methods := #[]
  instanceTypes := #[]
  staticTypes := #[]
  resolved := Array.replicate 7 none
  statics := none }

def pool5 : Array CpInfo := pool [(2, .class_ 4), (1, u "java/lang/Enum"), (0, u "name"), (0, u "Ljava/lang/String;"), (2, u "ordinal"), (0, u "I"), (1, .class_ 14), (1, u "java/lang/Object"), (4, u "hash"), (86, .class_ 108), (1, u "java/lang/Enum$EnumDesc"), (2, .class_ 112), (0, u "java/lang/constant/Constable"), (0, .class_ 114), (0, u "java/lang/Comparable"), (0, .class_ 116), (0, u "java/io/Serializable")] 87

/-- java/lang/Enum -/
def k5 : Class := { plain "java/lang/Enum" (some 0) with
  accessFlags := 1057
  interfaces := #[2, 3, 4]
  cf := some (fileOf pool5 2 #[.nestMembers #[106]] #[] 1057 12 #[111, 113, 115] #[{ accessFlags := 18, nameIndex := 5, descriptorIndex := 6, attributes := #[] }, { accessFlags := 18, nameIndex := 9, descriptorIndex := 10, attributes := #[] }, { accessFlags := 2, nameIndex := 19, descriptorIndex := 10, attributes := #[] }])
  fields := #[{ name := "name", type := (.object "java/lang/String"), accessFlags := 18, slot := 0, constantValue := 0 }, { name := "ordinal", type := .int, accessFlags := 18, slot := 1, constantValue := 0 }, { name := "hash", type := .int, accessFlags := 2, slot := 2, constantValue := 0 }]
  methods := #[]
  instanceTypes := #[(.object "java/lang/String"), .int, .int]
  staticTypes := #[]
  resolved := Array.replicate 204 none
  statics := none }

def pool6 : Array CpInfo := pool [(1, .class_ 2), (0, u "com/example/carbonfold/carbonfold/model/RosterItem$Subscription"), (0, .fieldref 1 4), (0, .nameAndType 5 6), (0, u "NONE"), (0, u "Lcom/example/carbonfold/carbonfold/model/RosterItem$Subscription;"), (0, .fieldref 1 8), (0, .nameAndType 9 6), (0, u "TO"), (0, .fieldref 1 11), (0, .nameAndType 12 6), (0, u "FROM"), (0, .fieldref 1 14), (0, .nameAndType 15 6), (0, u "BOTH"), (2, u "$VALUES"), (0, u "[Lcom/example/carbonfold/carbonfold/model/RosterItem$Subscription;"), (6, .class_ 28), (1, u "java/lang/Enum"), (22, .methodref 1 52), (0, .nameAndType 53 54), (0, u "hasFrom"), (0, u "()Z"), (0, .methodref 1 56), (0, .nameAndType 57 58), (0, u "combined"), (0, u "(ZZ)Lcom/example/carbonfold/carbonfold/model/RosterItem$Subscription;"), (0, .methodref 1 60), (0, .nameAndType 61 54), (0, u "hasTo"), (35, u "withTo"), (0, u "(Z)Lcom/example/carbonfold/carbonfold/model/RosterItem$Subscription;"), (0, u "withFrom"), (6, .class_ 107), (0, u "com/example/carbonfold/carbonfold/model/RosterItem")] 16

def k6c0 : Code := { maxStack := 2, maxLocals := 1, code := prog_67_method_5_code, exceptionTable := #[], attributes := #[] }
def k6m0 : Method := { name := "hasTo", desc := "()Z", sig := { parameters := [], returnType := some .boolean }, accessFlags := 1, code := some k6c0 }
def k6c1 : Code := { maxStack := 2, maxLocals := 1, code := prog_67_method_6_code, exceptionTable := #[], attributes := #[] }
def k6m1 : Method := { name := "hasFrom", desc := "()Z", sig := { parameters := [], returnType := some .boolean }, accessFlags := 1, code := some k6c1 }
def k6c2 : Code := { maxStack := 2, maxLocals := 2, code := prog_67_method_7_code, exceptionTable := #[], attributes := #[] }
def k6m2 : Method := { name := "withTo", desc := "(Z)Lcom/example/carbonfold/carbonfold/model/RosterItem$Subscription;", sig := { parameters := [.boolean], returnType := some (.object "com/example/carbonfold/carbonfold/model/RosterItem$Subscription") }, accessFlags := 1, code := some k6c2 }
def k6c3 : Code := { maxStack := 2, maxLocals := 2, code := prog_67_method_8_code, exceptionTable := #[], attributes := #[] }
def k6m3 : Method := { name := "withFrom", desc := "(Z)Lcom/example/carbonfold/carbonfold/model/RosterItem$Subscription;", sig := { parameters := [.boolean], returnType := some (.object "com/example/carbonfold/carbonfold/model/RosterItem$Subscription") }, accessFlags := 1, code := some k6c3 }
def k6c4 : Code := { maxStack := 1, maxLocals := 2, code := prog_67_method_9_code, exceptionTable := #[], attributes := #[] }
def k6m4 : Method := { name := "combined", desc := "(ZZ)Lcom/example/carbonfold/carbonfold/model/RosterItem$Subscription;", sig := { parameters := [.boolean, .boolean], returnType := some (.object "com/example/carbonfold/carbonfold/model/RosterItem$Subscription") }, accessFlags := 10, code := some k6c4 }
/-- com/example/carbonfold/carbonfold/model/RosterItem$Subscription -/
def k6 : Class := { plain "com/example/carbonfold/carbonfold/model/RosterItem$Subscription" (some 5) with
  accessFlags := 16433
  interfaces := #[]
  cf := some (fileOf pool6 1 #[.nestHost 106] #[{ accessFlags := 1, nameIndex := 61, descriptorIndex := 54, attributes := #[] }, { accessFlags := 1, nameIndex := 53, descriptorIndex := 54, attributes := #[] }, { accessFlags := 1, nameIndex := 97, descriptorIndex := 98, attributes := #[] }, { accessFlags := 1, nameIndex := 99, descriptorIndex := 98, attributes := #[] }, { accessFlags := 10, nameIndex := 57, descriptorIndex := 58, attributes := #[] }] 16433 26 #[] #[{ accessFlags := 16409, nameIndex := 5, descriptorIndex := 6, attributes := #[] }, { accessFlags := 16409, nameIndex := 9, descriptorIndex := 6, attributes := #[] }, { accessFlags := 16409, nameIndex := 12, descriptorIndex := 6, attributes := #[] }, { accessFlags := 16409, nameIndex := 15, descriptorIndex := 6, attributes := #[] }, { accessFlags := 4122, nameIndex := 18, descriptorIndex := 19, attributes := #[] }])
  fields := #[{ name := "NONE", type := (.object "com/example/carbonfold/carbonfold/model/RosterItem$Subscription"), accessFlags := 16409, slot := 0, constantValue := 0 }, { name := "TO", type := (.object "com/example/carbonfold/carbonfold/model/RosterItem$Subscription"), accessFlags := 16409, slot := 1, constantValue := 0 }, { name := "FROM", type := (.object "com/example/carbonfold/carbonfold/model/RosterItem$Subscription"), accessFlags := 16409, slot := 2, constantValue := 0 }, { name := "BOTH", type := (.object "com/example/carbonfold/carbonfold/model/RosterItem$Subscription"), accessFlags := 16409, slot := 3, constantValue := 0 }, { name := "$VALUES", type := (.array (.object "com/example/carbonfold/carbonfold/model/RosterItem$Subscription")), accessFlags := 4122, slot := 4, constantValue := 0 }]
  methods := #[k6m0, k6m1, k6m2, k6m3, k6m4]
  instanceTypes := #[(.object "java/lang/String"), .int, .int]
  staticTypes := #[(.object "com/example/carbonfold/carbonfold/model/RosterItem$Subscription"), (.object "com/example/carbonfold/carbonfold/model/RosterItem$Subscription"), (.object "com/example/carbonfold/carbonfold/model/RosterItem$Subscription"), (.object "com/example/carbonfold/carbonfold/model/RosterItem$Subscription"), (.array (.object "com/example/carbonfold/carbonfold/model/RosterItem$Subscription"))]
  resolved := Array.replicate 124 none
  statics := some 0 }

def pool7 : Array CpInfo := pool [(1, u "java/lang/Cloneable"), (0, .class_ 1), (0, u "java/lang/Object"), (0, .class_ 3)] 3

/-- java/lang/Cloneable -/
def k7 : Class := { plain "java/lang/Cloneable" (some 0) with
  accessFlags := 1537
  interfaces := #[]
  cf := some (fileOf pool7 2 #[] #[] 1537 4 #[] #[])
  fields := #[]
  methods := #[]
  instanceTypes := #[]
  staticTypes := #[]
  resolved := Array.replicate 8 none
  statics := none }

/-- the primitive byte -/
def k8 : Class := { plain "byte" none with kind := .primitive 'B', accessFlags := 0x411 }
/-- [B -/
def k9 : Class := { plain "[B" (some 0) with kind := .array 8 .byte, interfaces := #[7, 4], accessFlags := 1041 }

/-- the primitive int -/
def k10 : Class := { plain "int" none with kind := .primitive 'I', accessFlags := 0x411 }
/-- [I -/
def k11 : Class := { plain "[I" (some 0) with kind := .array 10 .int, interfaces := #[7, 4], accessFlags := 1041 }

def heap : Heap := #[{ cls := 6, slots := #[.ref 1, .ref 4, .ref 2, .ref 3, .null], vm := .statics 6 },
  { cls := 6, slots := #[.null, .int 0, .int 0], vm := .none },
  { cls := 6, slots := #[.null, .int 2, .int 0], vm := .none },
  { cls := 6, slots := #[.null, .int 3, .int 0], vm := .none },
  { cls := 6, slots := #[.null, .int 1, .int 0], vm := .none }]
def classes : Array Class := #[k0, k1, k2, k3, k4, k5, k6, k7, k8, k9, k10, k11]
def interned : List (Array UInt16 × Addr) := []
def slotsUsed : Nat := 17
def theMethod : MethodId := ⟨1, 2⟩
def args0 : Array Value := #[.int 5, .int 1, .int 0]
def aboutOver (below : List Frame) : State where
  vm := { classes := classes, interned := interned.toArray }
  heap := heap
  slotsUsed := slotsUsed
  threads := #[{ frames := .invoking theMethod args0 :: below }]
def below0 : List Frame := [.native { method := ⟨0, 0⟩, args := #[] }]
def about1 : State := aboutOver below0
def p0 : Program := .bare "" "" ""
def e0 : Env := launch0.env 0 0 0
theorem w_frames : about1.frames = Frame.invoking theMethod args0 :: below0 := rfl
set_option maxRecDepth 65536 in
theorem w_args : argsFit about1.vm theMethod args0 = true := by decide +kernel
set_option maxRecDepth 65536 in
theorem w_heap : heapFits about1 = true := by decide +kernel
set_option maxRecDepth 65536 in
theorem w_runnable : about1.curStatus? = some .runnable := by decide +kernel
set_option maxRecDepth 65536 in
theorem w_alone : about1.alone = true := by decide +kernel
set_option maxRecDepth 65536 in
theorem w_named : about1.methodNamed? x = some theMethod := by decide +kernel
set_option maxRecDepth 65536 in
theorem w_hears : about1.hears theMethod below0 = true := by decide +kernel
set_option maxRecDepth 65536 in
theorem w_ripe : about1.ripe theMethod args0 below0 = true := by decide +kernel
theorem w_running : about1.status = .running := rfl
set_option maxRecDepth 65536 in
theorem w_room : about1.hasRoom e0.platform room_1 = true :=
  launch0.hasRoom_least _ room_1 (by decide +kernel) (by decide +kernel) (by decide +kernel) (by decide +kernel) (by decide +kernel) (by decide +kernel)
theorem allAtoms_all (ts : List Jvm.Cond) (a : Array Jvm.Value) (st : Jvm.State) : (allAtoms ts).before a st = ts.all (fun c => c.before a st) := by
  induction ts with
  | nil => rfl
  | cons c t ih =>
    show (Jvm.Cond.and c (allAtoms t)).before a st = _
    rw [Jvm.Cond.before_and, ih, List.all_cons]
def words1 : List Jvm.Cond := Jvm.Cond.code x code maxLocals ret :: tables_1
/-- a 'code' word, met by the world's own term for the bytes: nothing is compared byte by byte -/
theorem code_word {y : MethodName} {bytes : ByteArray} {mx : Nat} {rt : Option FieldType} {a : Array Value} {s : State} {m : MethodId} {meth : Method} {c : Code} (h1 : s.methodNamed? y = some m) (h2 : s.vm.method? m = some meth) (h3 : meth.code = some c) (h4 : c.code = bytes)
    (h5 : (c.maxLocals == mx && c.exceptionTable.isEmpty && decide (c.maxStack ≤ mostOperands) && decide (meth.sig.returnType = rt) && !meth.locks && decide (parseMethodDescriptor y.desc = some meth.sig)) = true) : (Jvm.Cond.code y bytes mx rt).before a s = true := by
  simp only [Bool.and_eq_true, beq_iff_eq, Bool.not_eq_true', decide_eq_true_eq] at h5
  obtain ⟨⟨⟨⟨⟨g1, g2⟩, g3⟩, g4⟩, g5⟩, g6⟩ := h5
  simp [Cond.before, Cond.holds, Cond.value, h1, h2, h3, h4, g1, g2, g3, g4, g5, g6]
def isCode : Jvm.Cond → Bool
  | .code _ _ _ _ => true
  | _ => false
theorem all_split {L : List Jvm.Cond} {P : Jvm.Cond → Bool} (h1 : L.all (fun c => isCode c || P c) = true) (h2 : ∀ c ∈ L.filter isCode, P c = true) : L.all P = true := by
  refine List.all_eq_true.mpr fun c hc => ?_
  have h := List.all_eq_true.mp h1 c hc
  rcases Bool.eq_false_or_eq_true (isCode c) with hi | hi
  · exact h2 c (List.mem_filter.mpr ⟨hc, hi⟩)
  · simpa [hi] using h
set_option maxRecDepth 65536 in
theorem w_c0 : (Jvm.Cond.code x code maxLocals ret).before args0 about1 = true := code_word (m := ⟨1, 2⟩) (meth := k1m2) (c := k1c2) (by decide +kernel) rfl rfl rfl (by decide +kernel)
set_option maxRecDepth 65536 in
theorem w_c1 : (Jvm.Cond.code ({ cls := "com/example/carbonfold/carbonfold/model/SubscriptionHasFromPinLaw", name := "pick", desc := "(I)Lcom/example/carbonfold/carbonfold/model/RosterItem$Subscription;" } : Jvm.MethodName) method_2_code (2 : Nat) (Option.some (Jvm.ClassFile.FieldType.object "com/example/carbonfold/carbonfold/model/RosterItem$Subscription"))).before args0 about1 = true := code_word (m := ⟨1, 1⟩) (meth := k1m1) (c := k1c1) (by decide +kernel) rfl rfl rfl (by decide +kernel)
set_option maxRecDepth 65536 in
theorem w_c2 : (Jvm.Cond.code ({ cls := "com/example/carbonfold/carbonfold/model/RosterItem$Subscription", name := "hasFrom", desc := "()Z" } : Jvm.MethodName) prog_67_method_6_code (1 : Nat) (Option.some Jvm.ClassFile.FieldType.boolean)).before args0 about1 = true := code_word (m := ⟨6, 1⟩) (meth := k6m1) (c := k6c1) (by decide +kernel) rfl rfl rfl (by decide +kernel)
set_option maxRecDepth 65536 in
theorem w_c3 : (Jvm.Cond.code ({ cls := "com/example/carbonfold/carbonfold/model/RosterItem$Subscription", name := "withFrom", desc := "(Z)Lcom/example/carbonfold/carbonfold/model/RosterItem$Subscription;" } : Jvm.MethodName) prog_67_method_8_code (2 : Nat) (Option.some (Jvm.ClassFile.FieldType.object "com/example/carbonfold/carbonfold/model/RosterItem$Subscription"))).before args0 about1 = true := code_word (m := ⟨6, 3⟩) (meth := k6m3) (c := k6c3) (by decide +kernel) rfl rfl rfl (by decide +kernel)
set_option maxRecDepth 65536 in
theorem w_c4 : (Jvm.Cond.code ({ cls := "com/example/carbonfold/carbonfold/model/RosterItem$Subscription", name := "hasTo", desc := "()Z" } : Jvm.MethodName) prog_67_method_5_code (1 : Nat) (Option.some Jvm.ClassFile.FieldType.boolean)).before args0 about1 = true := code_word (m := ⟨6, 0⟩) (meth := k6m0) (c := k6c0) (by decide +kernel) rfl rfl rfl (by decide +kernel)
set_option maxRecDepth 65536 in
theorem w_c5 : (Jvm.Cond.code ({ cls := "com/example/carbonfold/carbonfold/model/RosterItem$Subscription", name := "combined", desc := "(ZZ)Lcom/example/carbonfold/carbonfold/model/RosterItem$Subscription;" } : Jvm.MethodName) prog_67_method_9_code (2 : Nat) (Option.some (Jvm.ClassFile.FieldType.object "com/example/carbonfold/carbonfold/model/RosterItem$Subscription"))).before args0 about1 = true := code_word (m := ⟨6, 4⟩) (meth := k6m4) (c := k6c4) (by decide +kernel) rfl rfl rfl (by decide +kernel)
set_option maxRecDepth 65536 in
theorem w_c6 : (Jvm.Cond.code ({ cls := "com/example/carbonfold/carbonfold/model/RosterItem$Subscription", name := "withTo", desc := "(Z)Lcom/example/carbonfold/carbonfold/model/RosterItem$Subscription;" } : Jvm.MethodName) prog_67_method_7_code (2 : Nat) (Option.some (Jvm.ClassFile.FieldType.object "com/example/carbonfold/carbonfold/model/RosterItem$Subscription"))).before args0 about1 = true := code_word (m := ⟨6, 2⟩) (meth := k6m2) (c := k6c2) (by decide +kernel) rfl rfl rfl (by decide +kernel)
def codes1 : List Jvm.Cond := [Jvm.Cond.code x code maxLocals ret, Jvm.Cond.code ({ cls := "com/example/carbonfold/carbonfold/model/SubscriptionHasFromPinLaw", name := "pick", desc := "(I)Lcom/example/carbonfold/carbonfold/model/RosterItem$Subscription;" } : Jvm.MethodName) method_2_code (2 : Nat) (Option.some (Jvm.ClassFile.FieldType.object "com/example/carbonfold/carbonfold/model/RosterItem$Subscription")), Jvm.Cond.code ({ cls := "com/example/carbonfold/carbonfold/model/RosterItem$Subscription", name := "hasFrom", desc := "()Z" } : Jvm.MethodName) prog_67_method_6_code (1 : Nat) (Option.some Jvm.ClassFile.FieldType.boolean), Jvm.Cond.code ({ cls := "com/example/carbonfold/carbonfold/model/RosterItem$Subscription", name := "withFrom", desc := "(Z)Lcom/example/carbonfold/carbonfold/model/RosterItem$Subscription;" } : Jvm.MethodName) prog_67_method_8_code (2 : Nat) (Option.some (Jvm.ClassFile.FieldType.object "com/example/carbonfold/carbonfold/model/RosterItem$Subscription")), Jvm.Cond.code ({ cls := "com/example/carbonfold/carbonfold/model/RosterItem$Subscription", name := "hasTo", desc := "()Z" } : Jvm.MethodName) prog_67_method_5_code (1 : Nat) (Option.some Jvm.ClassFile.FieldType.boolean), Jvm.Cond.code ({ cls := "com/example/carbonfold/carbonfold/model/RosterItem$Subscription", name := "combined", desc := "(ZZ)Lcom/example/carbonfold/carbonfold/model/RosterItem$Subscription;" } : Jvm.MethodName) prog_67_method_9_code (2 : Nat) (Option.some (Jvm.ClassFile.FieldType.object "com/example/carbonfold/carbonfold/model/RosterItem$Subscription")), Jvm.Cond.code ({ cls := "com/example/carbonfold/carbonfold/model/RosterItem$Subscription", name := "withTo", desc := "(Z)Lcom/example/carbonfold/carbonfold/model/RosterItem$Subscription;" } : Jvm.MethodName) prog_67_method_7_code (2 : Nat) (Option.some (Jvm.ClassFile.FieldType.object "com/example/carbonfold/carbonfold/model/RosterItem$Subscription"))]
set_option maxRecDepth 65536 in
theorem codes_eq : words1.filter isCode = codes1 := rfl
theorem w_codes : ∀ c ∈ words1.filter isCode, c.before args0 about1 = true := by
  rw [codes_eq]
  intro c hc
  simp only [codes1, List.mem_cons, List.not_mem_nil, or_false] at hc
  rcases hc with rfl | rfl | rfl | rfl | rfl | rfl | rfl
  · exact w_c0
  · exact w_c1
  · exact w_c2
  · exact w_c3
  · exact w_c4
  · exact w_c5
  · exact w_c6
set_option maxRecDepth 65536 in
theorem w_t1 : (words1.take 24).all (fun c => isCode c || c.before args0 about1) = true := by decide +kernel
set_option maxRecDepth 65536 in
theorem w_t2 : (words1.drop 24).all (fun c => isCode c || c.before args0 about1) = true := by decide +kernel
theorem w_tables : (allAtoms (Jvm.Cond.code x code maxLocals ret :: tables_1)).before args0 about1 = true := by
  rw [allAtoms_all]
  show words1.all (fun c => c.before args0 about1) = true
  refine all_split ?_ w_codes
  rw [← List.take_append_drop 24 words1, List.all_append, w_t1, w_t2]
  rfl
set_option maxRecDepth 65536 in
theorem w_case : (Jvm.Cond.and given_1 narrow_1).before args0 about1 = true := by decide +kernel
theorem w_applies : (headSpec (Jvm.Cond.code x code maxLocals ret :: tables_1) room_1).applies x e0.platform about1 = true :=
  (Spec.applies_iff w_frames).mpr ⟨w_running, w_runnable, w_alone, w_named, w_hears, w_ripe, w_room, w_tables⟩
theorem atStart : AtStart classFile x code maxLocals ret World_1 tables_1 room_1 Calls_1 rest_1 Pre_1 launch0 p0 e0 about1 theMethod args0 below0 :=
  ⟨lists_1, trivial, launch0.admits_env _ _ _, launch0.least_env, fairChoices_fair.cas, fairChoices_fair.clock, w_frames, w_args, w_heap, w_applies, trivial, trivial, w_case⟩
end start1
theorem witness_1 : WitnessClaimed_1 := ⟨start1.p0, start1.e0, start1.about1, start1.theMethod, start1.args0, start1.below0, start1.atStart⟩
end Jvm.Pilot.@@N@@
