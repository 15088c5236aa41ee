import JvmDerived
import JvmDerived.Pilot.@@N@@Statement
import JvmDerived.Pilot.@@N@@Code
set_option linter.unusedVariables false
set_option linter.unusedSimpArgs false
namespace Jvm.RoadKit
open Sem ClassFile Op Lib Jvm.Stand Jvm.Free Jvm.LawKit
section New
variable {p : Program} {l : Launch} {e : Env} {R : Room} {s : State} {m : MethodId} {args : Array Value} {below : List Frame} {meth : Method} {c : Code} {T : State} {locs : List Loc} {cells slots : Nat}
theorem retI (X : Stand p l e R s m args below meth c T locs cells slots) (hx : p.tables.exec = Jvm.exec) {pc : Nat} {Ls : Array Slot} {z : Int32} {rest : List Value} (hret : meth.sig.returnType = some .int) (hd : decode c.code pc = .ok (.ireturn, 1)) {fs : List Frame}
    (hl : ∀ (f : JFrame) (acts : List Action), f.method = m → f.locked = none → f.entered = [] → (doReturn e (T.setTop f) acts (some (.int z))).1 = T.setFrames fs) : Steps p.tables e below (T.setTop (mkF m pc Ls (.int z :: rest))) (T.setFrames fs) := by
  have hm' : T.vm.method? m = some meth := X.method'
  have hn : narrow .int (.int z) = .int z := rfl
  show Steps p.tables e below (T.setTop { method := m, pc := pc, locals := Ls, stack := _ :: rest, locked := none }) _
  jvm_step X.here [X.here.top, hx, hd, hm', hret, hn]
  first | (intro acts; rw [hl _ acts rfl rfl rfl]) | rw [hl _ _ rfl rfl rfl]
  exact Steps.refl _
end New
end Jvm.RoadKit
namespace Jvm.Pilot.@@N@@
open Jvm Jvm.ClassFile Sem Op Lib Jvm.Free Jvm.Stand Jvm.LawKit Jvm.RoadKit Bundle Jvm.Pilot.@@N@@.Jvm.D
def QL (n0 : Nat) (v : Option Value) (h : Heap) (L : List Loc) : Prop := v = some (.int 1) ∧ Fr n0 L
theorem own_fldI {s : State} {args : Array Value} {t : Term} {C n d : String} {a : Addr} {k : Int32} (ht : t.eval args s none [] s = some (.ref a)) (h : (Jvm.Cond.eq (.field t C n d) (.int k)).value args s none s [] = some true) : Fld s s.heap a C n d (.int k) := by
  obtain ⟨x, y, e1, e2, k1, k2⟩ := cmp_v (Or.inl h)
  cases (Term.int_eval k).symm.trans e2
  obtain ⟨z, rfl⟩ := k2
  have e3 := e1
  rw [fld_at ht] at e3
  have q : (Jvm.Cond.eq (.field t C n d) (.int k)).value args s none s [] = some (decide (z = k)) := by simp [Cond.value, e1, Term.int_eval]
  rw [q] at h
  have hz : z = k := by simpa using h
  subst hz; exact Fld.start e3
theorem own_fldN {s : State} {args : Array Value} {t : Term} {C n d : String} {a : Addr} (ht : t.eval args s none [] s = some (.ref a)) (h : (Jvm.Cond.eq (.field t C n d) .null).value args s none s [] = some true) : Fld s s.heap a C n d .null :=
  Fld.start ((fld_at ht).symm.trans (null_v h))
theorem own_fldR {s : State} {args : Array Value} {t u : Term} {C n d : String} {a b : Addr} (ht : t.eval args s none [] s = some (.ref a)) (hu : u.eval args s none [] s = some (.ref b)) (h : (Jvm.Cond.eq (.field t C n d) u).value args s none s [] = some true) : Fld s s.heap a C n d (.ref b) := by
  obtain ⟨x, y, e1, e2, k1, k2⟩ := cmp_v (Or.inl h)
  cases hu.symm.trans e2
  have e3 := e1
  rw [fld_at ht] at e3
  have hx : x.isRef = true := k2.2
  have q := eq_R e1 hu hx rfl
  rw [q] at h
  have hz : x = .ref b := by simpa using h
  subst hz; exact Fld.start e3
def OwnEnv (Z : State) (a_LEFT_LANE_CHANGE a_RIGHT a_BRAKE a_DRIVE a_ACCELERATE a_LEFT a_RIGHT_LANE_CHANGE : Addr) : Prop := Sta Z Z.heap "com/example/roadwright/roadwright/road/Manoeuvre" "LEFT_LANE_CHANGE" "Lcom/example/roadwright/roadwright/road/Manoeuvre;" (.ref a_LEFT_LANE_CHANGE) ∧ Exa Z Z.heap a_LEFT_LANE_CHANGE "com/example/roadwright/roadwright/road/Manoeuvre" ∧ Sta Z Z.heap "com/example/roadwright/roadwright/road/Lane" "RIGHT" "Lcom/example/roadwright/roadwright/road/Lane;" (.ref a_RIGHT) ∧ Exa Z Z.heap a_RIGHT "com/example/roadwright/roadwright/road/Lane" ∧ Sta Z Z.heap "com/example/roadwright/roadwright/road/Manoeuvre" "BRAKE" "Lcom/example/roadwright/roadwright/road/Manoeuvre;" (.ref a_BRAKE) ∧ Exa Z Z.heap a_BRAKE "com/example/roadwright/roadwright/road/Manoeuvre" ∧ Sta Z Z.heap "com/example/roadwright/roadwright/road/Manoeuvre" "DRIVE" "Lcom/example/roadwright/roadwright/road/Manoeuvre;" (.ref a_DRIVE) ∧ Exa Z Z.heap a_DRIVE "com/example/roadwright/roadwright/road/Manoeuvre" ∧ Sta Z Z.heap "com/example/roadwright/roadwright/road/Manoeuvre" "ACCELERATE" "Lcom/example/roadwright/roadwright/road/Manoeuvre;" (.ref a_ACCELERATE) ∧ Exa Z Z.heap a_ACCELERATE "com/example/roadwright/roadwright/road/Manoeuvre" ∧ Sta Z Z.heap "com/example/roadwright/roadwright/road/Lane" "LEFT" "Lcom/example/roadwright/roadwright/road/Lane;" (.ref a_LEFT) ∧ Exa Z Z.heap a_LEFT "com/example/roadwright/roadwright/road/Lane" ∧ Sta Z Z.heap "com/example/roadwright/roadwright/road/Manoeuvre" "RIGHT_LANE_CHANGE" "Lcom/example/roadwright/roadwright/road/Manoeuvre;" (.ref a_RIGHT_LANE_CHANGE) ∧ Exa Z Z.heap a_RIGHT_LANE_CHANGE "com/example/roadwright/roadwright/road/Manoeuvre" ∧ Fld Z Z.heap a_LEFT_LANE_CHANGE "com/example/roadwright/roadwright/road/Manoeuvre" "changedFrom" "Lcom/example/roadwright/roadwright/road/Lane;" (.ref a_RIGHT) ∧ Fld Z Z.heap a_BRAKE "com/example/roadwright/roadwright/road/Manoeuvre" "changedFrom" "Lcom/example/roadwright/roadwright/road/Lane;" .null ∧ Fld Z Z.heap a_DRIVE "com/example/roadwright/roadwright/road/Manoeuvre" "changedFrom" "Lcom/example/roadwright/roadwright/road/Lane;" .null ∧ Fld Z Z.heap a_ACCELERATE "com/example/roadwright/roadwright/road/Manoeuvre" "changedFrom" "Lcom/example/roadwright/roadwright/road/Lane;" .null ∧ Fld Z Z.heap a_RIGHT_LANE_CHANGE "com/example/roadwright/roadwright/road/Manoeuvre" "changedFrom" "Lcom/example/roadwright/roadwright/road/Lane;" (.ref a_LEFT) ∧ Fld Z Z.heap a_LEFT "java/lang/Enum" "ordinal" "I" (.int (0 : Int32)) ∧ Fld Z Z.heap a_RIGHT "java/lang/Enum" "ordinal" "I" (.int (1 : Int32))
theorem own_k (x : Int32) : ((x &&& (2147483647 : Int32)) % (5 : Int32)) = (0 : Int32) ∨ ((x &&& (2147483647 : Int32)) % (5 : Int32)) = (1 : Int32) ∨ ((x &&& (2147483647 : Int32)) % (5 : Int32)) = (2 : Int32) ∨ ((x &&& (2147483647 : Int32)) % (5 : Int32)) = (3 : Int32) ∨ ((x &&& (2147483647 : Int32)) % (5 : Int32)) = (4 : Int32) := by
  have h1 := c_mask x 2147483647 31 (by decide) (by decide)
  have h2 := (c_irem (x &&& 2147483647) 5 5 (by decide)).1 (by omega)
  simp only [← Int32.toInt_inj]
  have e0 : (0 : Int32).toInt = 0 := rfl
  have e1 : (1 : Int32).toInt = 1 := rfl
  have e2 : (2 : Int32).toInt = 2 := rfl
  have e3 : (3 : Int32).toInt = 3 := rfl
  have e4 : (4 : Int32).toInt = 4 := rfl
  omega
theorem own_b (x : Int32) : (x &&& (1 : Int32)) = (0 : Int32) ∨ (x &&& (1 : Int32)) = (1 : Int32) := by
  have h1 := c_mask x 1 1 (by decide) (by decide)
  simp only [← Int32.toInt_inj]
  have e0 : (0 : Int32).toInt = 0 := rfl
  have e1 : (1 : Int32).toInt = 1 := rfl
  omega
def Q_rm_pick_1 (a_LEFT_LANE_CHANGE a_RIGHT a_BRAKE a_DRIVE a_ACCELERATE a_LEFT a_RIGHT_LANE_CHANGE : Addr) (h0 : Heap) (n0 : Nat) (v : Option Value) (h : Heap) (L : List Loc) : Prop := v = some (.ref a_LEFT_LANE_CHANGE) ∧ Fr n0 L ∧ h = h0
theorem pn_0 : plainName "com/example/roadwright/roadwright/road/ManoeuvreCanBeTakenInPinLaw" = true := by first | (simp [plainName, overriddenIn]; done) | decide +kernel
theorem ef_0 (m : MethodId) (x0 : Int32) (x1 : Int32) : entryFrame m #[(.int x0), (.int x1)] maxLocals = mkF m 0 #[.val (.int x0), .val (.int x1), .unset, .unset, .unset, .unset, .unset] [] := by first | (simp [entryFrame, mkF, argsToLocals, Value.category, maxLocals]; done) | rfl
theorem ef_1 (m : MethodId) (x0 : Int32) : entryFrame m #[(.int x0)] 1 = mkF m 0 #[.val (.int x0)] [] := by first | (simp [entryFrame, mkF, argsToLocals, Value.category]; done) | rfl
theorem dc0_0 : decode method_3_code 0 = .ok (.iload_n 0, 1) := by decide +kernel
theorem dc0_1 : decode method_3_code 1 = .ok (.ifCond .ne 7, 3) := by decide +kernel
theorem dc0_4 : decode method_3_code 4 = .ok (.getstatic 29, 3) := by decide +kernel
theorem dc0_7 : decode method_3_code 7 = .ok (.areturn, 1) := by decide +kernel
set_option maxRecDepth 65536 in
set_option maxHeartbeats 40000000 in
theorem rm_pick_1 (l : Launch) (Z : State) (a0 : Array Value) (hw : ∀ d ∈ tables_1, d.before a0 Z = true) (ws : List Jvm.Cond) (a_LEFT_LANE_CHANGE a_RIGHT a_BRAKE a_DRIVE a_ACCELERATE a_LEFT a_RIGHT_LANE_CHANGE : Addr) (h0 : Heap) (n0 : Nat) (O0 : Old Z n0 h0) (En : OwnEnv Z a_LEFT_LANE_CHANGE a_RIGHT a_BRAKE a_DRIVE a_ACCELERATE a_LEFT a_RIGHT_LANE_CHANGE) :
    MetFree l (⟨"com/example/roadwright/roadwright/road/ManoeuvreCanBeTakenInPinLaw", "pick", "(I)Lcom/example/roadwright/roadwright/road/Manoeuvre;"⟩ : MethodName) (head1 (Jvm.Cond.code (⟨"com/example/roadwright/roadwright/road/ManoeuvreCanBeTakenInPinLaw", "pick", "(I)Lcom/example/roadwright/roadwright/road/Manoeuvre;"⟩ : MethodName) method_3_code 1 (some (.object "com/example/roadwright/roadwright/road/Manoeuvre")) :: ws) ({ frames := 0, cells := 0, slots := 0, locals := 0 } : Room)) (fun a U => a = #[(.int (0 : Int32))] ∧ Z.Warmed39 U.vm ∧ U.heap = h0) (fun _ _ _ _ _ => True) (fun _ U o U' => ∃ v L, o = .returned v ∧ Q_rm_pick_1 a_LEFT_LANE_CHANGE a_RIGHT a_BRAKE a_DRIVE a_ACCELERATE a_LEFT a_RIGHT_LANE_CHANGE h0 n0 v U'.heap L ∧ FrameEnd U o U' L ({ frames := 0, cells := 0, slots := 0, locals := 0 } : Room).cells ({ frames := 0, cells := 0, slots := 0, locals := 0 } : Room).slots) := by
  refine MetFree.of_bodySF (plainFor_of_name pn_0) hisR ?_
  intro p e s m args below meth c s₁ Bd hml0 hP hK
  obtain ⟨rfl, hZ, hh⟩ := hP
  have hx := Bd.exec
  have hby := Bd.bytes
  have hml : c.maxLocals = 1 := hml0
  have hown : s.vm.findClass "com/example/roadwright/roadwright/road/ManoeuvreCanBeTakenInPinLaw" = some m.cls := findClass_of_methodNamed Bd.named
  have hnm := (name_of_methodNamed Bd.named Bd.method).1
  have X0 : Stand p l e ({ frames := 0, cells := 0, slots := 0, locals := 0 } : Room) s m #[(.int (0 : Int32))] below meth c s₁ [] 0 0 := Stand.of_body Bd
  have e0 : s₁.heap = h0 := by rw [← hh, Bd.state]; rfl
  have N0 := Fr.nil n0
  have pre0 : ∀ t, Steps p.tables e below (s₁.setTop (mkF m 0 #[.val (.int (0 : Int32))] [])) t → Steps p.tables e below (s₁.setTop (entryFrame m #[(.int (0 : Int32))] 1)) t := fun t k => castTop (ef_1 m (0 : Int32)) k
  obtain ⟨S_a_LEFT_LANE_CHANGE, X_a_LEFT_LANE_CHANGE, S_a_RIGHT, X_a_RIGHT, S_a_BRAKE, X_a_BRAKE, S_a_DRIVE, X_a_DRIVE, S_a_ACCELERATE, X_a_ACCELERATE, S_a_LEFT, X_a_LEFT, S_a_RIGHT_LANE_CHANGE, X_a_RIGHT_LANE_CHANGE, F_a_LEFT_LANE_CHANGE_changedFrom, F_a_BRAKE_changedFrom, F_a_DRIVE_changedFrom, F_a_ACCELERATE_changedFrom, F_a_RIGHT_LANE_CHANGE_changedFrom, F_a_LEFT_ordinal, F_a_RIGHT_ordinal⟩ := id En
  obtain ⟨T1, X1, e1, st1⟩ := getS2 X0 hx hZ hown (host := "") (Or.inl (hw _ (List.mem_of_getElem? (i := 5) rfl))) Via.refl e0 (Sta.ext O0.2 S_a_LEFT_LANE_CHANGE) (g := (mkF m 4 #[.val (.int (0 : Int32))] [])) rfl (hb hby dc0_4)
  obtain ⟨fs, hr, hrun, hended, hW, hsame⟩ := X1.leave (v := some (.ref a_LEFT_LANE_CHANGE)) (fun h => by rw [Bd.returns] at h; cases h)
  refine ⟨_, _, pre0 _ ?_, hrun, hended, _, _, rfl, ?_, ⟨_, rfl⟩, hW, hsame.mono (by decide) (by decide)⟩
  · skip
    show Steps p.tables e below (s₁.setTop (mkF m 0 #[.val (.int (0 : Int32))] [])) _
    refine XS.iloadN X0.here hx rfl (hb hby dc0_0) rfl ?_
    show Steps p.tables e below (s₁.setTop (mkF m 1 #[.val (.int (0 : Int32))] [(.int (0 : Int32))])) _
    refine XS.ifNo X0.here hx rfl (hb hby dc0_1) rfl (by decide) ?_
    show Steps p.tables e below (s₁.setTop (mkF m 4 #[.val (.int (0 : Int32))] [])) _
    refine st1 _ ?_
    show Steps p.tables e below (T1.setTop (mkF m 7 #[.val (.int (0 : Int32))] [(.ref a_LEFT_LANE_CHANGE)])) _
    exact retOut X1 hx (t := (.object "com/example/roadwright/roadwright/road/Manoeuvre")) Bd.returns rfl (Or.inr (Or.inr (Or.inr (Or.inr ⟨rfl, rfl, rfl⟩)))) (hb hby dc0_7) hr
  · show Q_rm_pick_1 a_LEFT_LANE_CHANGE a_RIGHT a_BRAKE a_DRIVE a_ACCELERATE a_LEFT a_RIGHT_LANE_CHANGE h0 n0 _ T1.heap _
    rw [e1]
    exact ⟨rfl, N0, rfl⟩
def Q_rm_canBeTakenIn_2 (a_LEFT_LANE_CHANGE a_RIGHT a_BRAKE a_DRIVE a_ACCELERATE a_LEFT a_RIGHT_LANE_CHANGE : Addr) (h0 : Heap) (n0 : Nat) (v : Option Value) (h : Heap) (L : List Loc) : Prop := v = some (.int (0 : Int32)) ∧ Fr n0 L ∧ h = h0
theorem pd_0 : parseMethodDescriptor "(I)Lcom/example/roadwright/roadwright/road/Manoeuvre;" = some ⟨[.int], some (.object "com/example/roadwright/roadwright/road/Manoeuvre")⟩ := by decide +kernel
theorem pn_1 : plainName "com/example/roadwright/roadwright/road/Manoeuvre" = true := by first | (simp [plainName, overriddenIn]; done) | decide +kernel
theorem ef_2 (m : MethodId) (x0 : Addr) (x1 : Addr) : entryFrame m #[(.ref x0), (.ref x1)] 2 = mkF m 0 #[.val (.ref x0), .val (.ref x1)] [] := by first | (simp [entryFrame, mkF, argsToLocals, Value.category]; done) | rfl
theorem dc1_0 : decode prog_67_method_10_code 0 = .ok (.aload_n 0, 1) := by decide +kernel
theorem dc1_1 : decode prog_67_method_10_code 1 = .ok (.getfield 49, 3) := by decide +kernel
theorem dc1_4 : decode prog_67_method_10_code 4 = .ok (.ifnull 11, 3) := by decide +kernel
theorem dc1_7 : decode prog_67_method_10_code 7 = .ok (.aload_n 0, 1) := by decide +kernel
theorem dc1_8 : decode prog_67_method_10_code 8 = .ok (.getfield 49, 3) := by decide +kernel
theorem dc1_11 : decode prog_67_method_10_code 11 = .ok (.aload_n 1, 1) := by decide +kernel
theorem dc1_12 : decode prog_67_method_10_code 12 = .ok (.if_acmp .ne 7, 3) := by decide +kernel
theorem dc1_19 : decode prog_67_method_10_code 19 = .ok (.iconst 0, 1) := by decide +kernel
theorem dc1_20 : decode prog_67_method_10_code 20 = .ok (.ireturn, 1) := by decide +kernel
set_option maxRecDepth 65536 in
set_option maxHeartbeats 40000000 in
theorem rm_canBeTakenIn_2 (l : Launch) (Z : State) (a0 : Array Value) (hw : ∀ d ∈ tables_1, d.before a0 Z = true) (ws : List Jvm.Cond) (a_LEFT_LANE_CHANGE a_RIGHT a_BRAKE a_DRIVE a_ACCELERATE a_LEFT a_RIGHT_LANE_CHANGE : Addr) (h0 : Heap) (n0 : Nat) (O0 : Old Z n0 h0) (En : OwnEnv Z a_LEFT_LANE_CHANGE a_RIGHT a_BRAKE a_DRIVE a_ACCELERATE a_LEFT a_RIGHT_LANE_CHANGE) :
    MetFree l (⟨"com/example/roadwright/roadwright/road/Manoeuvre", "canBeTakenIn", "(Lcom/example/roadwright/roadwright/road/Lane;)Z"⟩ : MethodName) (head1 (Jvm.Cond.code (⟨"com/example/roadwright/roadwright/road/Manoeuvre", "canBeTakenIn", "(Lcom/example/roadwright/roadwright/road/Lane;)Z"⟩ : MethodName) prog_67_method_10_code 2 (some .boolean) :: ws) ({ frames := 0, cells := 0, slots := 0, locals := 0 } : Room)) (fun a U => a = #[(.ref a_LEFT_LANE_CHANGE), (.ref a_LEFT)] ∧ Z.Warmed39 U.vm ∧ U.heap = h0) (fun _ _ _ _ _ => True) (fun _ U o U' => ∃ v L, o = .returned v ∧ Q_rm_canBeTakenIn_2 a_LEFT_LANE_CHANGE a_RIGHT a_BRAKE a_DRIVE a_ACCELERATE a_LEFT a_RIGHT_LANE_CHANGE h0 n0 v U'.heap L ∧ FrameEnd U o U' L ({ frames := 0, cells := 0, slots := 0, locals := 0 } : Room).cells ({ frames := 0, cells := 0, slots := 0, locals := 0 } : Room).slots) := by
  refine MetFree.of_bodySF (plainFor_of_name pn_1) hisR ?_
  intro p e s m args below meth c s₁ Bd hml0 hP hK
  obtain ⟨rfl, hZ, hh⟩ := hP
  have hx := Bd.exec
  have hby := Bd.bytes
  have hml : c.maxLocals = 2 := hml0
  have hown : s.vm.findClass "com/example/roadwright/roadwright/road/Manoeuvre" = some m.cls := findClass_of_methodNamed Bd.named
  have hnm := (name_of_methodNamed Bd.named Bd.method).1
  have X0 : Stand p l e ({ frames := 0, cells := 0, slots := 0, locals := 0 } : Room) s m #[(.ref a_LEFT_LANE_CHANGE), (.ref a_LEFT)] below meth c s₁ [] 0 0 := Stand.of_body Bd
  have e0 : s₁.heap = h0 := by rw [← hh, Bd.state]; rfl
  have N0 := Fr.nil n0
  have pre0 : ∀ t, Steps p.tables e below (s₁.setTop (mkF m 0 #[.val (.ref a_LEFT_LANE_CHANGE), .val (.ref a_LEFT)] [])) t → Steps p.tables e below (s₁.setTop (entryFrame m #[(.ref a_LEFT_LANE_CHANGE), (.ref a_LEFT)] 2)) t := fun t k => castTop (ef_2 m a_LEFT_LANE_CHANGE a_LEFT) k
  obtain ⟨S_a_LEFT_LANE_CHANGE, X_a_LEFT_LANE_CHANGE, S_a_RIGHT, X_a_RIGHT, S_a_BRAKE, X_a_BRAKE, S_a_DRIVE, X_a_DRIVE, S_a_ACCELERATE, X_a_ACCELERATE, S_a_LEFT, X_a_LEFT, S_a_RIGHT_LANE_CHANGE, X_a_RIGHT_LANE_CHANGE, F_a_LEFT_LANE_CHANGE_changedFrom, F_a_BRAKE_changedFrom, F_a_DRIVE_changedFrom, F_a_ACCELERATE_changedFrom, F_a_RIGHT_LANE_CHANGE_changedFrom, F_a_LEFT_ordinal, F_a_RIGHT_ordinal⟩ := id En
  obtain ⟨T1, X1, e1, st1⟩ := getF X0 hx hZ hown (host := "") (Or.inl (hw _ (List.mem_of_getElem? (i := 16) rfl))) Via.refl e0 (Fld.ext O0.2 F_a_LEFT_LANE_CHANGE_changedFrom) (g := (mkF m 1 #[.val (.ref a_LEFT_LANE_CHANGE), .val (.ref a_LEFT)] [(.ref a_LEFT_LANE_CHANGE)])) rfl rfl (hb hby dc1_1)
  obtain ⟨T2, X2, e2, st2⟩ := getF X1 hx hZ hown (host := "") (Or.inl (hw _ (List.mem_of_getElem? (i := 16) rfl))) Via.refl e1 (Fld.ext O0.2 F_a_LEFT_LANE_CHANGE_changedFrom) (g := (mkF m 8 #[.val (.ref a_LEFT_LANE_CHANGE), .val (.ref a_LEFT)] [(.ref a_LEFT_LANE_CHANGE)])) rfl rfl (hb hby dc1_8)
  obtain ⟨fs, hr, hrun, hended, hW, hsame⟩ := X2.leave (v := some (.int (0 : Int32))) (fun h => by rw [Bd.returns] at h; cases h)
  refine ⟨_, _, pre0 _ ?_, hrun, hended, _, _, rfl, ?_, ⟨_, rfl⟩, hW, hsame.mono (by decide) (by decide)⟩
  · skip
    show Steps p.tables e below (s₁.setTop (mkF m 0 #[.val (.ref a_LEFT_LANE_CHANGE), .val (.ref a_LEFT)] [])) _
    refine XS.aloadN X0.here hx rfl (hb hby dc1_0) rfl rfl ?_
    show Steps p.tables e below (s₁.setTop (mkF m 1 #[.val (.ref a_LEFT_LANE_CHANGE), .val (.ref a_LEFT)] [(.ref a_LEFT_LANE_CHANGE)])) _
    refine st1 _ ?_
    show Steps p.tables e below (T1.setTop (mkF m 4 #[.val (.ref a_LEFT_LANE_CHANGE), .val (.ref a_LEFT)] [(.ref a_RIGHT)])) _
    refine XS.ifnullNo X1.here hx rfl (hb hby dc1_4) rfl ?_
    show Steps p.tables e below (T1.setTop (mkF m 7 #[.val (.ref a_LEFT_LANE_CHANGE), .val (.ref a_LEFT)] [])) _
    refine XS.aloadN X1.here hx rfl (hb hby dc1_7) rfl rfl ?_
    show Steps p.tables e below (T1.setTop (mkF m 8 #[.val (.ref a_LEFT_LANE_CHANGE), .val (.ref a_LEFT)] [(.ref a_LEFT_LANE_CHANGE)])) _
    refine st2 _ ?_
    show Steps p.tables e below (T2.setTop (mkF m 11 #[.val (.ref a_LEFT_LANE_CHANGE), .val (.ref a_LEFT)] [(.ref a_RIGHT)])) _
    refine XS.aloadN X2.here hx rfl (hb hby dc1_11) rfl rfl ?_
    show Steps p.tables e below (T2.setTop (mkF m 12 #[.val (.ref a_LEFT_LANE_CHANGE), .val (.ref a_LEFT)] [(.ref a_LEFT), (.ref a_RIGHT)])) _
    refine Jvm.RoadKit.acmp (g := (mkF m 12 #[.val (.ref a_LEFT_LANE_CHANGE), .val (.ref a_LEFT)] [(.ref a_LEFT), (.ref a_RIGHT)])) X2 hx rfl rfl rfl (pc0 := 12) (pc' := 19) (same := false) rfl (hb hby dc1_12) rfl (decide_eq_false fun q => (Ne.symm (Fld.ne F_a_LEFT_ordinal F_a_RIGHT_ordinal (by simp))) (Value.ref.inj q)) (by decide) (by decide) ?_
    show Steps p.tables e below (T2.setTop (mkF m 19 #[.val (.ref a_LEFT_LANE_CHANGE), .val (.ref a_LEFT)] [])) _
    refine XS.iconst X2.here hx rfl (hb hby dc1_19) ?_
    show Steps p.tables e below (T2.setTop (mkF m 20 #[.val (.ref a_LEFT_LANE_CHANGE), .val (.ref a_LEFT)] [(.int (0 : Int32))])) _
    exact retN X2 hx (t := .boolean) Bd.returns (by simp) (hb hby dc1_20) hr
  · show Q_rm_canBeTakenIn_2 a_LEFT_LANE_CHANGE a_RIGHT a_BRAKE a_DRIVE a_ACCELERATE a_LEFT a_RIGHT_LANE_CHANGE h0 n0 _ T2.heap _
    rw [e2]
    exact ⟨rfl, N0, rfl⟩
def Q_rm_canBeTakenIn_3 (a_LEFT_LANE_CHANGE a_RIGHT a_BRAKE a_DRIVE a_ACCELERATE a_LEFT a_RIGHT_LANE_CHANGE : Addr) (h0 : Heap) (n0 : Nat) (v : Option Value) (h : Heap) (L : List Loc) : Prop := v = some (.int (1 : Int32)) ∧ Fr n0 L ∧ h = h0
theorem pd_1 : parseMethodDescriptor "(Lcom/example/roadwright/roadwright/road/Lane;)Z" = some ⟨[(.object "com/example/roadwright/roadwright/road/Lane")], some .boolean⟩ := by decide +kernel
theorem dc1_15 : decode prog_67_method_10_code 15 = .ok (.iconst 1, 1) := by decide +kernel
theorem dc1_16 : decode prog_67_method_10_code 16 = .ok (.goto 4, 3) := by decide +kernel
set_option maxRecDepth 65536 in
set_option maxHeartbeats 40000000 in
theorem rm_canBeTakenIn_3 (l : Launch) (Z : State) (a0 : Array Value) (hw : ∀ d ∈ tables_1, d.before a0 Z = true) (ws : List Jvm.Cond) (a_LEFT_LANE_CHANGE a_RIGHT a_BRAKE a_DRIVE a_ACCELERATE a_LEFT a_RIGHT_LANE_CHANGE : Addr) (h0 : Heap) (n0 : Nat) (O0 : Old Z n0 h0) (En : OwnEnv Z a_LEFT_LANE_CHANGE a_RIGHT a_BRAKE a_DRIVE a_ACCELERATE a_LEFT a_RIGHT_LANE_CHANGE) :
    MetFree l (⟨"com/example/roadwright/roadwright/road/Manoeuvre", "canBeTakenIn", "(Lcom/example/roadwright/roadwright/road/Lane;)Z"⟩ : MethodName) (head1 (Jvm.Cond.code (⟨"com/example/roadwright/roadwright/road/Manoeuvre", "canBeTakenIn", "(Lcom/example/roadwright/roadwright/road/Lane;)Z"⟩ : MethodName) prog_67_method_10_code 2 (some .boolean) :: ws) ({ frames := 0, cells := 0, slots := 0, locals := 0 } : Room)) (fun a U => a = #[(.ref a_LEFT_LANE_CHANGE), (.ref a_RIGHT)] ∧ Z.Warmed39 U.vm ∧ U.heap = h0) (fun _ _ _ _ _ => True) (fun _ U o U' => ∃ v L, o = .returned v ∧ Q_rm_canBeTakenIn_3 a_LEFT_LANE_CHANGE a_RIGHT a_BRAKE a_DRIVE a_ACCELERATE a_LEFT a_RIGHT_LANE_CHANGE h0 n0 v U'.heap L ∧ FrameEnd U o U' L ({ frames := 0, cells := 0, slots := 0, locals := 0 } : Room).cells ({ frames := 0, cells := 0, slots := 0, locals := 0 } : Room).slots) := by
  refine MetFree.of_bodySF (plainFor_of_name pn_1) hisR ?_
  intro p e s m args below meth c s₁ Bd hml0 hP hK
  obtain ⟨rfl, hZ, hh⟩ := hP
  have hx := Bd.exec
  have hby := Bd.bytes
  have hml : c.maxLocals = 2 := hml0
  have hown : s.vm.findClass "com/example/roadwright/roadwright/road/Manoeuvre" = some m.cls := findClass_of_methodNamed Bd.named
  have hnm := (name_of_methodNamed Bd.named Bd.method).1
  have X0 : Stand p l e ({ frames := 0, cells := 0, slots := 0, locals := 0 } : Room) s m #[(.ref a_LEFT_LANE_CHANGE), (.ref a_RIGHT)] below meth c s₁ [] 0 0 := Stand.of_body Bd
  have e0 : s₁.heap = h0 := by rw [← hh, Bd.state]; rfl
  have N0 := Fr.nil n0
  have pre0 : ∀ t, Steps p.tables e below (s₁.setTop (mkF m 0 #[.val (.ref a_LEFT_LANE_CHANGE), .val (.ref a_RIGHT)] [])) t → Steps p.tables e below (s₁.setTop (entryFrame m #[(.ref a_LEFT_LANE_CHANGE), (.ref a_RIGHT)] 2)) t := fun t k => castTop (ef_2 m a_LEFT_LANE_CHANGE a_RIGHT) k
  obtain ⟨S_a_LEFT_LANE_CHANGE, X_a_LEFT_LANE_CHANGE, S_a_RIGHT, X_a_RIGHT, S_a_BRAKE, X_a_BRAKE, S_a_DRIVE, X_a_DRIVE, S_a_ACCELERATE, X_a_ACCELERATE, S_a_LEFT, X_a_LEFT, S_a_RIGHT_LANE_CHANGE, X_a_RIGHT_LANE_CHANGE, F_a_LEFT_LANE_CHANGE_changedFrom, F_a_BRAKE_changedFrom, F_a_DRIVE_changedFrom, F_a_ACCELERATE_changedFrom, F_a_RIGHT_LANE_CHANGE_changedFrom, F_a_LEFT_ordinal, F_a_RIGHT_ordinal⟩ := id En
  obtain ⟨T1, X1, e1, st1⟩ := getF X0 hx hZ hown (host := "") (Or.inl (hw _ (List.mem_of_getElem? (i := 16) rfl))) Via.refl e0 (Fld.ext O0.2 F_a_LEFT_LANE_CHANGE_changedFrom) (g := (mkF m 1 #[.val (.ref a_LEFT_LANE_CHANGE), .val (.ref a_RIGHT)] [(.ref a_LEFT_LANE_CHANGE)])) rfl rfl (hb hby dc1_1)
  obtain ⟨T2, X2, e2, st2⟩ := getF X1 hx hZ hown (host := "") (Or.inl (hw _ (List.mem_of_getElem? (i := 16) rfl))) Via.refl e1 (Fld.ext O0.2 F_a_LEFT_LANE_CHANGE_changedFrom) (g := (mkF m 8 #[.val (.ref a_LEFT_LANE_CHANGE), .val (.ref a_RIGHT)] [(.ref a_LEFT_LANE_CHANGE)])) rfl rfl (hb hby dc1_8)
  obtain ⟨fs, hr, hrun, hended, hW, hsame⟩ := X2.leave (v := some (.int (1 : Int32))) (fun h => by rw [Bd.returns] at h; cases h)
  refine ⟨_, _, pre0 _ ?_, hrun, hended, _, _, rfl, ?_, ⟨_, rfl⟩, hW, hsame.mono (by decide) (by decide)⟩
  · skip
    show Steps p.tables e below (s₁.setTop (mkF m 0 #[.val (.ref a_LEFT_LANE_CHANGE), .val (.ref a_RIGHT)] [])) _
    refine XS.aloadN X0.here hx rfl (hb hby dc1_0) rfl rfl ?_
    show Steps p.tables e below (s₁.setTop (mkF m 1 #[.val (.ref a_LEFT_LANE_CHANGE), .val (.ref a_RIGHT)] [(.ref a_LEFT_LANE_CHANGE)])) _
    refine st1 _ ?_
    show Steps p.tables e below (T1.setTop (mkF m 4 #[.val (.ref a_LEFT_LANE_CHANGE), .val (.ref a_RIGHT)] [(.ref a_RIGHT)])) _
    refine XS.ifnullNo X1.here hx rfl (hb hby dc1_4) rfl ?_
    show Steps p.tables e below (T1.setTop (mkF m 7 #[.val (.ref a_LEFT_LANE_CHANGE), .val (.ref a_RIGHT)] [])) _
    refine XS.aloadN X1.here hx rfl (hb hby dc1_7) rfl rfl ?_
    show Steps p.tables e below (T1.setTop (mkF m 8 #[.val (.ref a_LEFT_LANE_CHANGE), .val (.ref a_RIGHT)] [(.ref a_LEFT_LANE_CHANGE)])) _
    refine st2 _ ?_
    show Steps p.tables e below (T2.setTop (mkF m 11 #[.val (.ref a_LEFT_LANE_CHANGE), .val (.ref a_RIGHT)] [(.ref a_RIGHT)])) _
    refine XS.aloadN X2.here hx rfl (hb hby dc1_11) rfl rfl ?_
    show Steps p.tables e below (T2.setTop (mkF m 12 #[.val (.ref a_LEFT_LANE_CHANGE), .val (.ref a_RIGHT)] [(.ref a_RIGHT), (.ref a_RIGHT)])) _
    refine Jvm.RoadKit.acmp (g := (mkF m 12 #[.val (.ref a_LEFT_LANE_CHANGE), .val (.ref a_RIGHT)] [(.ref a_RIGHT), (.ref a_RIGHT)])) X2 hx rfl rfl rfl (pc0 := 12) (pc' := 15) (same := true) rfl (hb hby dc1_12) rfl (decide_eq_true rfl) (by decide) (by decide) ?_
    show Steps p.tables e below (T2.setTop (mkF m 15 #[.val (.ref a_LEFT_LANE_CHANGE), .val (.ref a_RIGHT)] [])) _
    refine XS.iconst X2.here hx rfl (hb hby dc1_15) ?_
    show Steps p.tables e below (T2.setTop (mkF m 16 #[.val (.ref a_LEFT_LANE_CHANGE), .val (.ref a_RIGHT)] [(.int (1 : Int32))])) _
    refine XS.goto X2.here hx rfl (pc0 := 16) (pc' := 20) rfl (hb hby dc1_16) (by decide) (by decide) ?_
    show Steps p.tables e below (T2.setTop (mkF m 20 #[.val (.ref a_LEFT_LANE_CHANGE), .val (.ref a_RIGHT)] [(.int (1 : Int32))])) _
    exact retN X2 hx (t := .boolean) Bd.returns (by simp) (hb hby dc1_20) hr
  · show Q_rm_canBeTakenIn_3 a_LEFT_LANE_CHANGE a_RIGHT a_BRAKE a_DRIVE a_ACCELERATE a_LEFT a_RIGHT_LANE_CHANGE h0 n0 _ T2.heap _
    rw [e2]
    exact ⟨rfl, N0, rfl⟩
def Q_rm_pick_4 (a_LEFT_LANE_CHANGE a_RIGHT a_BRAKE a_DRIVE a_ACCELERATE a_LEFT a_RIGHT_LANE_CHANGE : Addr) (h0 : Heap) (n0 : Nat) (v : Option Value) (h : Heap) (L : List Loc) : Prop := v = some (.ref a_ACCELERATE) ∧ Fr n0 L ∧ h = h0
theorem dc0_8 : decode method_3_code 8 = .ok (.iload_n 0, 1) := by decide +kernel
theorem dc0_9 : decode method_3_code 9 = .ok (.iconst 1, 1) := by decide +kernel
theorem dc0_10 : decode method_3_code 10 = .ok (.if_icmp .ne 7, 3) := by decide +kernel
theorem dc0_13 : decode method_3_code 13 = .ok (.getstatic 33, 3) := by decide +kernel
theorem dc0_16 : decode method_3_code 16 = .ok (.areturn, 1) := by decide +kernel
set_option maxRecDepth 65536 in
set_option maxHeartbeats 40000000 in
theorem rm_pick_4 (l : Launch) (Z : State) (a0 : Array Value) (hw : ∀ d ∈ tables_1, d.before a0 Z = true) (ws : List Jvm.Cond) (a_LEFT_LANE_CHANGE a_RIGHT a_BRAKE a_DRIVE a_ACCELERATE a_LEFT a_RIGHT_LANE_CHANGE : Addr) (h0 : Heap) (n0 : Nat) (O0 : Old Z n0 h0) (En : OwnEnv Z a_LEFT_LANE_CHANGE a_RIGHT a_BRAKE a_DRIVE a_ACCELERATE a_LEFT a_RIGHT_LANE_CHANGE) :
    MetFree l (⟨"com/example/roadwright/roadwright/road/ManoeuvreCanBeTakenInPinLaw", "pick", "(I)Lcom/example/roadwright/roadwright/road/Manoeuvre;"⟩ : MethodName) (head1 (Jvm.Cond.code (⟨"com/example/roadwright/roadwright/road/ManoeuvreCanBeTakenInPinLaw", "pick", "(I)Lcom/example/roadwright/roadwright/road/Manoeuvre;"⟩ : MethodName) method_3_code 1 (some (.object "com/example/roadwright/roadwright/road/Manoeuvre")) :: ws) ({ frames := 0, cells := 0, slots := 0, locals := 0 } : Room)) (fun a U => a = #[(.int (1 : Int32))] ∧ Z.Warmed39 U.vm ∧ U.heap = h0) (fun _ _ _ _ _ => True) (fun _ U o U' => ∃ v L, o = .returned v ∧ Q_rm_pick_4 a_LEFT_LANE_CHANGE a_RIGHT a_BRAKE a_DRIVE a_ACCELERATE a_LEFT a_RIGHT_LANE_CHANGE h0 n0 v U'.heap L ∧ FrameEnd U o U' L ({ frames := 0, cells := 0, slots := 0, locals := 0 } : Room).cells ({ frames := 0, cells := 0, slots := 0, locals := 0 } : Room).slots) := by
  refine MetFree.of_bodySF (plainFor_of_name pn_0) hisR ?_
  intro p e s m args below meth c s₁ Bd hml0 hP hK
  obtain ⟨rfl, hZ, hh⟩ := hP
  have hx := Bd.exec
  have hby := Bd.bytes
  have hml : c.maxLocals = 1 := hml0
  have hown : s.vm.findClass "com/example/roadwright/roadwright/road/ManoeuvreCanBeTakenInPinLaw" = some m.cls := findClass_of_methodNamed Bd.named
  have hnm := (name_of_methodNamed Bd.named Bd.method).1
  have X0 : Stand p l e ({ frames := 0, cells := 0, slots := 0, locals := 0 } : Room) s m #[(.int (1 : Int32))] below meth c s₁ [] 0 0 := Stand.of_body Bd
  have e0 : s₁.heap = h0 := by rw [← hh, Bd.state]; rfl
  have N0 := Fr.nil n0
  have pre0 : ∀ t, Steps p.tables e below (s₁.setTop (mkF m 0 #[.val (.int (1 : Int32))] [])) t → Steps p.tables e below (s₁.setTop (entryFrame m #[(.int (1 : Int32))] 1)) t := fun t k => castTop (ef_1 m (1 : Int32)) k
  obtain ⟨S_a_LEFT_LANE_CHANGE, X_a_LEFT_LANE_CHANGE, S_a_RIGHT, X_a_RIGHT, S_a_BRAKE, X_a_BRAKE, S_a_DRIVE, X_a_DRIVE, S_a_ACCELERATE, X_a_ACCELERATE, S_a_LEFT, X_a_LEFT, S_a_RIGHT_LANE_CHANGE, X_a_RIGHT_LANE_CHANGE, F_a_LEFT_LANE_CHANGE_changedFrom, F_a_BRAKE_changedFrom, F_a_DRIVE_changedFrom, F_a_ACCELERATE_changedFrom, F_a_RIGHT_LANE_CHANGE_changedFrom, F_a_LEFT_ordinal, F_a_RIGHT_ordinal⟩ := id En
  obtain ⟨T1, X1, e1, st1⟩ := getS2 X0 hx hZ hown (host := "") (Or.inl (hw _ (List.mem_of_getElem? (i := 22) rfl))) Via.refl e0 (Sta.ext O0.2 S_a_ACCELERATE) (g := (mkF m 13 #[.val (.int (1 : Int32))] [])) rfl (hb hby dc0_13)
  obtain ⟨fs, hr, hrun, hended, hW, hsame⟩ := X1.leave (v := some (.ref a_ACCELERATE)) (fun h => by rw [Bd.returns] at h; cases h)
  refine ⟨_, _, pre0 _ ?_, hrun, hended, _, _, rfl, ?_, ⟨_, rfl⟩, hW, hsame.mono (by decide) (by decide)⟩
  · skip
    show Steps p.tables e below (s₁.setTop (mkF m 0 #[.val (.int (1 : Int32))] [])) _
    refine XS.iloadN X0.here hx rfl (hb hby dc0_0) rfl ?_
    show Steps p.tables e below (s₁.setTop (mkF m 1 #[.val (.int (1 : Int32))] [(.int (1 : Int32))])) _
    refine XS.ifYes X0.here hx rfl (pc0 := 1) (pc' := 8) rfl (hb hby dc0_1) rfl (by decide) (by decide) (by decide) ?_
    show Steps p.tables e below (s₁.setTop (mkF m 8 #[.val (.int (1 : Int32))] [])) _
    refine XS.iloadN X0.here hx rfl (hb hby dc0_8) rfl ?_
    show Steps p.tables e below (s₁.setTop (mkF m 9 #[.val (.int (1 : Int32))] [(.int (1 : Int32))])) _
    refine XS.iconst X0.here hx rfl (hb hby dc0_9) ?_
    show Steps p.tables e below (s₁.setTop (mkF m 10 #[.val (.int (1 : Int32))] [(.int (1 : Int32)), (.int (1 : Int32))])) _
    refine XS.icmpNo X0.here hx rfl (hb hby dc0_10) rfl (by decide) ?_
    show Steps p.tables e below (s₁.setTop (mkF m 13 #[.val (.int (1 : Int32))] [])) _
    refine st1 _ ?_
    show Steps p.tables e below (T1.setTop (mkF m 16 #[.val (.int (1 : Int32))] [(.ref a_ACCELERATE)])) _
    exact retOut X1 hx (t := (.object "com/example/roadwright/roadwright/road/Manoeuvre")) Bd.returns rfl (Or.inr (Or.inr (Or.inr (Or.inr ⟨rfl, rfl, rfl⟩)))) (hb hby dc0_16) hr
  · show Q_rm_pick_4 a_LEFT_LANE_CHANGE a_RIGHT a_BRAKE a_DRIVE a_ACCELERATE a_LEFT a_RIGHT_LANE_CHANGE h0 n0 _ T1.heap _
    rw [e1]
    exact ⟨rfl, N0, rfl⟩
def Q_rm_canBeTakenIn_5 (a_LEFT_LANE_CHANGE a_RIGHT a_BRAKE a_DRIVE a_ACCELERATE a_LEFT a_RIGHT_LANE_CHANGE : Addr) (h0 : Heap) (n0 : Nat) (v : Option Value) (h : Heap) (L : List Loc) : Prop := v = some (.int (1 : Int32)) ∧ Fr n0 L ∧ h = h0
set_option maxRecDepth 65536 in
set_option maxHeartbeats 40000000 in
theorem rm_canBeTakenIn_5 (l : Launch) (Z : State) (a0 : Array Value) (hw : ∀ d ∈ tables_1, d.before a0 Z = true) (ws : List Jvm.Cond) (a_LEFT_LANE_CHANGE a_RIGHT a_BRAKE a_DRIVE a_ACCELERATE a_LEFT a_RIGHT_LANE_CHANGE : Addr) (h0 : Heap) (n0 : Nat) (O0 : Old Z n0 h0) (En : OwnEnv Z a_LEFT_LANE_CHANGE a_RIGHT a_BRAKE a_DRIVE a_ACCELERATE a_LEFT a_RIGHT_LANE_CHANGE) :
    MetFree l (⟨"com/example/roadwright/roadwright/road/Manoeuvre", "canBeTakenIn", "(Lcom/example/roadwright/roadwright/road/Lane;)Z"⟩ : MethodName) (head1 (Jvm.Cond.code (⟨"com/example/roadwright/roadwright/road/Manoeuvre", "canBeTakenIn", "(Lcom/example/roadwright/roadwright/road/Lane;)Z"⟩ : MethodName) prog_67_method_10_code 2 (some .boolean) :: ws) ({ frames := 0, cells := 0, slots := 0, locals := 0 } : Room)) (fun a U => a = #[(.ref a_ACCELERATE), (.ref a_LEFT)] ∧ Z.Warmed39 U.vm ∧ U.heap = h0) (fun _ _ _ _ _ => True) (fun _ U o U' => ∃ v L, o = .returned v ∧ Q_rm_canBeTakenIn_5 a_LEFT_LANE_CHANGE a_RIGHT a_BRAKE a_DRIVE a_ACCELERATE a_LEFT a_RIGHT_LANE_CHANGE h0 n0 v U'.heap L ∧ FrameEnd U o U' L ({ frames := 0, cells := 0, slots := 0, locals := 0 } : Room).cells ({ frames := 0, cells := 0, slots := 0, locals := 0 } : Room).slots) := by
  refine MetFree.of_bodySF (plainFor_of_name pn_1) hisR ?_
  intro p e s m args below meth c s₁ Bd hml0 hP hK
  obtain ⟨rfl, hZ, hh⟩ := hP
  have hx := Bd.exec
  have hby := Bd.bytes
  have hml : c.maxLocals = 2 := hml0
  have hown : s.vm.findClass "com/example/roadwright/roadwright/road/Manoeuvre" = some m.cls := findClass_of_methodNamed Bd.named
  have hnm := (name_of_methodNamed Bd.named Bd.method).1
  have X0 : Stand p l e ({ frames := 0, cells := 0, slots := 0, locals := 0 } : Room) s m #[(.ref a_ACCELERATE), (.ref a_LEFT)] below meth c s₁ [] 0 0 := Stand.of_body Bd
  have e0 : s₁.heap = h0 := by rw [← hh, Bd.state]; rfl
  have N0 := Fr.nil n0
  have pre0 : ∀ t, Steps p.tables e below (s₁.setTop (mkF m 0 #[.val (.ref a_ACCELERATE), .val (.ref a_LEFT)] [])) t → Steps p.tables e below (s₁.setTop (entryFrame m #[(.ref a_ACCELERATE), (.ref a_LEFT)] 2)) t := fun t k => castTop (ef_2 m a_ACCELERATE a_LEFT) k
  obtain ⟨S_a_LEFT_LANE_CHANGE, X_a_LEFT_LANE_CHANGE, S_a_RIGHT, X_a_RIGHT, S_a_BRAKE, X_a_BRAKE, S_a_DRIVE, X_a_DRIVE, S_a_ACCELERATE, X_a_ACCELERATE, S_a_LEFT, X_a_LEFT, S_a_RIGHT_LANE_CHANGE, X_a_RIGHT_LANE_CHANGE, F_a_LEFT_LANE_CHANGE_changedFrom, F_a_BRAKE_changedFrom, F_a_DRIVE_changedFrom, F_a_ACCELERATE_changedFrom, F_a_RIGHT_LANE_CHANGE_changedFrom, F_a_LEFT_ordinal, F_a_RIGHT_ordinal⟩ := id En
  obtain ⟨T1, X1, e1, st1⟩ := getF X0 hx hZ hown (host := "") (Or.inl (hw _ (List.mem_of_getElem? (i := 16) rfl))) Via.refl e0 (Fld.ext O0.2 F_a_ACCELERATE_changedFrom) (g := (mkF m 1 #[.val (.ref a_ACCELERATE), .val (.ref a_LEFT)] [(.ref a_ACCELERATE)])) rfl rfl (hb hby dc1_1)
  obtain ⟨fs, hr, hrun, hended, hW, hsame⟩ := X1.leave (v := some (.int (1 : Int32))) (fun h => by rw [Bd.returns] at h; cases h)
  refine ⟨_, _, pre0 _ ?_, hrun, hended, _, _, rfl, ?_, ⟨_, rfl⟩, hW, hsame.mono (by decide) (by decide)⟩
  · skip
    show Steps p.tables e below (s₁.setTop (mkF m 0 #[.val (.ref a_ACCELERATE), .val (.ref a_LEFT)] [])) _
    refine XS.aloadN X0.here hx rfl (hb hby dc1_0) rfl rfl ?_
    show Steps p.tables e below (s₁.setTop (mkF m 1 #[.val (.ref a_ACCELERATE), .val (.ref a_LEFT)] [(.ref a_ACCELERATE)])) _
    refine st1 _ ?_
    show Steps p.tables e below (T1.setTop (mkF m 4 #[.val (.ref a_ACCELERATE), .val (.ref a_LEFT)] [.null])) _
    refine XS.ifnullYes X1.here hx rfl (pc0 := 4) (pc' := 15) rfl (hb hby dc1_4) rfl (by decide) (by decide) ?_
    show Steps p.tables e below (T1.setTop (mkF m 15 #[.val (.ref a_ACCELERATE), .val (.ref a_LEFT)] [])) _
    refine XS.iconst X1.here hx rfl (hb hby dc1_15) ?_
    show Steps p.tables e below (T1.setTop (mkF m 16 #[.val (.ref a_ACCELERATE), .val (.ref a_LEFT)] [(.int (1 : Int32))])) _
    refine XS.goto X1.here hx rfl (pc0 := 16) (pc' := 20) rfl (hb hby dc1_16) (by decide) (by decide) ?_
    show Steps p.tables e below (T1.setTop (mkF m 20 #[.val (.ref a_ACCELERATE), .val (.ref a_LEFT)] [(.int (1 : Int32))])) _
    exact retN X1 hx (t := .boolean) Bd.returns (by simp) (hb hby dc1_20) hr
  · show Q_rm_canBeTakenIn_5 a_LEFT_LANE_CHANGE a_RIGHT a_BRAKE a_DRIVE a_ACCELERATE a_LEFT a_RIGHT_LANE_CHANGE h0 n0 _ T1.heap _
    rw [e1]
    exact ⟨rfl, N0, rfl⟩
def Q_rm_canBeTakenIn_6 (a_LEFT_LANE_CHANGE a_RIGHT a_BRAKE a_DRIVE a_ACCELERATE a_LEFT a_RIGHT_LANE_CHANGE : Addr) (h0 : Heap) (n0 : Nat) (v : Option Value) (h : Heap) (L : List Loc) : Prop := v = some (.int (1 : Int32)) ∧ Fr n0 L ∧ h = h0
set_option maxRecDepth 65536 in
set_option maxHeartbeats 40000000 in
theorem rm_canBeTakenIn_6 (l : Launch) (Z : State) (a0 : Array Value) (hw : ∀ d ∈ tables_1, d.before a0 Z = true) (ws : List Jvm.Cond) (a_LEFT_LANE_CHANGE a_RIGHT a_BRAKE a_DRIVE a_ACCELERATE a_LEFT a_RIGHT_LANE_CHANGE : Addr) (h0 : Heap) (n0 : Nat) (O0 : Old Z n0 h0) (En : OwnEnv Z a_LEFT_LANE_CHANGE a_RIGHT a_BRAKE a_DRIVE a_ACCELERATE a_LEFT a_RIGHT_LANE_CHANGE) :
    MetFree l (⟨"com/example/roadwright/roadwright/road/Manoeuvre", "canBeTakenIn", "(Lcom/example/roadwright/roadwright/road/Lane;)Z"⟩ : MethodName) (head1 (Jvm.Cond.code (⟨"com/example/roadwright/roadwright/road/Manoeuvre", "canBeTakenIn", "(Lcom/example/roadwright/roadwright/road/Lane;)Z"⟩ : MethodName) prog_67_method_10_code 2 (some .boolean) :: ws) ({ frames := 0, cells := 0, slots := 0, locals := 0 } : Room)) (fun a U => a = #[(.ref a_ACCELERATE), (.ref a_RIGHT)] ∧ Z.Warmed39 U.vm ∧ U.heap = h0) (fun _ _ _ _ _ => True) (fun _ U o U' => ∃ v L, o = .returned v ∧ Q_rm_canBeTakenIn_6 a_LEFT_LANE_CHANGE a_RIGHT a_BRAKE a_DRIVE a_ACCELERATE a_LEFT a_RIGHT_LANE_CHANGE h0 n0 v U'.heap L ∧ FrameEnd U o U' L ({ frames := 0, cells := 0, slots := 0, locals := 0 } : Room).cells ({ frames := 0, cells := 0, slots := 0, locals := 0 } : Room).slots) := by
  refine MetFree.of_bodySF (plainFor_of_name pn_1) hisR ?_
  intro p e s m args below meth c s₁ Bd hml0 hP hK
  obtain ⟨rfl, hZ, hh⟩ := hP
  have hx := Bd.exec
  have hby := Bd.bytes
  have hml : c.maxLocals = 2 := hml0
  have hown : s.vm.findClass "com/example/roadwright/roadwright/road/Manoeuvre" = some m.cls := findClass_of_methodNamed Bd.named
  have hnm := (name_of_methodNamed Bd.named Bd.method).1
  have X0 : Stand p l e ({ frames := 0, cells := 0, slots := 0, locals := 0 } : Room) s m #[(.ref a_ACCELERATE), (.ref a_RIGHT)] below meth c s₁ [] 0 0 := Stand.of_body Bd
  have e0 : s₁.heap = h0 := by rw [← hh, Bd.state]; rfl
  have N0 := Fr.nil n0
  have pre0 : ∀ t, Steps p.tables e below (s₁.setTop (mkF m 0 #[.val (.ref a_ACCELERATE), .val (.ref a_RIGHT)] [])) t → Steps p.tables e below (s₁.setTop (entryFrame m #[(.ref a_ACCELERATE), (.ref a_RIGHT)] 2)) t := fun t k => castTop (ef_2 m a_ACCELERATE a_RIGHT) k
  obtain ⟨S_a_LEFT_LANE_CHANGE, X_a_LEFT_LANE_CHANGE, S_a_RIGHT, X_a_RIGHT, S_a_BRAKE, X_a_BRAKE, S_a_DRIVE, X_a_DRIVE, S_a_ACCELERATE, X_a_ACCELERATE, S_a_LEFT, X_a_LEFT, S_a_RIGHT_LANE_CHANGE, X_a_RIGHT_LANE_CHANGE, F_a_LEFT_LANE_CHANGE_changedFrom, F_a_BRAKE_changedFrom, F_a_DRIVE_changedFrom, F_a_ACCELERATE_changedFrom, F_a_RIGHT_LANE_CHANGE_changedFrom, F_a_LEFT_ordinal, F_a_RIGHT_ordinal⟩ := id En
  obtain ⟨T1, X1, e1, st1⟩ := getF X0 hx hZ hown (host := "") (Or.inl (hw _ (List.mem_of_getElem? (i := 16) rfl))) Via.refl e0 (Fld.ext O0.2 F_a_ACCELERATE_changedFrom) (g := (mkF m 1 #[.val (.ref a_ACCELERATE), .val (.ref a_RIGHT)] [(.ref a_ACCELERATE)])) rfl rfl (hb hby dc1_1)
  obtain ⟨fs, hr, hrun, hended, hW, hsame⟩ := X1.leave (v := some (.int (1 : Int32))) (fun h => by rw [Bd.returns] at h; cases h)
  refine ⟨_, _, pre0 _ ?_, hrun, hended, _, _, rfl, ?_, ⟨_, rfl⟩, hW, hsame.mono (by decide) (by decide)⟩
  · skip
    show Steps p.tables e below (s₁.setTop (mkF m 0 #[.val (.ref a_ACCELERATE), .val (.ref a_RIGHT)] [])) _
    refine XS.aloadN X0.here hx rfl (hb hby dc1_0) rfl rfl ?_
    show Steps p.tables e below (s₁.setTop (mkF m 1 #[.val (.ref a_ACCELERATE), .val (.ref a_RIGHT)] [(.ref a_ACCELERATE)])) _
    refine st1 _ ?_
    show Steps p.tables e below (T1.setTop (mkF m 4 #[.val (.ref a_ACCELERATE), .val (.ref a_RIGHT)] [.null])) _
    refine XS.ifnullYes X1.here hx rfl (pc0 := 4) (pc' := 15) rfl (hb hby dc1_4) rfl (by decide) (by decide) ?_
    show Steps p.tables e below (T1.setTop (mkF m 15 #[.val (.ref a_ACCELERATE), .val (.ref a_RIGHT)] [])) _
    refine XS.iconst X1.here hx rfl (hb hby dc1_15) ?_
    show Steps p.tables e below (T1.setTop (mkF m 16 #[.val (.ref a_ACCELERATE), .val (.ref a_RIGHT)] [(.int (1 : Int32))])) _
    refine XS.goto X1.here hx rfl (pc0 := 16) (pc' := 20) rfl (hb hby dc1_16) (by decide) (by decide) ?_
    show Steps p.tables e below (T1.setTop (mkF m 20 #[.val (.ref a_ACCELERATE), .val (.ref a_RIGHT)] [(.int (1 : Int32))])) _
    exact retN X1 hx (t := .boolean) Bd.returns (by simp) (hb hby dc1_20) hr
  · show Q_rm_canBeTakenIn_6 a_LEFT_LANE_CHANGE a_RIGHT a_BRAKE a_DRIVE a_ACCELERATE a_LEFT a_RIGHT_LANE_CHANGE h0 n0 _ T1.heap _
    rw [e1]
    exact ⟨rfl, N0, rfl⟩
def Q_rm_pick_7 (a_LEFT_LANE_CHANGE a_RIGHT a_BRAKE a_DRIVE a_ACCELERATE a_LEFT a_RIGHT_LANE_CHANGE : Addr) (h0 : Heap) (n0 : Nat) (v : Option Value) (h : Heap) (L : List Loc) : Prop := v = some (.ref a_RIGHT_LANE_CHANGE) ∧ Fr n0 L ∧ h = h0
theorem dc0_17 : decode method_3_code 17 = .ok (.iload_n 0, 1) := by decide +kernel
theorem dc0_18 : decode method_3_code 18 = .ok (.iconst 2, 1) := by decide +kernel
theorem dc0_19 : decode method_3_code 19 = .ok (.if_icmp .ne 7, 3) := by decide +kernel
theorem dc0_22 : decode method_3_code 22 = .ok (.getstatic 36, 3) := by decide +kernel
theorem dc0_25 : decode method_3_code 25 = .ok (.areturn, 1) := by decide +kernel
set_option maxRecDepth 65536 in
set_option maxHeartbeats 40000000 in
theorem rm_pick_7 (l : Launch) (Z : State) (a0 : Array Value) (hw : ∀ d ∈ tables_1, d.before a0 Z = true) (ws : List Jvm.Cond) (a_LEFT_LANE_CHANGE a_RIGHT a_BRAKE a_DRIVE a_ACCELERATE a_LEFT a_RIGHT_LANE_CHANGE : Addr) (h0 : Heap) (n0 : Nat) (O0 : Old Z n0 h0) (En : OwnEnv Z a_LEFT_LANE_CHANGE a_RIGHT a_BRAKE a_DRIVE a_ACCELERATE a_LEFT a_RIGHT_LANE_CHANGE) :
    MetFree l (⟨"com/example/roadwright/roadwright/road/ManoeuvreCanBeTakenInPinLaw", "pick", "(I)Lcom/example/roadwright/roadwright/road/Manoeuvre;"⟩ : MethodName) (head1 (Jvm.Cond.code (⟨"com/example/roadwright/roadwright/road/ManoeuvreCanBeTakenInPinLaw", "pick", "(I)Lcom/example/roadwright/roadwright/road/Manoeuvre;"⟩ : MethodName) method_3_code 1 (some (.object "com/example/roadwright/roadwright/road/Manoeuvre")) :: ws) ({ frames := 0, cells := 0, slots := 0, locals := 0 } : Room)) (fun a U => a = #[(.int (2 : Int32))] ∧ Z.Warmed39 U.vm ∧ U.heap = h0) (fun _ _ _ _ _ => True) (fun _ U o U' => ∃ v L, o = .returned v ∧ Q_rm_pick_7 a_LEFT_LANE_CHANGE a_RIGHT a_BRAKE a_DRIVE a_ACCELERATE a_LEFT a_RIGHT_LANE_CHANGE h0 n0 v U'.heap L ∧ FrameEnd U o U' L ({ frames := 0, cells := 0, slots := 0, locals := 0 } : Room).cells ({ frames := 0, cells := 0, slots := 0, locals := 0 } : Room).slots) := by
  refine MetFree.of_bodySF (plainFor_of_name pn_0) hisR ?_
  intro p e s m args below meth c s₁ Bd hml0 hP hK
  obtain ⟨rfl, hZ, hh⟩ := hP
  have hx := Bd.exec
  have hby := Bd.bytes
  have hml : c.maxLocals = 1 := hml0
  have hown : s.vm.findClass "com/example/roadwright/roadwright/road/ManoeuvreCanBeTakenInPinLaw" = some m.cls := findClass_of_methodNamed Bd.named
  have hnm := (name_of_methodNamed Bd.named Bd.method).1
  have X0 : Stand p l e ({ frames := 0, cells := 0, slots := 0, locals := 0 } : Room) s m #[(.int (2 : Int32))] below meth c s₁ [] 0 0 := Stand.of_body Bd
  have e0 : s₁.heap = h0 := by rw [← hh, Bd.state]; rfl
  have N0 := Fr.nil n0
  have pre0 : ∀ t, Steps p.tables e below (s₁.setTop (mkF m 0 #[.val (.int (2 : Int32))] [])) t → Steps p.tables e below (s₁.setTop (entryFrame m #[(.int (2 : Int32))] 1)) t := fun t k => castTop (ef_1 m (2 : Int32)) k
  obtain ⟨S_a_LEFT_LANE_CHANGE, X_a_LEFT_LANE_CHANGE, S_a_RIGHT, X_a_RIGHT, S_a_BRAKE, X_a_BRAKE, S_a_DRIVE, X_a_DRIVE, S_a_ACCELERATE, X_a_ACCELERATE, S_a_LEFT, X_a_LEFT, S_a_RIGHT_LANE_CHANGE, X_a_RIGHT_LANE_CHANGE, F_a_LEFT_LANE_CHANGE_changedFrom, F_a_BRAKE_changedFrom, F_a_DRIVE_changedFrom, F_a_ACCELERATE_changedFrom, F_a_RIGHT_LANE_CHANGE_changedFrom, F_a_LEFT_ordinal, F_a_RIGHT_ordinal⟩ := id En
  obtain ⟨T1, X1, e1, st1⟩ := getS2 X0 hx hZ hown (host := "") (Or.inl (hw _ (List.mem_of_getElem? (i := 26) rfl))) Via.refl e0 (Sta.ext O0.2 S_a_RIGHT_LANE_CHANGE) (g := (mkF m 22 #[.val (.int (2 : Int32))] [])) rfl (hb hby dc0_22)
  obtain ⟨fs, hr, hrun, hended, hW, hsame⟩ := X1.leave (v := some (.ref a_RIGHT_LANE_CHANGE)) (fun h => by rw [Bd.returns] at h; cases h)
  refine ⟨_, _, pre0 _ ?_, hrun, hended, _, _, rfl, ?_, ⟨_, rfl⟩, hW, hsame.mono (by decide) (by decide)⟩
  · skip
    show Steps p.tables e below (s₁.setTop (mkF m 0 #[.val (.int (2 : Int32))] [])) _
    refine XS.iloadN X0.here hx rfl (hb hby dc0_0) rfl ?_
    show Steps p.tables e below (s₁.setTop (mkF m 1 #[.val (.int (2 : Int32))] [(.int (2 : Int32))])) _
    refine XS.ifYes X0.here hx rfl (pc0 := 1) (pc' := 8) rfl (hb hby dc0_1) rfl (by decide) (by decide) (by decide) ?_
    show Steps p.tables e below (s₁.setTop (mkF m 8 #[.val (.int (2 : Int32))] [])) _
    refine XS.iloadN X0.here hx rfl (hb hby dc0_8) rfl ?_
    show Steps p.tables e below (s₁.setTop (mkF m 9 #[.val (.int (2 : Int32))] [(.int (2 : Int32))])) _
    refine XS.iconst X0.here hx rfl (hb hby dc0_9) ?_
    show Steps p.tables e below (s₁.setTop (mkF m 10 #[.val (.int (2 : Int32))] [(.int (1 : Int32)), (.int (2 : Int32))])) _
    refine XS.icmpYes X0.here hx rfl (pc0 := 10) (pc' := 17) rfl (hb hby dc0_10) rfl (by decide) (by decide) (by decide) ?_
    show Steps p.tables e below (s₁.setTop (mkF m 17 #[.val (.int (2 : Int32))] [])) _
    refine XS.iloadN X0.here hx rfl (hb hby dc0_17) rfl ?_
    show Steps p.tables e below (s₁.setTop (mkF m 18 #[.val (.int (2 : Int32))] [(.int (2 : Int32))])) _
    refine XS.iconst X0.here hx rfl (hb hby dc0_18) ?_
    show Steps p.tables e below (s₁.setTop (mkF m 19 #[.val (.int (2 : Int32))] [(.int (2 : Int32)), (.int (2 : Int32))])) _
    refine XS.icmpNo X0.here hx rfl (hb hby dc0_19) rfl (by decide) ?_
    show Steps p.tables e below (s₁.setTop (mkF m 22 #[.val (.int (2 : Int32))] [])) _
    refine st1 _ ?_
    show Steps p.tables e below (T1.setTop (mkF m 25 #[.val (.int (2 : Int32))] [(.ref a_RIGHT_LANE_CHANGE)])) _
    exact retOut X1 hx (t := (.object "com/example/roadwright/roadwright/road/Manoeuvre")) Bd.returns rfl (Or.inr (Or.inr (Or.inr (Or.inr ⟨rfl, rfl, rfl⟩)))) (hb hby dc0_25) hr
  · show Q_rm_pick_7 a_LEFT_LANE_CHANGE a_RIGHT a_BRAKE a_DRIVE a_ACCELERATE a_LEFT a_RIGHT_LANE_CHANGE h0 n0 _ T1.heap _
    rw [e1]
    exact ⟨rfl, N0, rfl⟩
def Q_rm_canBeTakenIn_8 (a_LEFT_LANE_CHANGE a_RIGHT a_BRAKE a_DRIVE a_ACCELERATE a_LEFT a_RIGHT_LANE_CHANGE : Addr) (h0 : Heap) (n0 : Nat) (v : Option Value) (h : Heap) (L : List Loc) : Prop := v = some (.int (1 : Int32)) ∧ Fr n0 L ∧ h = h0
set_option maxRecDepth 65536 in
set_option maxHeartbeats 40000000 in
theorem rm_canBeTakenIn_8 (l : Launch) (Z : State) (a0 : Array Value) (hw : ∀ d ∈ tables_1, d.before a0 Z = true) (ws : List Jvm.Cond) (a_LEFT_LANE_CHANGE a_RIGHT a_BRAKE a_DRIVE a_ACCELERATE a_LEFT a_RIGHT_LANE_CHANGE : Addr) (h0 : Heap) (n0 : Nat) (O0 : Old Z n0 h0) (En : OwnEnv Z a_LEFT_LANE_CHANGE a_RIGHT a_BRAKE a_DRIVE a_ACCELERATE a_LEFT a_RIGHT_LANE_CHANGE) :
    MetFree l (⟨"com/example/roadwright/roadwright/road/Manoeuvre", "canBeTakenIn", "(Lcom/example/roadwright/roadwright/road/Lane;)Z"⟩ : MethodName) (head1 (Jvm.Cond.code (⟨"com/example/roadwright/roadwright/road/Manoeuvre", "canBeTakenIn", "(Lcom/example/roadwright/roadwright/road/Lane;)Z"⟩ : MethodName) prog_67_method_10_code 2 (some .boolean) :: ws) ({ frames := 0, cells := 0, slots := 0, locals := 0 } : Room)) (fun a U => a = #[(.ref a_RIGHT_LANE_CHANGE), (.ref a_LEFT)] ∧ Z.Warmed39 U.vm ∧ U.heap = h0) (fun _ _ _ _ _ => True) (fun _ U o U' => ∃ v L, o = .returned v ∧ Q_rm_canBeTakenIn_8 a_LEFT_LANE_CHANGE a_RIGHT a_BRAKE a_DRIVE a_ACCELERATE a_LEFT a_RIGHT_LANE_CHANGE h0 n0 v U'.heap L ∧ FrameEnd U o U' L ({ frames := 0, cells := 0, slots := 0, locals := 0 } : Room).cells ({ frames := 0, cells := 0, slots := 0, locals := 0 } : Room).slots) := by
  refine MetFree.of_bodySF (plainFor_of_name pn_1) hisR ?_
  intro p e s m args below meth c s₁ Bd hml0 hP hK
  obtain ⟨rfl, hZ, hh⟩ := hP
  have hx := Bd.exec
  have hby := Bd.bytes
  have hml : c.maxLocals = 2 := hml0
  have hown : s.vm.findClass "com/example/roadwright/roadwright/road/Manoeuvre" = some m.cls := findClass_of_methodNamed Bd.named
  have hnm := (name_of_methodNamed Bd.named Bd.method).1
  have X0 : Stand p l e ({ frames := 0, cells := 0, slots := 0, locals := 0 } : Room) s m #[(.ref a_RIGHT_LANE_CHANGE), (.ref a_LEFT)] below meth c s₁ [] 0 0 := Stand.of_body Bd
  have e0 : s₁.heap = h0 := by rw [← hh, Bd.state]; rfl
  have N0 := Fr.nil n0
  have pre0 : ∀ t, Steps p.tables e below (s₁.setTop (mkF m 0 #[.val (.ref a_RIGHT_LANE_CHANGE), .val (.ref a_LEFT)] [])) t → Steps p.tables e below (s₁.setTop (entryFrame m #[(.ref a_RIGHT_LANE_CHANGE), (.ref a_LEFT)] 2)) t := fun t k => castTop (ef_2 m a_RIGHT_LANE_CHANGE a_LEFT) k
  obtain ⟨S_a_LEFT_LANE_CHANGE, X_a_LEFT_LANE_CHANGE, S_a_RIGHT, X_a_RIGHT, S_a_BRAKE, X_a_BRAKE, S_a_DRIVE, X_a_DRIVE, S_a_ACCELERATE, X_a_ACCELERATE, S_a_LEFT, X_a_LEFT, S_a_RIGHT_LANE_CHANGE, X_a_RIGHT_LANE_CHANGE, F_a_LEFT_LANE_CHANGE_changedFrom, F_a_BRAKE_changedFrom, F_a_DRIVE_changedFrom, F_a_ACCELERATE_changedFrom, F_a_RIGHT_LANE_CHANGE_changedFrom, F_a_LEFT_ordinal, F_a_RIGHT_ordinal⟩ := id En
  obtain ⟨T1, X1, e1, st1⟩ := getF X0 hx hZ hown (host := "") (Or.inl (hw _ (List.mem_of_getElem? (i := 16) rfl))) Via.refl e0 (Fld.ext O0.2 F_a_RIGHT_LANE_CHANGE_changedFrom) (g := (mkF m 1 #[.val (.ref a_RIGHT_LANE_CHANGE), .val (.ref a_LEFT)] [(.ref a_RIGHT_LANE_CHANGE)])) rfl rfl (hb hby dc1_1)
  obtain ⟨T2, X2, e2, st2⟩ := getF X1 hx hZ hown (host := "") (Or.inl (hw _ (List.mem_of_getElem? (i := 16) rfl))) Via.refl e1 (Fld.ext O0.2 F_a_RIGHT_LANE_CHANGE_changedFrom) (g := (mkF m 8 #[.val (.ref a_RIGHT_LANE_CHANGE), .val (.ref a_LEFT)] [(.ref a_RIGHT_LANE_CHANGE)])) rfl rfl (hb hby dc1_8)
  obtain ⟨fs, hr, hrun, hended, hW, hsame⟩ := X2.leave (v := some (.int (1 : Int32))) (fun h => by rw [Bd.returns] at h; cases h)
  refine ⟨_, _, pre0 _ ?_, hrun, hended, _, _, rfl, ?_, ⟨_, rfl⟩, hW, hsame.mono (by decide) (by decide)⟩
  · skip
    show Steps p.tables e below (s₁.setTop (mkF m 0 #[.val (.ref a_RIGHT_LANE_CHANGE), .val (.ref a_LEFT)] [])) _
    refine XS.aloadN X0.here hx rfl (hb hby dc1_0) rfl rfl ?_
    show Steps p.tables e below (s₁.setTop (mkF m 1 #[.val (.ref a_RIGHT_LANE_CHANGE), .val (.ref a_LEFT)] [(.ref a_RIGHT_LANE_CHANGE)])) _
    refine st1 _ ?_
    show Steps p.tables e below (T1.setTop (mkF m 4 #[.val (.ref a_RIGHT_LANE_CHANGE), .val (.ref a_LEFT)] [(.ref a_LEFT)])) _
    refine XS.ifnullNo X1.here hx rfl (hb hby dc1_4) rfl ?_
    show Steps p.tables e below (T1.setTop (mkF m 7 #[.val (.ref a_RIGHT_LANE_CHANGE), .val (.ref a_LEFT)] [])) _
    refine XS.aloadN X1.here hx rfl (hb hby dc1_7) rfl rfl ?_
    show Steps p.tables e below (T1.setTop (mkF m 8 #[.val (.ref a_RIGHT_LANE_CHANGE), .val (.ref a_LEFT)] [(.ref a_RIGHT_LANE_CHANGE)])) _
    refine st2 _ ?_
    show Steps p.tables e below (T2.setTop (mkF m 11 #[.val (.ref a_RIGHT_LANE_CHANGE), .val (.ref a_LEFT)] [(.ref a_LEFT)])) _
    refine XS.aloadN X2.here hx rfl (hb hby dc1_11) rfl rfl ?_
    show Steps p.tables e below (T2.setTop (mkF m 12 #[.val (.ref a_RIGHT_LANE_CHANGE), .val (.ref a_LEFT)] [(.ref a_LEFT), (.ref a_LEFT)])) _
    refine Jvm.RoadKit.acmp (g := (mkF m 12 #[.val (.ref a_RIGHT_LANE_CHANGE), .val (.ref a_LEFT)] [(.ref a_LEFT), (.ref a_LEFT)])) X2 hx rfl rfl rfl (pc0 := 12) (pc' := 15) (same := true) rfl (hb hby dc1_12) rfl (decide_eq_true rfl) (by decide) (by decide) ?_
    show Steps p.tables e below (T2.setTop (mkF m 15 #[.val (.ref a_RIGHT_LANE_CHANGE), .val (.ref a_LEFT)] [])) _
    refine XS.iconst X2.here hx rfl (hb hby dc1_15) ?_
    show Steps p.tables e below (T2.setTop (mkF m 16 #[.val (.ref a_RIGHT_LANE_CHANGE), .val (.ref a_LEFT)] [(.int (1 : Int32))])) _
    refine XS.goto X2.here hx rfl (pc0 := 16) (pc' := 20) rfl (hb hby dc1_16) (by decide) (by decide) ?_
    show Steps p.tables e below (T2.setTop (mkF m 20 #[.val (.ref a_RIGHT_LANE_CHANGE), .val (.ref a_LEFT)] [(.int (1 : Int32))])) _
    exact retN X2 hx (t := .boolean) Bd.returns (by simp) (hb hby dc1_20) hr
  · show Q_rm_canBeTakenIn_8 a_LEFT_LANE_CHANGE a_RIGHT a_BRAKE a_DRIVE a_ACCELERATE a_LEFT a_RIGHT_LANE_CHANGE h0 n0 _ T2.heap _
    rw [e2]
    exact ⟨rfl, N0, rfl⟩
def Q_rm_canBeTakenIn_9 (a_LEFT_LANE_CHANGE a_RIGHT a_BRAKE a_DRIVE a_ACCELERATE a_LEFT a_RIGHT_LANE_CHANGE : Addr) (h0 : Heap) (n0 : Nat) (v : Option Value) (h : Heap) (L : List Loc) : Prop := v = some (.int (0 : Int32)) ∧ Fr n0 L ∧ h = h0
set_option maxRecDepth 65536 in
set_option maxHeartbeats 40000000 in
theorem rm_canBeTakenIn_9 (l : Launch) (Z : State) (a0 : Array Value) (hw : ∀ d ∈ tables_1, d.before a0 Z = true) (ws : List Jvm.Cond) (a_LEFT_LANE_CHANGE a_RIGHT a_BRAKE a_DRIVE a_ACCELERATE a_LEFT a_RIGHT_LANE_CHANGE : Addr) (h0 : Heap) (n0 : Nat) (O0 : Old Z n0 h0) (En : OwnEnv Z a_LEFT_LANE_CHANGE a_RIGHT a_BRAKE a_DRIVE a_ACCELERATE a_LEFT a_RIGHT_LANE_CHANGE) :
    MetFree l (⟨"com/example/roadwright/roadwright/road/Manoeuvre", "canBeTakenIn", "(Lcom/example/roadwright/roadwright/road/Lane;)Z"⟩ : MethodName) (head1 (Jvm.Cond.code (⟨"com/example/roadwright/roadwright/road/Manoeuvre", "canBeTakenIn", "(Lcom/example/roadwright/roadwright/road/Lane;)Z"⟩ : MethodName) prog_67_method_10_code 2 (some .boolean) :: ws) ({ frames := 0, cells := 0, slots := 0, locals := 0 } : Room)) (fun a U => a = #[(.ref a_RIGHT_LANE_CHANGE), (.ref a_RIGHT)] ∧ Z.Warmed39 U.vm ∧ U.heap = h0) (fun _ _ _ _ _ => True) (fun _ U o U' => ∃ v L, o = .returned v ∧ Q_rm_canBeTakenIn_9 a_LEFT_LANE_CHANGE a_RIGHT a_BRAKE a_DRIVE a_ACCELERATE a_LEFT a_RIGHT_LANE_CHANGE h0 n0 v U'.heap L ∧ FrameEnd U o U' L ({ frames := 0, cells := 0, slots := 0, locals := 0 } : Room).cells ({ frames := 0, cells := 0, slots := 0, locals := 0 } : Room).slots) := by
  refine MetFree.of_bodySF (plainFor_of_name pn_1) hisR ?_
  intro p e s m args below meth c s₁ Bd hml0 hP hK
  obtain ⟨rfl, hZ, hh⟩ := hP
  have hx := Bd.exec
  have hby := Bd.bytes
  have hml : c.maxLocals = 2 := hml0
  have hown : s.vm.findClass "com/example/roadwright/roadwright/road/Manoeuvre" = some m.cls := findClass_of_methodNamed Bd.named
  have hnm := (name_of_methodNamed Bd.named Bd.method).1
  have X0 : Stand p l e ({ frames := 0, cells := 0, slots := 0, locals := 0 } : Room) s m #[(.ref a_RIGHT_LANE_CHANGE), (.ref a_RIGHT)] below meth c s₁ [] 0 0 := Stand.of_body Bd
  have e0 : s₁.heap = h0 := by rw [← hh, Bd.state]; rfl
  have N0 := Fr.nil n0
  have pre0 : ∀ t, Steps p.tables e below (s₁.setTop (mkF m 0 #[.val (.ref a_RIGHT_LANE_CHANGE), .val (.ref a_RIGHT)] [])) t → Steps p.tables e below (s₁.setTop (entryFrame m #[(.ref a_RIGHT_LANE_CHANGE), (.ref a_RIGHT)] 2)) t := fun t k => castTop (ef_2 m a_RIGHT_LANE_CHANGE a_RIGHT) k
  obtain ⟨S_a_LEFT_LANE_CHANGE, X_a_LEFT_LANE_CHANGE, S_a_RIGHT, X_a_RIGHT, S_a_BRAKE, X_a_BRAKE, S_a_DRIVE, X_a_DRIVE, S_a_ACCELERATE, X_a_ACCELERATE, S_a_LEFT, X_a_LEFT, S_a_RIGHT_LANE_CHANGE, X_a_RIGHT_LANE_CHANGE, F_a_LEFT_LANE_CHANGE_changedFrom, F_a_BRAKE_changedFrom, F_a_DRIVE_changedFrom, F_a_ACCELERATE_changedFrom, F_a_RIGHT_LANE_CHANGE_changedFrom, F_a_LEFT_ordinal, F_a_RIGHT_ordinal⟩ := id En
  obtain ⟨T1, X1, e1, st1⟩ := getF X0 hx hZ hown (host := "") (Or.inl (hw _ (List.mem_of_getElem? (i := 16) rfl))) Via.refl e0 (Fld.ext O0.2 F_a_RIGHT_LANE_CHANGE_changedFrom) (g := (mkF m 1 #[.val (.ref a_RIGHT_LANE_CHANGE), .val (.ref a_RIGHT)] [(.ref a_RIGHT_LANE_CHANGE)])) rfl rfl (hb hby dc1_1)
  obtain ⟨T2, X2, e2, st2⟩ := getF X1 hx hZ hown (host := "") (Or.inl (hw _ (List.mem_of_getElem? (i := 16) rfl))) Via.refl e1 (Fld.ext O0.2 F_a_RIGHT_LANE_CHANGE_changedFrom) (g := (mkF m 8 #[.val (.ref a_RIGHT_LANE_CHANGE), .val (.ref a_RIGHT)] [(.ref a_RIGHT_LANE_CHANGE)])) rfl rfl (hb hby dc1_8)
  obtain ⟨fs, hr, hrun, hended, hW, hsame⟩ := X2.leave (v := some (.int (0 : Int32))) (fun h => by rw [Bd.returns] at h; cases h)
  refine ⟨_, _, pre0 _ ?_, hrun, hended, _, _, rfl, ?_, ⟨_, rfl⟩, hW, hsame.mono (by decide) (by decide)⟩
  · skip
    show Steps p.tables e below (s₁.setTop (mkF m 0 #[.val (.ref a_RIGHT_LANE_CHANGE), .val (.ref a_RIGHT)] [])) _
    refine XS.aloadN X0.here hx rfl (hb hby dc1_0) rfl rfl ?_
    show Steps p.tables e below (s₁.setTop (mkF m 1 #[.val (.ref a_RIGHT_LANE_CHANGE), .val (.ref a_RIGHT)] [(.ref a_RIGHT_LANE_CHANGE)])) _
    refine st1 _ ?_
    show Steps p.tables e below (T1.setTop (mkF m 4 #[.val (.ref a_RIGHT_LANE_CHANGE), .val (.ref a_RIGHT)] [(.ref a_LEFT)])) _
    refine XS.ifnullNo X1.here hx rfl (hb hby dc1_4) rfl ?_
    show Steps p.tables e below (T1.setTop (mkF m 7 #[.val (.ref a_RIGHT_LANE_CHANGE), .val (.ref a_RIGHT)] [])) _
    refine XS.aloadN X1.here hx rfl (hb hby dc1_7) rfl rfl ?_
    show Steps p.tables e below (T1.setTop (mkF m 8 #[.val (.ref a_RIGHT_LANE_CHANGE), .val (.ref a_RIGHT)] [(.ref a_RIGHT_LANE_CHANGE)])) _
    refine st2 _ ?_
    show Steps p.tables e below (T2.setTop (mkF m 11 #[.val (.ref a_RIGHT_LANE_CHANGE), .val (.ref a_RIGHT)] [(.ref a_LEFT)])) _
    refine XS.aloadN X2.here hx rfl (hb hby dc1_11) rfl rfl ?_
    show Steps p.tables e below (T2.setTop (mkF m 12 #[.val (.ref a_RIGHT_LANE_CHANGE), .val (.ref a_RIGHT)] [(.ref a_RIGHT), (.ref a_LEFT)])) _
    refine Jvm.RoadKit.acmp (g := (mkF m 12 #[.val (.ref a_RIGHT_LANE_CHANGE), .val (.ref a_RIGHT)] [(.ref a_RIGHT), (.ref a_LEFT)])) X2 hx rfl rfl rfl (pc0 := 12) (pc' := 19) (same := false) rfl (hb hby dc1_12) rfl (decide_eq_false fun q => (Fld.ne F_a_LEFT_ordinal F_a_RIGHT_ordinal (by simp)) (Value.ref.inj q)) (by decide) (by decide) ?_
    show Steps p.tables e below (T2.setTop (mkF m 19 #[.val (.ref a_RIGHT_LANE_CHANGE), .val (.ref a_RIGHT)] [])) _
    refine XS.iconst X2.here hx rfl (hb hby dc1_19) ?_
    show Steps p.tables e below (T2.setTop (mkF m 20 #[.val (.ref a_RIGHT_LANE_CHANGE), .val (.ref a_RIGHT)] [(.int (0 : Int32))])) _
    exact retN X2 hx (t := .boolean) Bd.returns (by simp) (hb hby dc1_20) hr
  · show Q_rm_canBeTakenIn_9 a_LEFT_LANE_CHANGE a_RIGHT a_BRAKE a_DRIVE a_ACCELERATE a_LEFT a_RIGHT_LANE_CHANGE h0 n0 _ T2.heap _
    rw [e2]
    exact ⟨rfl, N0, rfl⟩
def Q_rm_pick_10 (a_LEFT_LANE_CHANGE a_RIGHT a_BRAKE a_DRIVE a_ACCELERATE a_LEFT a_RIGHT_LANE_CHANGE : Addr) (h0 : Heap) (n0 : Nat) (v : Option Value) (h : Heap) (L : List Loc) : Prop := v = some (.ref a_DRIVE) ∧ Fr n0 L ∧ h = h0
theorem dc0_26 : decode method_3_code 26 = .ok (.iload_n 0, 1) := by decide +kernel
theorem dc0_27 : decode method_3_code 27 = .ok (.iconst 3, 1) := by decide +kernel
theorem dc0_28 : decode method_3_code 28 = .ok (.if_icmp .ne 7, 3) := by decide +kernel
theorem dc0_31 : decode method_3_code 31 = .ok (.getstatic 39, 3) := by decide +kernel
theorem dc0_34 : decode method_3_code 34 = .ok (.areturn, 1) := by decide +kernel
set_option maxRecDepth 65536 in
set_option maxHeartbeats 40000000 in
theorem rm_pick_10 (l : Launch) (Z : State) (a0 : Array Value) (hw : ∀ d ∈ tables_1, d.before a0 Z = true) (ws : List Jvm.Cond) (a_LEFT_LANE_CHANGE a_RIGHT a_BRAKE a_DRIVE a_ACCELERATE a_LEFT a_RIGHT_LANE_CHANGE : Addr) (h0 : Heap) (n0 : Nat) (O0 : Old Z n0 h0) (En : OwnEnv Z a_LEFT_LANE_CHANGE a_RIGHT a_BRAKE a_DRIVE a_ACCELERATE a_LEFT a_RIGHT_LANE_CHANGE) :
    MetFree l (⟨"com/example/roadwright/roadwright/road/ManoeuvreCanBeTakenInPinLaw", "pick", "(I)Lcom/example/roadwright/roadwright/road/Manoeuvre;"⟩ : MethodName) (head1 (Jvm.Cond.code (⟨"com/example/roadwright/roadwright/road/ManoeuvreCanBeTakenInPinLaw", "pick", "(I)Lcom/example/roadwright/roadwright/road/Manoeuvre;"⟩ : MethodName) method_3_code 1 (some (.object "com/example/roadwright/roadwright/road/Manoeuvre")) :: ws) ({ frames := 0, cells := 0, slots := 0, locals := 0 } : Room)) (fun a U => a = #[(.int (3 : Int32))] ∧ Z.Warmed39 U.vm ∧ U.heap = h0) (fun _ _ _ _ _ => True) (fun _ U o U' => ∃ v L, o = .returned v ∧ Q_rm_pick_10 a_LEFT_LANE_CHANGE a_RIGHT a_BRAKE a_DRIVE a_ACCELERATE a_LEFT a_RIGHT_LANE_CHANGE h0 n0 v U'.heap L ∧ FrameEnd U o U' L ({ frames := 0, cells := 0, slots := 0, locals := 0 } : Room).cells ({ frames := 0, cells := 0, slots := 0, locals := 0 } : Room).slots) := by
  refine MetFree.of_bodySF (plainFor_of_name pn_0) hisR ?_
  intro p e s m args below meth c s₁ Bd hml0 hP hK
  obtain ⟨rfl, hZ, hh⟩ := hP
  have hx := Bd.exec
  have hby := Bd.bytes
  have hml : c.maxLocals = 1 := hml0
  have hown : s.vm.findClass "com/example/roadwright/roadwright/road/ManoeuvreCanBeTakenInPinLaw" = some m.cls := findClass_of_methodNamed Bd.named
  have hnm := (name_of_methodNamed Bd.named Bd.method).1
  have X0 : Stand p l e ({ frames := 0, cells := 0, slots := 0, locals := 0 } : Room) s m #[(.int (3 : Int32))] below meth c s₁ [] 0 0 := Stand.of_body Bd
  have e0 : s₁.heap = h0 := by rw [← hh, Bd.state]; rfl
  have N0 := Fr.nil n0
  have pre0 : ∀ t, Steps p.tables e below (s₁.setTop (mkF m 0 #[.val (.int (3 : Int32))] [])) t → Steps p.tables e below (s₁.setTop (entryFrame m #[(.int (3 : Int32))] 1)) t := fun t k => castTop (ef_1 m (3 : Int32)) k
  obtain ⟨S_a_LEFT_LANE_CHANGE, X_a_LEFT_LANE_CHANGE, S_a_RIGHT, X_a_RIGHT, S_a_BRAKE, X_a_BRAKE, S_a_DRIVE, X_a_DRIVE, S_a_ACCELERATE, X_a_ACCELERATE, S_a_LEFT, X_a_LEFT, S_a_RIGHT_LANE_CHANGE, X_a_RIGHT_LANE_CHANGE, F_a_LEFT_LANE_CHANGE_changedFrom, F_a_BRAKE_changedFrom, F_a_DRIVE_changedFrom, F_a_ACCELERATE_changedFrom, F_a_RIGHT_LANE_CHANGE_changedFrom, F_a_LEFT_ordinal, F_a_RIGHT_ordinal⟩ := id En
  obtain ⟨T1, X1, e1, st1⟩ := getS2 X0 hx hZ hown (host := "") (Or.inl (hw _ (List.mem_of_getElem? (i := 20) rfl))) Via.refl e0 (Sta.ext O0.2 S_a_DRIVE) (g := (mkF m 31 #[.val (.int (3 : Int32))] [])) rfl (hb hby dc0_31)
  obtain ⟨fs, hr, hrun, hended, hW, hsame⟩ := X1.leave (v := some (.ref a_DRIVE)) (fun h => by rw [Bd.returns] at h; cases h)
  refine ⟨_, _, pre0 _ ?_, hrun, hended, _, _, rfl, ?_, ⟨_, rfl⟩, hW, hsame.mono (by decide) (by decide)⟩
  · skip
    show Steps p.tables e below (s₁.setTop (mkF m 0 #[.val (.int (3 : Int32))] [])) _
    refine XS.iloadN X0.here hx rfl (hb hby dc0_0) rfl ?_
    show Steps p.tables e below (s₁.setTop (mkF m 1 #[.val (.int (3 : Int32))] [(.int (3 : Int32))])) _
    refine XS.ifYes X0.here hx rfl (pc0 := 1) (pc' := 8) rfl (hb hby dc0_1) rfl (by decide) (by decide) (by decide) ?_
    show Steps p.tables e below (s₁.setTop (mkF m 8 #[.val (.int (3 : Int32))] [])) _
    refine XS.iloadN X0.here hx rfl (hb hby dc0_8) rfl ?_
    show Steps p.tables e below (s₁.setTop (mkF m 9 #[.val (.int (3 : Int32))] [(.int (3 : Int32))])) _
    refine XS.iconst X0.here hx rfl (hb hby dc0_9) ?_
    show Steps p.tables e below (s₁.setTop (mkF m 10 #[.val (.int (3 : Int32))] [(.int (1 : Int32)), (.int (3 : Int32))])) _
    refine XS.icmpYes X0.here hx rfl (pc0 := 10) (pc' := 17) rfl (hb hby dc0_10) rfl (by decide) (by decide) (by decide) ?_
    show Steps p.tables e below (s₁.setTop (mkF m 17 #[.val (.int (3 : Int32))] [])) _
    refine XS.iloadN X0.here hx rfl (hb hby dc0_17) rfl ?_
    show Steps p.tables e below (s₁.setTop (mkF m 18 #[.val (.int (3 : Int32))] [(.int (3 : Int32))])) _
    refine XS.iconst X0.here hx rfl (hb hby dc0_18) ?_
    show Steps p.tables e below (s₁.setTop (mkF m 19 #[.val (.int (3 : Int32))] [(.int (2 : Int32)), (.int (3 : Int32))])) _
    refine XS.icmpYes X0.here hx rfl (pc0 := 19) (pc' := 26) rfl (hb hby dc0_19) rfl (by decide) (by decide) (by decide) ?_
    show Steps p.tables e below (s₁.setTop (mkF m 26 #[.val (.int (3 : Int32))] [])) _
    refine XS.iloadN X0.here hx rfl (hb hby dc0_26) rfl ?_
    show Steps p.tables e below (s₁.setTop (mkF m 27 #[.val (.int (3 : Int32))] [(.int (3 : Int32))])) _
    refine XS.iconst X0.here hx rfl (hb hby dc0_27) ?_
    show Steps p.tables e below (s₁.setTop (mkF m 28 #[.val (.int (3 : Int32))] [(.int (3 : Int32)), (.int (3 : Int32))])) _
    refine XS.icmpNo X0.here hx rfl (hb hby dc0_28) rfl (by decide) ?_
    show Steps p.tables e below (s₁.setTop (mkF m 31 #[.val (.int (3 : Int32))] [])) _
    refine st1 _ ?_
    show Steps p.tables e below (T1.setTop (mkF m 34 #[.val (.int (3 : Int32))] [(.ref a_DRIVE)])) _
    exact retOut X1 hx (t := (.object "com/example/roadwright/roadwright/road/Manoeuvre")) Bd.returns rfl (Or.inr (Or.inr (Or.inr (Or.inr ⟨rfl, rfl, rfl⟩)))) (hb hby dc0_34) hr
  · show Q_rm_pick_10 a_LEFT_LANE_CHANGE a_RIGHT a_BRAKE a_DRIVE a_ACCELERATE a_LEFT a_RIGHT_LANE_CHANGE h0 n0 _ T1.heap _
    rw [e1]
    exact ⟨rfl, N0, rfl⟩
def Q_rm_canBeTakenIn_11 (a_LEFT_LANE_CHANGE a_RIGHT a_BRAKE a_DRIVE a_ACCELERATE a_LEFT a_RIGHT_LANE_CHANGE : Addr) (h0 : Heap) (n0 : Nat) (v : Option Value) (h : Heap) (L : List Loc) : Prop := v = some (.int (1 : Int32)) ∧ Fr n0 L ∧ h = h0
set_option maxRecDepth 65536 in
set_option maxHeartbeats 40000000 in
theorem rm_canBeTakenIn_11 (l : Launch) (Z : State) (a0 : Array Value) (hw : ∀ d ∈ tables_1, d.before a0 Z = true) (ws : List Jvm.Cond) (a_LEFT_LANE_CHANGE a_RIGHT a_BRAKE a_DRIVE a_ACCELERATE a_LEFT a_RIGHT_LANE_CHANGE : Addr) (h0 : Heap) (n0 : Nat) (O0 : Old Z n0 h0) (En : OwnEnv Z a_LEFT_LANE_CHANGE a_RIGHT a_BRAKE a_DRIVE a_ACCELERATE a_LEFT a_RIGHT_LANE_CHANGE) :
    MetFree l (⟨"com/example/roadwright/roadwright/road/Manoeuvre", "canBeTakenIn", "(Lcom/example/roadwright/roadwright/road/Lane;)Z"⟩ : MethodName) (head1 (Jvm.Cond.code (⟨"com/example/roadwright/roadwright/road/Manoeuvre", "canBeTakenIn", "(Lcom/example/roadwright/roadwright/road/Lane;)Z"⟩ : MethodName) prog_67_method_10_code 2 (some .boolean) :: ws) ({ frames := 0, cells := 0, slots := 0, locals := 0 } : Room)) (fun a U => a = #[(.ref a_DRIVE), (.ref a_LEFT)] ∧ Z.Warmed39 U.vm ∧ U.heap = h0) (fun _ _ _ _ _ => True) (fun _ U o U' => ∃ v L, o = .returned v ∧ Q_rm_canBeTakenIn_11 a_LEFT_LANE_CHANGE a_RIGHT a_BRAKE a_DRIVE a_ACCELERATE a_LEFT a_RIGHT_LANE_CHANGE h0 n0 v U'.heap L ∧ FrameEnd U o U' L ({ frames := 0, cells := 0, slots := 0, locals := 0 } : Room).cells ({ frames := 0, cells := 0, slots := 0, locals := 0 } : Room).slots) := by
  refine MetFree.of_bodySF (plainFor_of_name pn_1) hisR ?_
  intro p e s m args below meth c s₁ Bd hml0 hP hK
  obtain ⟨rfl, hZ, hh⟩ := hP
  have hx := Bd.exec
  have hby := Bd.bytes
  have hml : c.maxLocals = 2 := hml0
  have hown : s.vm.findClass "com/example/roadwright/roadwright/road/Manoeuvre" = some m.cls := findClass_of_methodNamed Bd.named
  have hnm := (name_of_methodNamed Bd.named Bd.method).1
  have X0 : Stand p l e ({ frames := 0, cells := 0, slots := 0, locals := 0 } : Room) s m #[(.ref a_DRIVE), (.ref a_LEFT)] below meth c s₁ [] 0 0 := Stand.of_body Bd
  have e0 : s₁.heap = h0 := by rw [← hh, Bd.state]; rfl
  have N0 := Fr.nil n0
  have pre0 : ∀ t, Steps p.tables e below (s₁.setTop (mkF m 0 #[.val (.ref a_DRIVE), .val (.ref a_LEFT)] [])) t → Steps p.tables e below (s₁.setTop (entryFrame m #[(.ref a_DRIVE), (.ref a_LEFT)] 2)) t := fun t k => castTop (ef_2 m a_DRIVE a_LEFT) k
  obtain ⟨S_a_LEFT_LANE_CHANGE, X_a_LEFT_LANE_CHANGE, S_a_RIGHT, X_a_RIGHT, S_a_BRAKE, X_a_BRAKE, S_a_DRIVE, X_a_DRIVE, S_a_ACCELERATE, X_a_ACCELERATE, S_a_LEFT, X_a_LEFT, S_a_RIGHT_LANE_CHANGE, X_a_RIGHT_LANE_CHANGE, F_a_LEFT_LANE_CHANGE_changedFrom, F_a_BRAKE_changedFrom, F_a_DRIVE_changedFrom, F_a_ACCELERATE_changedFrom, F_a_RIGHT_LANE_CHANGE_changedFrom, F_a_LEFT_ordinal, F_a_RIGHT_ordinal⟩ := id En
  obtain ⟨T1, X1, e1, st1⟩ := getF X0 hx hZ hown (host := "") (Or.inl (hw _ (List.mem_of_getElem? (i := 16) rfl))) Via.refl e0 (Fld.ext O0.2 F_a_DRIVE_changedFrom) (g := (mkF m 1 #[.val (.ref a_DRIVE), .val (.ref a_LEFT)] [(.ref a_DRIVE)])) rfl rfl (hb hby dc1_1)
  obtain ⟨fs, hr, hrun, hended, hW, hsame⟩ := X1.leave (v := some (.int (1 : Int32))) (fun h => by rw [Bd.returns] at h; cases h)
  refine ⟨_, _, pre0 _ ?_, hrun, hended, _, _, rfl, ?_, ⟨_, rfl⟩, hW, hsame.mono (by decide) (by decide)⟩
  · skip
    show Steps p.tables e below (s₁.setTop (mkF m 0 #[.val (.ref a_DRIVE), .val (.ref a_LEFT)] [])) _
    refine XS.aloadN X0.here hx rfl (hb hby dc1_0) rfl rfl ?_
    show Steps p.tables e below (s₁.setTop (mkF m 1 #[.val (.ref a_DRIVE), .val (.ref a_LEFT)] [(.ref a_DRIVE)])) _
    refine st1 _ ?_
    show Steps p.tables e below (T1.setTop (mkF m 4 #[.val (.ref a_DRIVE), .val (.ref a_LEFT)] [.null])) _
    refine XS.ifnullYes X1.here hx rfl (pc0 := 4) (pc' := 15) rfl (hb hby dc1_4) rfl (by decide) (by decide) ?_
    show Steps p.tables e below (T1.setTop (mkF m 15 #[.val (.ref a_DRIVE), .val (.ref a_LEFT)] [])) _
    refine XS.iconst X1.here hx rfl (hb hby dc1_15) ?_
    show Steps p.tables e below (T1.setTop (mkF m 16 #[.val (.ref a_DRIVE), .val (.ref a_LEFT)] [(.int (1 : Int32))])) _
    refine XS.goto X1.here hx rfl (pc0 := 16) (pc' := 20) rfl (hb hby dc1_16) (by decide) (by decide) ?_
    show Steps p.tables e below (T1.setTop (mkF m 20 #[.val (.ref a_DRIVE), .val (.ref a_LEFT)] [(.int (1 : Int32))])) _
    exact retN X1 hx (t := .boolean) Bd.returns (by simp) (hb hby dc1_20) hr
  · show Q_rm_canBeTakenIn_11 a_LEFT_LANE_CHANGE a_RIGHT a_BRAKE a_DRIVE a_ACCELERATE a_LEFT a_RIGHT_LANE_CHANGE h0 n0 _ T1.heap _
    rw [e1]
    exact ⟨rfl, N0, rfl⟩
def Q_rm_canBeTakenIn_12 (a_LEFT_LANE_CHANGE a_RIGHT a_BRAKE a_DRIVE a_ACCELERATE a_LEFT a_RIGHT_LANE_CHANGE : Addr) (h0 : Heap) (n0 : Nat) (v : Option Value) (h : Heap) (L : List Loc) : Prop := v = some (.int (1 : Int32)) ∧ Fr n0 L ∧ h = h0
set_option maxRecDepth 65536 in
set_option maxHeartbeats 40000000 in
theorem rm_canBeTakenIn_12 (l : Launch) (Z : State) (a0 : Array Value) (hw : ∀ d ∈ tables_1, d.before a0 Z = true) (ws : List Jvm.Cond) (a_LEFT_LANE_CHANGE a_RIGHT a_BRAKE a_DRIVE a_ACCELERATE a_LEFT a_RIGHT_LANE_CHANGE : Addr) (h0 : Heap) (n0 : Nat) (O0 : Old Z n0 h0) (En : OwnEnv Z a_LEFT_LANE_CHANGE a_RIGHT a_BRAKE a_DRIVE a_ACCELERATE a_LEFT a_RIGHT_LANE_CHANGE) :
    MetFree l (⟨"com/example/roadwright/roadwright/road/Manoeuvre", "canBeTakenIn", "(Lcom/example/roadwright/roadwright/road/Lane;)Z"⟩ : MethodName) (head1 (Jvm.Cond.code (⟨"com/example/roadwright/roadwright/road/Manoeuvre", "canBeTakenIn", "(Lcom/example/roadwright/roadwright/road/Lane;)Z"⟩ : MethodName) prog_67_method_10_code 2 (some .boolean) :: ws) ({ frames := 0, cells := 0, slots := 0, locals := 0 } : Room)) (fun a U => a = #[(.ref a_DRIVE), (.ref a_RIGHT)] ∧ Z.Warmed39 U.vm ∧ U.heap = h0) (fun _ _ _ _ _ => True) (fun _ U o U' => ∃ v L, o = .returned v ∧ Q_rm_canBeTakenIn_12 a_LEFT_LANE_CHANGE a_RIGHT a_BRAKE a_DRIVE a_ACCELERATE a_LEFT a_RIGHT_LANE_CHANGE h0 n0 v U'.heap L ∧ FrameEnd U o U' L ({ frames := 0, cells := 0, slots := 0, locals := 0 } : Room).cells ({ frames := 0, cells := 0, slots := 0, locals := 0 } : Room).slots) := by
  refine MetFree.of_bodySF (plainFor_of_name pn_1) hisR ?_
  intro p e s m args below meth c s₁ Bd hml0 hP hK
  obtain ⟨rfl, hZ, hh⟩ := hP
  have hx := Bd.exec
  have hby := Bd.bytes
  have hml : c.maxLocals = 2 := hml0
  have hown : s.vm.findClass "com/example/roadwright/roadwright/road/Manoeuvre" = some m.cls := findClass_of_methodNamed Bd.named
  have hnm := (name_of_methodNamed Bd.named Bd.method).1
  have X0 : Stand p l e ({ frames := 0, cells := 0, slots := 0, locals := 0 } : Room) s m #[(.ref a_DRIVE), (.ref a_RIGHT)] below meth c s₁ [] 0 0 := Stand.of_body Bd
  have e0 : s₁.heap = h0 := by rw [← hh, Bd.state]; rfl
  have N0 := Fr.nil n0
  have pre0 : ∀ t, Steps p.tables e below (s₁.setTop (mkF m 0 #[.val (.ref a_DRIVE), .val (.ref a_RIGHT)] [])) t → Steps p.tables e below (s₁.setTop (entryFrame m #[(.ref a_DRIVE), (.ref a_RIGHT)] 2)) t := fun t k => castTop (ef_2 m a_DRIVE a_RIGHT) k
  obtain ⟨S_a_LEFT_LANE_CHANGE, X_a_LEFT_LANE_CHANGE, S_a_RIGHT, X_a_RIGHT, S_a_BRAKE, X_a_BRAKE, S_a_DRIVE, X_a_DRIVE, S_a_ACCELERATE, X_a_ACCELERATE, S_a_LEFT, X_a_LEFT, S_a_RIGHT_LANE_CHANGE, X_a_RIGHT_LANE_CHANGE, F_a_LEFT_LANE_CHANGE_changedFrom, F_a_BRAKE_changedFrom, F_a_DRIVE_changedFrom, F_a_ACCELERATE_changedFrom, F_a_RIGHT_LANE_CHANGE_changedFrom, F_a_LEFT_ordinal, F_a_RIGHT_ordinal⟩ := id En
  obtain ⟨T1, X1, e1, st1⟩ := getF X0 hx hZ hown (host := "") (Or.inl (hw _ (List.mem_of_getElem? (i := 16) rfl))) Via.refl e0 (Fld.ext O0.2 F_a_DRIVE_changedFrom) (g := (mkF m 1 #[.val (.ref a_DRIVE), .val (.ref a_RIGHT)] [(.ref a_DRIVE)])) rfl rfl (hb hby dc1_1)
  obtain ⟨fs, hr, hrun, hended, hW, hsame⟩ := X1.leave (v := some (.int (1 : Int32))) (fun h => by rw [Bd.returns] at h; cases h)
  refine ⟨_, _, pre0 _ ?_, hrun, hended, _, _, rfl, ?_, ⟨_, rfl⟩, hW, hsame.mono (by decide) (by decide)⟩
  · skip
    show Steps p.tables e below (s₁.setTop (mkF m 0 #[.val (.ref a_DRIVE), .val (.ref a_RIGHT)] [])) _
    refine XS.aloadN X0.here hx rfl (hb hby dc1_0) rfl rfl ?_
    show Steps p.tables e below (s₁.setTop (mkF m 1 #[.val (.ref a_DRIVE), .val (.ref a_RIGHT)] [(.ref a_DRIVE)])) _
    refine st1 _ ?_
    show Steps p.tables e below (T1.setTop (mkF m 4 #[.val (.ref a_DRIVE), .val (.ref a_RIGHT)] [.null])) _
    refine XS.ifnullYes X1.here hx rfl (pc0 := 4) (pc' := 15) rfl (hb hby dc1_4) rfl (by decide) (by decide) ?_
    show Steps p.tables e below (T1.setTop (mkF m 15 #[.val (.ref a_DRIVE), .val (.ref a_RIGHT)] [])) _
    refine XS.iconst X1.here hx rfl (hb hby dc1_15) ?_
    show Steps p.tables e below (T1.setTop (mkF m 16 #[.val (.ref a_DRIVE), .val (.ref a_RIGHT)] [(.int (1 : Int32))])) _
    refine XS.goto X1.here hx rfl (pc0 := 16) (pc' := 20) rfl (hb hby dc1_16) (by decide) (by decide) ?_
    show Steps p.tables e below (T1.setTop (mkF m 20 #[.val (.ref a_DRIVE), .val (.ref a_RIGHT)] [(.int (1 : Int32))])) _
    exact retN X1 hx (t := .boolean) Bd.returns (by simp) (hb hby dc1_20) hr
  · show Q_rm_canBeTakenIn_12 a_LEFT_LANE_CHANGE a_RIGHT a_BRAKE a_DRIVE a_ACCELERATE a_LEFT a_RIGHT_LANE_CHANGE h0 n0 _ T1.heap _
    rw [e1]
    exact ⟨rfl, N0, rfl⟩
def Q_rm_pick_13 (a_LEFT_LANE_CHANGE a_RIGHT a_BRAKE a_DRIVE a_ACCELERATE a_LEFT a_RIGHT_LANE_CHANGE : Addr) (h0 : Heap) (n0 : Nat) (v : Option Value) (h : Heap) (L : List Loc) : Prop := v = some (.ref a_BRAKE) ∧ Fr n0 L ∧ h = h0
theorem dc0_35 : decode method_3_code 35 = .ok (.getstatic 42, 3) := by decide +kernel
theorem dc0_38 : decode method_3_code 38 = .ok (.areturn, 1) := by decide +kernel
set_option maxRecDepth 65536 in
set_option maxHeartbeats 40000000 in
theorem rm_pick_13 (l : Launch) (Z : State) (a0 : Array Value) (hw : ∀ d ∈ tables_1, d.before a0 Z = true) (ws : List Jvm.Cond) (a_LEFT_LANE_CHANGE a_RIGHT a_BRAKE a_DRIVE a_ACCELERATE a_LEFT a_RIGHT_LANE_CHANGE : Addr) (h0 : Heap) (n0 : Nat) (O0 : Old Z n0 h0) (En : OwnEnv Z a_LEFT_LANE_CHANGE a_RIGHT a_BRAKE a_DRIVE a_ACCELERATE a_LEFT a_RIGHT_LANE_CHANGE) :
    MetFree l (⟨"com/example/roadwright/roadwright/road/ManoeuvreCanBeTakenInPinLaw", "pick", "(I)Lcom/example/roadwright/roadwright/road/Manoeuvre;"⟩ : MethodName) (head1 (Jvm.Cond.code (⟨"com/example/roadwright/roadwright/road/ManoeuvreCanBeTakenInPinLaw", "pick", "(I)Lcom/example/roadwright/roadwright/road/Manoeuvre;"⟩ : MethodName) method_3_code 1 (some (.object "com/example/roadwright/roadwright/road/Manoeuvre")) :: ws) ({ frames := 0, cells := 0, slots := 0, locals := 0 } : Room)) (fun a U => a = #[(.int (4 : Int32))] ∧ Z.Warmed39 U.vm ∧ U.heap = h0) (fun _ _ _ _ _ => True) (fun _ U o U' => ∃ v L, o = .returned v ∧ Q_rm_pick_13 a_LEFT_LANE_CHANGE a_RIGHT a_BRAKE a_DRIVE a_ACCELERATE a_LEFT a_RIGHT_LANE_CHANGE h0 n0 v U'.heap L ∧ FrameEnd U o U' L ({ frames := 0, cells := 0, slots := 0, locals := 0 } : Room).cells ({ frames := 0, cells := 0, slots := 0, locals := 0 } : Room).slots) := by
  refine MetFree.of_bodySF (plainFor_of_name pn_0) hisR ?_
  intro p e s m args below meth c s₁ Bd hml0 hP hK
  obtain ⟨rfl, hZ, hh⟩ := hP
  have hx := Bd.exec
  have hby := Bd.bytes
  have hml : c.maxLocals = 1 := hml0
  have hown : s.vm.findClass "com/example/roadwright/roadwright/road/ManoeuvreCanBeTakenInPinLaw" = some m.cls := findClass_of_methodNamed Bd.named
  have hnm := (name_of_methodNamed Bd.named Bd.method).1
  have X0 : Stand p l e ({ frames := 0, cells := 0, slots := 0, locals := 0 } : Room) s m #[(.int (4 : Int32))] below meth c s₁ [] 0 0 := Stand.of_body Bd
  have e0 : s₁.heap = h0 := by rw [← hh, Bd.state]; rfl
  have N0 := Fr.nil n0
  have pre0 : ∀ t, Steps p.tables e below (s₁.setTop (mkF m 0 #[.val (.int (4 : Int32))] [])) t → Steps p.tables e below (s₁.setTop (entryFrame m #[(.int (4 : Int32))] 1)) t := fun t k => castTop (ef_1 m (4 : Int32)) k
  obtain ⟨S_a_LEFT_LANE_CHANGE, X_a_LEFT_LANE_CHANGE, S_a_RIGHT, X_a_RIGHT, S_a_BRAKE, X_a_BRAKE, S_a_DRIVE, X_a_DRIVE, S_a_ACCELERATE, X_a_ACCELERATE, S_a_LEFT, X_a_LEFT, S_a_RIGHT_LANE_CHANGE, X_a_RIGHT_LANE_CHANGE, F_a_LEFT_LANE_CHANGE_changedFrom, F_a_BRAKE_changedFrom, F_a_DRIVE_changedFrom, F_a_ACCELERATE_changedFrom, F_a_RIGHT_LANE_CHANGE_changedFrom, F_a_LEFT_ordinal, F_a_RIGHT_ordinal⟩ := id En
  obtain ⟨T1, X1, e1, st1⟩ := getS2 X0 hx hZ hown (host := "") (Or.inl (hw _ (List.mem_of_getElem? (i := 18) rfl))) Via.refl e0 (Sta.ext O0.2 S_a_BRAKE) (g := (mkF m 35 #[.val (.int (4 : Int32))] [])) rfl (hb hby dc0_35)
  obtain ⟨fs, hr, hrun, hended, hW, hsame⟩ := X1.leave (v := some (.ref a_BRAKE)) (fun h => by rw [Bd.returns] at h; cases h)
  refine ⟨_, _, pre0 _ ?_, hrun, hended, _, _, rfl, ?_, ⟨_, rfl⟩, hW, hsame.mono (by decide) (by decide)⟩
  · skip
    show Steps p.tables e below (s₁.setTop (mkF m 0 #[.val (.int (4 : Int32))] [])) _
    refine XS.iloadN X0.here hx rfl (hb hby dc0_0) rfl ?_
    show Steps p.tables e below (s₁.setTop (mkF m 1 #[.val (.int (4 : Int32))] [(.int (4 : Int32))])) _
    refine XS.ifYes X0.here hx rfl (pc0 := 1) (pc' := 8) rfl (hb hby dc0_1) rfl (by decide) (by decide) (by decide) ?_
    show Steps p.tables e below (s₁.setTop (mkF m 8 #[.val (.int (4 : Int32))] [])) _
    refine XS.iloadN X0.here hx rfl (hb hby dc0_8) rfl ?_
    show Steps p.tables e below (s₁.setTop (mkF m 9 #[.val (.int (4 : Int32))] [(.int (4 : Int32))])) _
    refine XS.iconst X0.here hx rfl (hb hby dc0_9) ?_
    show Steps p.tables e below (s₁.setTop (mkF m 10 #[.val (.int (4 : Int32))] [(.int (1 : Int32)), (.int (4 : Int32))])) _
    refine XS.icmpYes X0.here hx rfl (pc0 := 10) (pc' := 17) rfl (hb hby dc0_10) rfl (by decide) (by decide) (by decide) ?_
    show Steps p.tables e below (s₁.setTop (mkF m 17 #[.val (.int (4 : Int32))] [])) _
    refine XS.iloadN X0.here hx rfl (hb hby dc0_17) rfl ?_
    show Steps p.tables e below (s₁.setTop (mkF m 18 #[.val (.int (4 : Int32))] [(.int (4 : Int32))])) _
    refine XS.iconst X0.here hx rfl (hb hby dc0_18) ?_
    show Steps p.tables e below (s₁.setTop (mkF m 19 #[.val (.int (4 : Int32))] [(.int (2 : Int32)), (.int (4 : Int32))])) _
    refine XS.icmpYes X0.here hx rfl (pc0 := 19) (pc' := 26) rfl (hb hby dc0_19) rfl (by decide) (by decide) (by decide) ?_
    show Steps p.tables e below (s₁.setTop (mkF m 26 #[.val (.int (4 : Int32))] [])) _
    refine XS.iloadN X0.here hx rfl (hb hby dc0_26) rfl ?_
    show Steps p.tables e below (s₁.setTop (mkF m 27 #[.val (.int (4 : Int32))] [(.int (4 : Int32))])) _
    refine XS.iconst X0.here hx rfl (hb hby dc0_27) ?_
    show Steps p.tables e below (s₁.setTop (mkF m 28 #[.val (.int (4 : Int32))] [(.int (3 : Int32)), (.int (4 : Int32))])) _
    refine XS.icmpYes X0.here hx rfl (pc0 := 28) (pc' := 35) rfl (hb hby dc0_28) rfl (by decide) (by decide) (by decide) ?_
    show Steps p.tables e below (s₁.setTop (mkF m 35 #[.val (.int (4 : Int32))] [])) _
    refine st1 _ ?_
    show Steps p.tables e below (T1.setTop (mkF m 38 #[.val (.int (4 : Int32))] [(.ref a_BRAKE)])) _
    exact retOut X1 hx (t := (.object "com/example/roadwright/roadwright/road/Manoeuvre")) Bd.returns rfl (Or.inr (Or.inr (Or.inr (Or.inr ⟨rfl, rfl, rfl⟩)))) (hb hby dc0_38) hr
  · show Q_rm_pick_13 a_LEFT_LANE_CHANGE a_RIGHT a_BRAKE a_DRIVE a_ACCELERATE a_LEFT a_RIGHT_LANE_CHANGE h0 n0 _ T1.heap _
    rw [e1]
    exact ⟨rfl, N0, rfl⟩
def Q_rm_canBeTakenIn_14 (a_LEFT_LANE_CHANGE a_RIGHT a_BRAKE a_DRIVE a_ACCELERATE a_LEFT a_RIGHT_LANE_CHANGE : Addr) (h0 : Heap) (n0 : Nat) (v : Option Value) (h : Heap) (L : List Loc) : Prop := v = some (.int (1 : Int32)) ∧ Fr n0 L ∧ h = h0
set_option maxRecDepth 65536 in
set_option maxHeartbeats 40000000 in
theorem rm_canBeTakenIn_14 (l : Launch) (Z : State) (a0 : Array Value) (hw : ∀ d ∈ tables_1, d.before a0 Z = true) (ws : List Jvm.Cond) (a_LEFT_LANE_CHANGE a_RIGHT a_BRAKE a_DRIVE a_ACCELERATE a_LEFT a_RIGHT_LANE_CHANGE : Addr) (h0 : Heap) (n0 : Nat) (O0 : Old Z n0 h0) (En : OwnEnv Z a_LEFT_LANE_CHANGE a_RIGHT a_BRAKE a_DRIVE a_ACCELERATE a_LEFT a_RIGHT_LANE_CHANGE) :
    MetFree l (⟨"com/example/roadwright/roadwright/road/Manoeuvre", "canBeTakenIn", "(Lcom/example/roadwright/roadwright/road/Lane;)Z"⟩ : MethodName) (head1 (Jvm.Cond.code (⟨"com/example/roadwright/roadwright/road/Manoeuvre", "canBeTakenIn", "(Lcom/example/roadwright/roadwright/road/Lane;)Z"⟩ : MethodName) prog_67_method_10_code 2 (some .boolean) :: ws) ({ frames := 0, cells := 0, slots := 0, locals := 0 } : Room)) (fun a U => a = #[(.ref a_BRAKE), (.ref a_LEFT)] ∧ Z.Warmed39 U.vm ∧ U.heap = h0) (fun _ _ _ _ _ => True) (fun _ U o U' => ∃ v L, o = .returned v ∧ Q_rm_canBeTakenIn_14 a_LEFT_LANE_CHANGE a_RIGHT a_BRAKE a_DRIVE a_ACCELERATE a_LEFT a_RIGHT_LANE_CHANGE h0 n0 v U'.heap L ∧ FrameEnd U o U' L ({ frames := 0, cells := 0, slots := 0, locals := 0 } : Room).cells ({ frames := 0, cells := 0, slots := 0, locals := 0 } : Room).slots) := by
  refine MetFree.of_bodySF (plainFor_of_name pn_1) hisR ?_
  intro p e s m args below meth c s₁ Bd hml0 hP hK
  obtain ⟨rfl, hZ, hh⟩ := hP
  have hx := Bd.exec
  have hby := Bd.bytes
  have hml : c.maxLocals = 2 := hml0
  have hown : s.vm.findClass "com/example/roadwright/roadwright/road/Manoeuvre" = some m.cls := findClass_of_methodNamed Bd.named
  have hnm := (name_of_methodNamed Bd.named Bd.method).1
  have X0 : Stand p l e ({ frames := 0, cells := 0, slots := 0, locals := 0 } : Room) s m #[(.ref a_BRAKE), (.ref a_LEFT)] below meth c s₁ [] 0 0 := Stand.of_body Bd
  have e0 : s₁.heap = h0 := by rw [← hh, Bd.state]; rfl
  have N0 := Fr.nil n0
  have pre0 : ∀ t, Steps p.tables e below (s₁.setTop (mkF m 0 #[.val (.ref a_BRAKE), .val (.ref a_LEFT)] [])) t → Steps p.tables e below (s₁.setTop (entryFrame m #[(.ref a_BRAKE), (.ref a_LEFT)] 2)) t := fun t k => castTop (ef_2 m a_BRAKE a_LEFT) k
  obtain ⟨S_a_LEFT_LANE_CHANGE, X_a_LEFT_LANE_CHANGE, S_a_RIGHT, X_a_RIGHT, S_a_BRAKE, X_a_BRAKE, S_a_DRIVE, X_a_DRIVE, S_a_ACCELERATE, X_a_ACCELERATE, S_a_LEFT, X_a_LEFT, S_a_RIGHT_LANE_CHANGE, X_a_RIGHT_LANE_CHANGE, F_a_LEFT_LANE_CHANGE_changedFrom, F_a_BRAKE_changedFrom, F_a_DRIVE_changedFrom, F_a_ACCELERATE_changedFrom, F_a_RIGHT_LANE_CHANGE_changedFrom, F_a_LEFT_ordinal, F_a_RIGHT_ordinal⟩ := id En
  obtain ⟨T1, X1, e1, st1⟩ := getF X0 hx hZ hown (host := "") (Or.inl (hw _ (List.mem_of_getElem? (i := 16) rfl))) Via.refl e0 (Fld.ext O0.2 F_a_BRAKE_changedFrom) (g := (mkF m 1 #[.val (.ref a_BRAKE), .val (.ref a_LEFT)] [(.ref a_BRAKE)])) rfl rfl (hb hby dc1_1)
  obtain ⟨fs, hr, hrun, hended, hW, hsame⟩ := X1.leave (v := some (.int (1 : Int32))) (fun h => by rw [Bd.returns] at h; cases h)
  refine ⟨_, _, pre0 _ ?_, hrun, hended, _, _, rfl, ?_, ⟨_, rfl⟩, hW, hsame.mono (by decide) (by decide)⟩
  · skip
    show Steps p.tables e below (s₁.setTop (mkF m 0 #[.val (.ref a_BRAKE), .val (.ref a_LEFT)] [])) _
    refine XS.aloadN X0.here hx rfl (hb hby dc1_0) rfl rfl ?_
    show Steps p.tables e below (s₁.setTop (mkF m 1 #[.val (.ref a_BRAKE), .val (.ref a_LEFT)] [(.ref a_BRAKE)])) _
    refine st1 _ ?_
    show Steps p.tables e below (T1.setTop (mkF m 4 #[.val (.ref a_BRAKE), .val (.ref a_LEFT)] [.null])) _
    refine XS.ifnullYes X1.here hx rfl (pc0 := 4) (pc' := 15) rfl (hb hby dc1_4) rfl (by decide) (by decide) ?_
    show Steps p.tables e below (T1.setTop (mkF m 15 #[.val (.ref a_BRAKE), .val (.ref a_LEFT)] [])) _
    refine XS.iconst X1.here hx rfl (hb hby dc1_15) ?_
    show Steps p.tables e below (T1.setTop (mkF m 16 #[.val (.ref a_BRAKE), .val (.ref a_LEFT)] [(.int (1 : Int32))])) _
    refine XS.goto X1.here hx rfl (pc0 := 16) (pc' := 20) rfl (hb hby dc1_16) (by decide) (by decide) ?_
    show Steps p.tables e below (T1.setTop (mkF m 20 #[.val (.ref a_BRAKE), .val (.ref a_LEFT)] [(.int (1 : Int32))])) _
    exact retN X1 hx (t := .boolean) Bd.returns (by simp) (hb hby dc1_20) hr
  · show Q_rm_canBeTakenIn_14 a_LEFT_LANE_CHANGE a_RIGHT a_BRAKE a_DRIVE a_ACCELERATE a_LEFT a_RIGHT_LANE_CHANGE h0 n0 _ T1.heap _
    rw [e1]
    exact ⟨rfl, N0, rfl⟩
def Q_rm_canBeTakenIn_15 (a_LEFT_LANE_CHANGE a_RIGHT a_BRAKE a_DRIVE a_ACCELERATE a_LEFT a_RIGHT_LANE_CHANGE : Addr) (h0 : Heap) (n0 : Nat) (v : Option Value) (h : Heap) (L : List Loc) : Prop := v = some (.int (1 : Int32)) ∧ Fr n0 L ∧ h = h0
set_option maxRecDepth 65536 in
set_option maxHeartbeats 40000000 in
theorem rm_canBeTakenIn_15 (l : Launch) (Z : State) (a0 : Array Value) (hw : ∀ d ∈ tables_1, d.before a0 Z = true) (ws : List Jvm.Cond) (a_LEFT_LANE_CHANGE a_RIGHT a_BRAKE a_DRIVE a_ACCELERATE a_LEFT a_RIGHT_LANE_CHANGE : Addr) (h0 : Heap) (n0 : Nat) (O0 : Old Z n0 h0) (En : OwnEnv Z a_LEFT_LANE_CHANGE a_RIGHT a_BRAKE a_DRIVE a_ACCELERATE a_LEFT a_RIGHT_LANE_CHANGE) :
    MetFree l (⟨"com/example/roadwright/roadwright/road/Manoeuvre", "canBeTakenIn", "(Lcom/example/roadwright/roadwright/road/Lane;)Z"⟩ : MethodName) (head1 (Jvm.Cond.code (⟨"com/example/roadwright/roadwright/road/Manoeuvre", "canBeTakenIn", "(Lcom/example/roadwright/roadwright/road/Lane;)Z"⟩ : MethodName) prog_67_method_10_code 2 (some .boolean) :: ws) ({ frames := 0, cells := 0, slots := 0, locals := 0 } : Room)) (fun a U => a = #[(.ref a_BRAKE), (.ref a_RIGHT)] ∧ Z.Warmed39 U.vm ∧ U.heap = h0) (fun _ _ _ _ _ => True) (fun _ U o U' => ∃ v L, o = .returned v ∧ Q_rm_canBeTakenIn_15 a_LEFT_LANE_CHANGE a_RIGHT a_BRAKE a_DRIVE a_ACCELERATE a_LEFT a_RIGHT_LANE_CHANGE h0 n0 v U'.heap L ∧ FrameEnd U o U' L ({ frames := 0, cells := 0, slots := 0, locals := 0 } : Room).cells ({ frames := 0, cells := 0, slots := 0, locals := 0 } : Room).slots) := by
  refine MetFree.of_bodySF (plainFor_of_name pn_1) hisR ?_
  intro p e s m args below meth c s₁ Bd hml0 hP hK
  obtain ⟨rfl, hZ, hh⟩ := hP
  have hx := Bd.exec
  have hby := Bd.bytes
  have hml : c.maxLocals = 2 := hml0
  have hown : s.vm.findClass "com/example/roadwright/roadwright/road/Manoeuvre" = some m.cls := findClass_of_methodNamed Bd.named
  have hnm := (name_of_methodNamed Bd.named Bd.method).1
  have X0 : Stand p l e ({ frames := 0, cells := 0, slots := 0, locals := 0 } : Room) s m #[(.ref a_BRAKE), (.ref a_RIGHT)] below meth c s₁ [] 0 0 := Stand.of_body Bd
  have e0 : s₁.heap = h0 := by rw [← hh, Bd.state]; rfl
  have N0 := Fr.nil n0
  have pre0 : ∀ t, Steps p.tables e below (s₁.setTop (mkF m 0 #[.val (.ref a_BRAKE), .val (.ref a_RIGHT)] [])) t → Steps p.tables e below (s₁.setTop (entryFrame m #[(.ref a_BRAKE), (.ref a_RIGHT)] 2)) t := fun t k => castTop (ef_2 m a_BRAKE a_RIGHT) k
  obtain ⟨S_a_LEFT_LANE_CHANGE, X_a_LEFT_LANE_CHANGE, S_a_RIGHT, X_a_RIGHT, S_a_BRAKE, X_a_BRAKE, S_a_DRIVE, X_a_DRIVE, S_a_ACCELERATE, X_a_ACCELERATE, S_a_LEFT, X_a_LEFT, S_a_RIGHT_LANE_CHANGE, X_a_RIGHT_LANE_CHANGE, F_a_LEFT_LANE_CHANGE_changedFrom, F_a_BRAKE_changedFrom, F_a_DRIVE_changedFrom, F_a_ACCELERATE_changedFrom, F_a_RIGHT_LANE_CHANGE_changedFrom, F_a_LEFT_ordinal, F_a_RIGHT_ordinal⟩ := id En
  obtain ⟨T1, X1, e1, st1⟩ := getF X0 hx hZ hown (host := "") (Or.inl (hw _ (List.mem_of_getElem? (i := 16) rfl))) Via.refl e0 (Fld.ext O0.2 F_a_BRAKE_changedFrom) (g := (mkF m 1 #[.val (.ref a_BRAKE), .val (.ref a_RIGHT)] [(.ref a_BRAKE)])) rfl rfl (hb hby dc1_1)
  obtain ⟨fs, hr, hrun, hended, hW, hsame⟩ := X1.leave (v := some (.int (1 : Int32))) (fun h => by rw [Bd.returns] at h; cases h)
  refine ⟨_, _, pre0 _ ?_, hrun, hended, _, _, rfl, ?_, ⟨_, rfl⟩, hW, hsame.mono (by decide) (by decide)⟩
  · skip
    show Steps p.tables e below (s₁.setTop (mkF m 0 #[.val (.ref a_BRAKE), .val (.ref a_RIGHT)] [])) _
    refine XS.aloadN X0.here hx rfl (hb hby dc1_0) rfl rfl ?_
    show Steps p.tables e below (s₁.setTop (mkF m 1 #[.val (.ref a_BRAKE), .val (.ref a_RIGHT)] [(.ref a_BRAKE)])) _
    refine st1 _ ?_
    show Steps p.tables e below (T1.setTop (mkF m 4 #[.val (.ref a_BRAKE), .val (.ref a_RIGHT)] [.null])) _
    refine XS.ifnullYes X1.here hx rfl (pc0 := 4) (pc' := 15) rfl (hb hby dc1_4) rfl (by decide) (by decide) ?_
    show Steps p.tables e below (T1.setTop (mkF m 15 #[.val (.ref a_BRAKE), .val (.ref a_RIGHT)] [])) _
    refine XS.iconst X1.here hx rfl (hb hby dc1_15) ?_
    show Steps p.tables e below (T1.setTop (mkF m 16 #[.val (.ref a_BRAKE), .val (.ref a_RIGHT)] [(.int (1 : Int32))])) _
    refine XS.goto X1.here hx rfl (pc0 := 16) (pc' := 20) rfl (hb hby dc1_16) (by decide) (by decide) ?_
    show Steps p.tables e below (T1.setTop (mkF m 20 #[.val (.ref a_BRAKE), .val (.ref a_RIGHT)] [(.int (1 : Int32))])) _
    exact retN X1 hx (t := .boolean) Bd.returns (by simp) (hb hby dc1_20) hr
  · show Q_rm_canBeTakenIn_15 a_LEFT_LANE_CHANGE a_RIGHT a_BRAKE a_DRIVE a_ACCELERATE a_LEFT a_RIGHT_LANE_CHANGE h0 n0 _ T1.heap _
    rw [e1]
    exact ⟨rfl, N0, rfl⟩
set_option maxRecDepth 65536 in
set_option maxHeartbeats 40000000 in
theorem rm0 (l : Launch) (Z : State) (a0 : Array Value) (hw : ∀ d ∈ tables_1, d.before a0 Z = true) (ws : List Jvm.Cond) (i0 i1 : Int32) (a_LEFT_LANE_CHANGE a_RIGHT a_BRAKE a_DRIVE a_ACCELERATE a_LEFT a_RIGHT_LANE_CHANGE : Addr) (h0 : Heap) (n0 : Nat) (O0 : Old Z n0 h0) (En : OwnEnv Z a_LEFT_LANE_CHANGE a_RIGHT a_BRAKE a_DRIVE a_ACCELERATE a_LEFT a_RIGHT_LANE_CHANGE) :
    MetFree l x (head1 (Jvm.Cond.code x code maxLocals ret :: ws) room_1) (fun a U => a = #[(.int i0), (.int i1)] ∧ Z.Warmed39 U.vm ∧ U.heap = h0) (fun _ _ _ _ _ => True) (fun _ U o U' => ∃ v L, o = .returned v ∧ QL n0 v U'.heap L ∧ FrameEnd U o U' L room_1.cells room_1.slots) := by
  refine MetFree.of_bodySF (plainFor_of_name pn_0) hisR ?_
  intro p e s m args below meth c s₁ Bd hml0 hP hK
  obtain ⟨rfl, hZ, hh⟩ := hP
  have hx := Bd.exec
  have hby := Bd.bytes
  have hml : c.maxLocals = 7 := hml0
  have hown : s.vm.findClass "com/example/roadwright/roadwright/road/ManoeuvreCanBeTakenInPinLaw" = some m.cls := findClass_of_methodNamed Bd.named
  have hnm := (name_of_methodNamed Bd.named Bd.method).1
  have X0 : Stand p l e room_1 s m #[(.int i0), (.int i1)] below meth c s₁ [] 0 0 := Stand.of_body Bd
  have e0 : s₁.heap = h0 := by rw [← hh, Bd.state]; rfl
  have N0 := Fr.nil n0
  have pre0 : ∀ t, Steps p.tables e below (s₁.setTop (mkF m 0 #[.val (.int i0), .val (.int i1), .unset, .unset, .unset, .unset, .unset] [])) t → Steps p.tables e below (s₁.setTop (entryFrame m #[(.int i0), (.int i1)] maxLocals)) t := fun t k => castTop (ef_0 m i0 i1) k
  obtain ⟨S_a_LEFT_LANE_CHANGE, X_a_LEFT_LANE_CHANGE, S_a_RIGHT, X_a_RIGHT, S_a_BRAKE, X_a_BRAKE, S_a_DRIVE, X_a_DRIVE, S_a_ACCELERATE, X_a_ACCELERATE, S_a_LEFT, X_a_LEFT, S_a_RIGHT_LANE_CHANGE, X_a_RIGHT_LANE_CHANGE, F_a_LEFT_LANE_CHANGE_changedFrom, F_a_BRAKE_changedFrom, F_a_DRIVE_changedFrom, F_a_ACCELERATE_changedFrom, F_a_RIGHT_LANE_CHANGE_changedFrom, F_a_LEFT_ordinal, F_a_RIGHT_ordinal⟩ := id En
  have pre1 : ∀ t, Steps p.tables e below (s₁.setTop (mkF m 6 #[.val (.int i0), .val (.int i1), .unset, .unset, .unset, .unset, .unset] [(.int ((i0 &&& (2147483647 : Int32)) % (5 : Int32)))])) t → Steps p.tables e below (s₁.setTop (entryFrame m #[(.int i0), (.int i1)] maxLocals)) t := fun t kt => pre0 t (by
      show Steps p.tables e below (s₁.setTop (mkF m 0 #[.val (.int i0), .val (.int i1), .unset, .unset, .unset, .unset, .unset] [])) _
      refine XS.iloadN X0.here hx rfl (hb hby at_0) rfl ?_
      show Steps p.tables e below (s₁.setTop (mkF m 1 #[.val (.int i0), .val (.int i1), .unset, .unset, .unset, .unset, .unset] [(.int i0)])) _
      refine X0.ldcInt hx hown (mvT hZ (hw _ (List.mem_of_getElem? (i := 0) rfl))) (g := (mkF m 1 #[.val (.int i0), .val (.int i1), .unset, .unset, .unset, .unset, .unset] [(.int i0)])) rfl (hb hby at_1) _ ?_
      show Steps p.tables e below (s₁.setTop (mkF m 3 #[.val (.int i0), .val (.int i1), .unset, .unset, .unset, .unset, .unset] [(.int (2147483647 : Int32)), (.int i0)])) _
      refine XS.iand X0.here hx rfl (hb hby at_3) rfl ?_
      show Steps p.tables e below (s₁.setTop (mkF m 4 #[.val (.int i0), .val (.int i1), .unset, .unset, .unset, .unset, .unset] [(.int (i0 &&& (2147483647 : Int32)))])) _
      refine XS.iconst X0.here hx rfl (hb hby at_4) ?_
      show Steps p.tables e below (s₁.setTop (mkF m 5 #[.val (.int i0), .val (.int i1), .unset, .unset, .unset, .unset, .unset] [(.int (5 : Int32)), (.int (i0 &&& (2147483647 : Int32)))])) _
      refine iremM X0 hx rfl (hb hby at_5) rfl (by decide) ?_
      exact kt)
  rcases own_k i0 with hk2 | hk2 | hk2 | hk2 | hk2
  · skip
    have pre3 : ∀ t, Steps p.tables e below (s₁.setTop (mkF m 10 #[.val (.int i0), .val (.int i1), .val (.int (0 : Int32)), .unset, .unset, .unset, .unset] [(.int (i1 &&& (1 : Int32)))])) t → Steps p.tables e below (s₁.setTop (entryFrame m #[(.int i0), (.int i1)] maxLocals)) t := fun t kt => pre1 t (by
        show Steps p.tables e below (s₁.setTop (mkF m 6 #[.val (.int i0), .val (.int i1), .unset, .unset, .unset, .unset, .unset] [(.int ((i0 &&& (2147483647 : Int32)) % (5 : Int32)))])) _
        rw [hk2]
        show Steps p.tables e below (s₁.setTop (mkF m 6 #[.val (.int i0), .val (.int i1), .unset, .unset, .unset, .unset, .unset] [(.int (0 : Int32))])) _
        refine XS.istoreN X0.here hx rfl (hb hby at_6) rfl (l' := #[.val (.int i0), .val (.int i1), .val (.int (0 : Int32)), .unset, .unset, .unset, .unset]) rfl ?_
        show Steps p.tables e below (s₁.setTop (mkF m 7 #[.val (.int i0), .val (.int i1), .val (.int (0 : Int32)), .unset, .unset, .unset, .unset] [])) _
        refine XS.iloadN X0.here hx rfl (hb hby at_7) rfl ?_
        show Steps p.tables e below (s₁.setTop (mkF m 8 #[.val (.int i0), .val (.int i1), .val (.int (0 : Int32)), .unset, .unset, .unset, .unset] [(.int i1)])) _
        refine XS.iconst X0.here hx rfl (hb hby at_8) ?_
        show Steps p.tables e below (s₁.setTop (mkF m 9 #[.val (.int i0), .val (.int i1), .val (.int (0 : Int32)), .unset, .unset, .unset, .unset] [(.int (1 : Int32)), (.int i1)])) _
        refine XS.iand X0.here hx rfl (hb hby at_9) rfl ?_
        exact kt)
    rcases own_b i1 with hk4 | hk4
    · skip
      obtain ⟨_, _, ⟨T5, L5, k5, n5⟩, -, X5, ⟨Lc5, hQ5, l5, y5, z5⟩, st5⟩ := Jvm.LawKit.callS X0 hx (y := (⟨"com/example/roadwright/roadwright/road/ManoeuvreCanBeTakenInPinLaw", "pick", "(I)Lcom/example/roadwright/roadwright/road/Manoeuvre;"⟩ : MethodName)) hown (mvT hZ (hw _ (List.mem_of_getElem? (i := 1) rfl))) (mvT hZ (hw _ (List.mem_of_getElem? (i := 2) rfl))) (mvT hZ (hw _ (List.mem_of_getElem? (i := 3) rfl))) (mvT hZ (hw _ (List.mem_of_getElem? (i := 4) rfl))) (by decide) (backOf (W := 0) (rm_pick_1 l Z a0 hw [] a_LEFT_LANE_CHANGE a_RIGHT a_BRAKE a_DRIVE a_ACCELERATE a_LEFT a_RIGHT_LANE_CHANGE h0 n0 O0 En) hZ (hw _ (List.mem_of_getElem? (i := 4) rfl)) (hw _ (List.mem_of_getElem? (i := 3) rfl)) (by decide) (by decide)) (g := (mkF m 20 #[.val (.int i0), .val (.int i1), .val (.int (0 : Int32)), .val (.int (0 : Int32)), .unset, .unset, .unset] [(.int (0 : Int32))])) rfl (by rw [hml]; rfl) (argsL := [(.int (0 : Int32))]) (rest := []) (lenOf pd_0 rfl) rfl (by show 2 * 0 + _ ≤ _; exact Nat.le_of_eq rfl) (hb hby at_20) (fun _ _ => ⟨rfl, e0, (by decide : 0 + 0 ≤ _), (by decide : 0 + 0 ≤ _)⟩)
      dsimp only [Pt.U, Pt.locs, Pt.cells, Pt.slots] at X5 l5 y5 z5 st5 hQ5
      subst l5 y5 z5
      obtain ⟨rfl, N5q, hh5⟩ := hQ5
      have N5 := Fr.app N0 N5q
      obtain ⟨T6, X6, e6, st6⟩ := getS2 X5 hx hZ hown (host := "") (Or.inl (hw _ (List.mem_of_getElem? (i := 24) rfl))) Via.refl hh5 (Sta.ext O0.2 S_a_LEFT) (g := (mkF m 35 #[.val (.int i0), .val (.int i1), .val (.int (0 : Int32)), .val (.int (0 : Int32)), .val (.ref a_LEFT_LANE_CHANGE), .unset, .unset] [])) rfl (hb hby at_35)
      obtain ⟨cq7, kq7, q7a, q7b, q7c⟩ := isOf hZ e6 (Exa.ext O0.2 X_a_LEFT_LANE_CHANGE)
      obtain ⟨_, _, ⟨T7, L7, k7, n7⟩, -, X7, ⟨Lc7, hQ7, l7, y7, z7⟩, st7⟩ := X6.virtualBack hx (y := (⟨"com/example/roadwright/roadwright/road/Manoeuvre", "canBeTakenIn", "(Lcom/example/roadwright/roadwright/road/Lane;)Z"⟩ : MethodName)) (z := (⟨"com/example/roadwright/roadwright/road/Manoeuvre", "canBeTakenIn", "(Lcom/example/roadwright/roadwright/road/Lane;)Z"⟩ : MethodName)) hown (mvT hZ (hw _ (List.mem_of_getElem? (i := 11) rfl))) (mvT hZ (hw _ (List.mem_of_getElem? (i := 12) rfl))) (notFace_of_selects (args := #[]) (mvT hZ (hw _ (List.mem_of_getElem? (i := 14) rfl)))) (mvT hZ (hw _ (List.mem_of_getElem? (i := 14) rfl))) (mvT hZ (hw _ (List.mem_of_getElem? (i := 13) rfl))) (by decide) (backOf (W := 0) (rm_canBeTakenIn_2 l Z a0 hw [] a_LEFT_LANE_CHANGE a_RIGHT a_BRAKE a_DRIVE a_ACCELERATE a_LEFT a_RIGHT_LANE_CHANGE h0 n0 O0 En) hZ (hw _ (List.mem_of_getElem? (i := 15) rfl)) (hw _ (List.mem_of_getElem? (i := 6) rfl)) (by decide) (by decide)) q7a q7c (g := (mkF m 76 #[.val (.int i0), .val (.int i1), .val (.int (0 : Int32)), .val (.int (0 : Int32)), .val (.ref a_LEFT_LANE_CHANGE), .val (.ref a_LEFT), .val (.int (0 : Int32))] [(.ref a_LEFT), (.ref a_LEFT_LANE_CHANGE)])) rfl (by rw [hml]; rfl) (Steps.refl _) (argsL := [(.ref a_LEFT)]) (rest := []) (lenOf pd_1 rfl) rfl (by show 2 * 0 + _ ≤ _; exact Nat.le_of_eq rfl) (hb hby at_76) (fun _ _ => ⟨rfl, e6, (by decide : 0 + 0 ≤ _), (by decide : 0 + 0 ≤ _)⟩)
      dsimp only [Pt.U, Pt.locs, Pt.cells, Pt.slots] at X7 l7 y7 z7 st7 hQ7
      subst l7 y7 z7
      obtain ⟨rfl, N7q, hh7⟩ := hQ7
      have N7 := Fr.app N5 N7q
      obtain ⟨fs, hr, hrun, hended, hW, hsame⟩ := X7.leave (v := some (.int (1 : Int32))) (fun h => by rw [Bd.returns] at h; cases h)
      refine ⟨_, _, pre3 _ ?_, hrun, hended, _, _, rfl, ?_, ⟨_, rfl⟩, hW, hsame.mono (by decide) (by decide)⟩
      · skip
        show Steps p.tables e below (s₁.setTop (mkF m 10 #[.val (.int i0), .val (.int i1), .val (.int (0 : Int32)), .unset, .unset, .unset, .unset] [(.int (i1 &&& (1 : Int32)))])) _
        rw [hk4]
        show Steps p.tables e below (s₁.setTop (mkF m 10 #[.val (.int i0), .val (.int i1), .val (.int (0 : Int32)), .unset, .unset, .unset, .unset] [(.int (0 : Int32))])) _
        refine XS.ifYes X0.here hx rfl (pc0 := 10) (pc' := 17) rfl (hb hby at_10) rfl (by decide) (by decide) (by decide) ?_
        show Steps p.tables e below (s₁.setTop (mkF m 17 #[.val (.int i0), .val (.int i1), .val (.int (0 : Int32)), .unset, .unset, .unset, .unset] [])) _
        refine XS.iconst X0.here hx rfl (hb hby at_17) ?_
        show Steps p.tables e below (s₁.setTop (mkF m 18 #[.val (.int i0), .val (.int i1), .val (.int (0 : Int32)), .unset, .unset, .unset, .unset] [(.int (0 : Int32))])) _
        refine XS.istoreN X0.here hx rfl (hb hby at_18) rfl (l' := #[.val (.int i0), .val (.int i1), .val (.int (0 : Int32)), .val (.int (0 : Int32)), .unset, .unset, .unset]) rfl ?_
        show Steps p.tables e below (s₁.setTop (mkF m 19 #[.val (.int i0), .val (.int i1), .val (.int (0 : Int32)), .val (.int (0 : Int32)), .unset, .unset, .unset] [])) _
        refine XS.iloadN X0.here hx rfl (hb hby at_19) rfl ?_
        show Steps p.tables e below (s₁.setTop (mkF m 20 #[.val (.int i0), .val (.int i1), .val (.int (0 : Int32)), .val (.int (0 : Int32)), .unset, .unset, .unset] [(.int (0 : Int32))])) _
        refine st5 _ ?_
        show Steps p.tables e below (T5.setTop (mkF m 23 #[.val (.int i0), .val (.int i1), .val (.int (0 : Int32)), .val (.int (0 : Int32)), .unset, .unset, .unset] [(.ref a_LEFT_LANE_CHANGE)])) _
        refine XS.astore X5.here hx rfl (hb hby at_23) rfl rfl (l' := #[.val (.int i0), .val (.int i1), .val (.int (0 : Int32)), .val (.int (0 : Int32)), .val (.ref a_LEFT_LANE_CHANGE), .unset, .unset]) rfl ?_
        show Steps p.tables e below (T5.setTop (mkF m 25 #[.val (.int i0), .val (.int i1), .val (.int (0 : Int32)), .val (.int (0 : Int32)), .val (.ref a_LEFT_LANE_CHANGE), .unset, .unset] [])) _
        refine XS.iloadN X5.here hx rfl (hb hby at_25) rfl ?_
        show Steps p.tables e below (T5.setTop (mkF m 26 #[.val (.int i0), .val (.int i1), .val (.int (0 : Int32)), .val (.int (0 : Int32)), .val (.ref a_LEFT_LANE_CHANGE), .unset, .unset] [(.int (0 : Int32))])) _
        refine XS.ifYes X5.here hx rfl (pc0 := 26) (pc' := 35) rfl (hb hby at_26) rfl (by decide) (by decide) (by decide) ?_
        show Steps p.tables e below (T5.setTop (mkF m 35 #[.val (.int i0), .val (.int i1), .val (.int (0 : Int32)), .val (.int (0 : Int32)), .val (.ref a_LEFT_LANE_CHANGE), .unset, .unset] [])) _
        refine st6 _ ?_
        show Steps p.tables e below (T6.setTop (mkF m 38 #[.val (.int i0), .val (.int i1), .val (.int (0 : Int32)), .val (.int (0 : Int32)), .val (.ref a_LEFT_LANE_CHANGE), .unset, .unset] [(.ref a_LEFT)])) _
        refine XS.astore X6.here hx rfl (hb hby at_38) rfl rfl (l' := #[.val (.int i0), .val (.int i1), .val (.int (0 : Int32)), .val (.int (0 : Int32)), .val (.ref a_LEFT_LANE_CHANGE), .val (.ref a_LEFT), .unset]) rfl ?_
        show Steps p.tables e below (T6.setTop (mkF m 40 #[.val (.int i0), .val (.int i1), .val (.int (0 : Int32)), .val (.int (0 : Int32)), .val (.ref a_LEFT_LANE_CHANGE), .val (.ref a_LEFT), .unset] [])) _
        refine XS.iloadN X6.here hx rfl (hb hby at_40) rfl ?_
        show Steps p.tables e below (T6.setTop (mkF m 41 #[.val (.int i0), .val (.int i1), .val (.int (0 : Int32)), .val (.int (0 : Int32)), .val (.ref a_LEFT_LANE_CHANGE), .val (.ref a_LEFT), .unset] [(.int (0 : Int32))])) _
        refine XS.ifNo X6.here hx rfl (hb hby at_41) rfl (by decide) ?_
        show Steps p.tables e below (T6.setTop (mkF m 44 #[.val (.int i0), .val (.int i1), .val (.int (0 : Int32)), .val (.int (0 : Int32)), .val (.ref a_LEFT_LANE_CHANGE), .val (.ref a_LEFT), .unset] [])) _
        refine XS.iloadN X6.here hx rfl (hb hby at_44) rfl ?_
        show Steps p.tables e below (T6.setTop (mkF m 45 #[.val (.int i0), .val (.int i1), .val (.int (0 : Int32)), .val (.int (0 : Int32)), .val (.ref a_LEFT_LANE_CHANGE), .val (.ref a_LEFT), .unset] [(.int (0 : Int32))])) _
        refine XS.istore X6.here hx rfl (hb hby at_45) rfl (l' := #[.val (.int i0), .val (.int i1), .val (.int (0 : Int32)), .val (.int (0 : Int32)), .val (.ref a_LEFT_LANE_CHANGE), .val (.ref a_LEFT), .val (.int (0 : Int32))]) rfl ?_
        show Steps p.tables e below (T6.setTop (mkF m 47 #[.val (.int i0), .val (.int i1), .val (.int (0 : Int32)), .val (.int (0 : Int32)), .val (.ref a_LEFT_LANE_CHANGE), .val (.ref a_LEFT), .val (.int (0 : Int32))] [])) _
        refine XS.goto X6.here hx rfl (pc0 := 47) (pc' := 72) rfl (hb hby at_47) (by decide) (by decide) ?_
        show Steps p.tables e below (T6.setTop (mkF m 72 #[.val (.int i0), .val (.int i1), .val (.int (0 : Int32)), .val (.int (0 : Int32)), .val (.ref a_LEFT_LANE_CHANGE), .val (.ref a_LEFT), .val (.int (0 : Int32))] [])) _
        refine XS.aload X6.here hx rfl (hb hby at_72) rfl rfl ?_
        show Steps p.tables e below (T6.setTop (mkF m 74 #[.val (.int i0), .val (.int i1), .val (.int (0 : Int32)), .val (.int (0 : Int32)), .val (.ref a_LEFT_LANE_CHANGE), .val (.ref a_LEFT), .val (.int (0 : Int32))] [(.ref a_LEFT_LANE_CHANGE)])) _
        refine XS.aload X6.here hx rfl (hb hby at_74) rfl rfl ?_
        show Steps p.tables e below (T6.setTop (mkF m 76 #[.val (.int i0), .val (.int i1), .val (.int (0 : Int32)), .val (.int (0 : Int32)), .val (.ref a_LEFT_LANE_CHANGE), .val (.ref a_LEFT), .val (.int (0 : Int32))] [(.ref a_LEFT), (.ref a_LEFT_LANE_CHANGE)])) _
        refine st7.trans ?_
        show Steps p.tables e below (T7.setTop (mkF m 79 #[.val (.int i0), .val (.int i1), .val (.int (0 : Int32)), .val (.int (0 : Int32)), .val (.ref a_LEFT_LANE_CHANGE), .val (.ref a_LEFT), .val (.int (0 : Int32))] [(.int (0 : Int32))])) _
        refine XS.iload X7.here hx rfl (hb hby at_79) rfl ?_
        show Steps p.tables e below (T7.setTop (mkF m 81 #[.val (.int i0), .val (.int i1), .val (.int (0 : Int32)), .val (.int (0 : Int32)), .val (.ref a_LEFT_LANE_CHANGE), .val (.ref a_LEFT), .val (.int (0 : Int32))] [(.int (0 : Int32)), (.int (0 : Int32))])) _
        refine XS.icmpNo X7.here hx rfl (hb hby at_81) rfl (by decide) ?_
        show Steps p.tables e below (T7.setTop (mkF m 84 #[.val (.int i0), .val (.int i1), .val (.int (0 : Int32)), .val (.int (0 : Int32)), .val (.ref a_LEFT_LANE_CHANGE), .val (.ref a_LEFT), .val (.int (0 : Int32))] [])) _
        refine XS.iconst X7.here hx rfl (hb hby at_84) ?_
        show Steps p.tables e below (T7.setTop (mkF m 85 #[.val (.int i0), .val (.int i1), .val (.int (0 : Int32)), .val (.int (0 : Int32)), .val (.ref a_LEFT_LANE_CHANGE), .val (.ref a_LEFT), .val (.int (0 : Int32))] [(.int (1 : Int32))])) _
        refine XS.goto X7.here hx rfl (pc0 := 85) (pc' := 89) rfl (hb hby at_85) (by decide) (by decide) ?_
        show Steps p.tables e below (T7.setTop (mkF m 89 #[.val (.int i0), .val (.int i1), .val (.int (0 : Int32)), .val (.int (0 : Int32)), .val (.ref a_LEFT_LANE_CHANGE), .val (.ref a_LEFT), .val (.int (0 : Int32))] [(.int (1 : Int32))])) _
        exact retN X7 hx (t := .boolean) Bd.returns (by simp) (hb hby at_89) hr
      · show QL n0 _ T7.heap _
        rw [hh7]
        exact ⟨rfl, N7⟩
    · skip
      obtain ⟨_, _, ⟨T8, L8, k8, n8⟩, -, X8, ⟨Lc8, hQ8, l8, y8, z8⟩, st8⟩ := Jvm.LawKit.callS X0 hx (y := (⟨"com/example/roadwright/roadwright/road/ManoeuvreCanBeTakenInPinLaw", "pick", "(I)Lcom/example/roadwright/roadwright/road/Manoeuvre;"⟩ : MethodName)) hown (mvT hZ (hw _ (List.mem_of_getElem? (i := 1) rfl))) (mvT hZ (hw _ (List.mem_of_getElem? (i := 2) rfl))) (mvT hZ (hw _ (List.mem_of_getElem? (i := 3) rfl))) (mvT hZ (hw _ (List.mem_of_getElem? (i := 4) rfl))) (by decide) (backOf (W := 0) (rm_pick_1 l Z a0 hw [] a_LEFT_LANE_CHANGE a_RIGHT a_BRAKE a_DRIVE a_ACCELERATE a_LEFT a_RIGHT_LANE_CHANGE h0 n0 O0 En) hZ (hw _ (List.mem_of_getElem? (i := 4) rfl)) (hw _ (List.mem_of_getElem? (i := 3) rfl)) (by decide) (by decide)) (g := (mkF m 20 #[.val (.int i0), .val (.int i1), .val (.int (0 : Int32)), .val (.int (1 : Int32)), .unset, .unset, .unset] [(.int (0 : Int32))])) rfl (by rw [hml]; rfl) (argsL := [(.int (0 : Int32))]) (rest := []) (lenOf pd_0 rfl) rfl (by show 2 * 0 + _ ≤ _; exact Nat.le_of_eq rfl) (hb hby at_20) (fun _ _ => ⟨rfl, e0, (by decide : 0 + 0 ≤ _), (by decide : 0 + 0 ≤ _)⟩)
      dsimp only [Pt.U, Pt.locs, Pt.cells, Pt.slots] at X8 l8 y8 z8 st8 hQ8
      subst l8 y8 z8
      obtain ⟨rfl, N8q, hh8⟩ := hQ8
      have N8 := Fr.app N0 N8q
      obtain ⟨T9, X9, e9, st9⟩ := getS2 X8 hx hZ hown (host := "") (Or.inl (hw _ (List.mem_of_getElem? (i := 8) rfl))) Via.refl hh8 (Sta.ext O0.2 S_a_RIGHT) (g := (mkF m 29 #[.val (.int i0), .val (.int i1), .val (.int (0 : Int32)), .val (.int (1 : Int32)), .val (.ref a_LEFT_LANE_CHANGE), .unset, .unset] [])) rfl (hb hby at_29)
      obtain ⟨cq10, kq10, q10a, q10b, q10c⟩ := isOf hZ e9 (Exa.ext O0.2 X_a_LEFT_LANE_CHANGE)
      obtain ⟨_, _, ⟨T10, L10, k10, n10⟩, -, X10, ⟨Lc10, hQ10, l10, y10, z10⟩, st10⟩ := X9.virtualBack hx (y := (⟨"com/example/roadwright/roadwright/road/Manoeuvre", "canBeTakenIn", "(Lcom/example/roadwright/roadwright/road/Lane;)Z"⟩ : MethodName)) (z := (⟨"com/example/roadwright/roadwright/road/Manoeuvre", "canBeTakenIn", "(Lcom/example/roadwright/roadwright/road/Lane;)Z"⟩ : MethodName)) hown (mvT hZ (hw _ (List.mem_of_getElem? (i := 11) rfl))) (mvT hZ (hw _ (List.mem_of_getElem? (i := 12) rfl))) (notFace_of_selects (args := #[]) (mvT hZ (hw _ (List.mem_of_getElem? (i := 14) rfl)))) (mvT hZ (hw _ (List.mem_of_getElem? (i := 14) rfl))) (mvT hZ (hw _ (List.mem_of_getElem? (i := 13) rfl))) (by decide) (backOf (W := 0) (rm_canBeTakenIn_3 l Z a0 hw [] a_LEFT_LANE_CHANGE a_RIGHT a_BRAKE a_DRIVE a_ACCELERATE a_LEFT a_RIGHT_LANE_CHANGE h0 n0 O0 En) hZ (hw _ (List.mem_of_getElem? (i := 15) rfl)) (hw _ (List.mem_of_getElem? (i := 6) rfl)) (by decide) (by decide)) q10a q10c (g := (mkF m 76 #[.val (.int i0), .val (.int i1), .val (.int (0 : Int32)), .val (.int (1 : Int32)), .val (.ref a_LEFT_LANE_CHANGE), .val (.ref a_RIGHT), .val (.int (1 : Int32))] [(.ref a_RIGHT), (.ref a_LEFT_LANE_CHANGE)])) rfl (by rw [hml]; rfl) (Steps.refl _) (argsL := [(.ref a_RIGHT)]) (rest := []) (lenOf pd_1 rfl) rfl (by show 2 * 0 + _ ≤ _; exact Nat.le_of_eq rfl) (hb hby at_76) (fun _ _ => ⟨rfl, e9, (by decide : 0 + 0 ≤ _), (by decide : 0 + 0 ≤ _)⟩)
      dsimp only [Pt.U, Pt.locs, Pt.cells, Pt.slots] at X10 l10 y10 z10 st10 hQ10
      subst l10 y10 z10
      obtain ⟨rfl, N10q, hh10⟩ := hQ10
      have N10 := Fr.app N8 N10q
      obtain ⟨fs, hr, hrun, hended, hW, hsame⟩ := X10.leave (v := some (.int (1 : Int32))) (fun h => by rw [Bd.returns] at h; cases h)
      refine ⟨_, _, pre3 _ ?_, hrun, hended, _, _, rfl, ?_, ⟨_, rfl⟩, hW, hsame.mono (by decide) (by decide)⟩
      · skip
        show Steps p.tables e below (s₁.setTop (mkF m 10 #[.val (.int i0), .val (.int i1), .val (.int (0 : Int32)), .unset, .unset, .unset, .unset] [(.int (i1 &&& (1 : Int32)))])) _
        rw [hk4]
        show Steps p.tables e below (s₁.setTop (mkF m 10 #[.val (.int i0), .val (.int i1), .val (.int (0 : Int32)), .unset, .unset, .unset, .unset] [(.int (1 : Int32))])) _
        refine XS.ifNo X0.here hx rfl (hb hby at_10) rfl (by decide) ?_
        show Steps p.tables e below (s₁.setTop (mkF m 13 #[.val (.int i0), .val (.int i1), .val (.int (0 : Int32)), .unset, .unset, .unset, .unset] [])) _
        refine XS.iconst X0.here hx rfl (hb hby at_13) ?_
        show Steps p.tables e below (s₁.setTop (mkF m 14 #[.val (.int i0), .val (.int i1), .val (.int (0 : Int32)), .unset, .unset, .unset, .unset] [(.int (1 : Int32))])) _
        refine XS.goto X0.here hx rfl (pc0 := 14) (pc' := 18) rfl (hb hby at_14) (by decide) (by decide) ?_
        show Steps p.tables e below (s₁.setTop (mkF m 18 #[.val (.int i0), .val (.int i1), .val (.int (0 : Int32)), .unset, .unset, .unset, .unset] [(.int (1 : Int32))])) _
        refine XS.istoreN X0.here hx rfl (hb hby at_18) rfl (l' := #[.val (.int i0), .val (.int i1), .val (.int (0 : Int32)), .val (.int (1 : Int32)), .unset, .unset, .unset]) rfl ?_
        show Steps p.tables e below (s₁.setTop (mkF m 19 #[.val (.int i0), .val (.int i1), .val (.int (0 : Int32)), .val (.int (1 : Int32)), .unset, .unset, .unset] [])) _
        refine XS.iloadN X0.here hx rfl (hb hby at_19) rfl ?_
        show Steps p.tables e below (s₁.setTop (mkF m 20 #[.val (.int i0), .val (.int i1), .val (.int (0 : Int32)), .val (.int (1 : Int32)), .unset, .unset, .unset] [(.int (0 : Int32))])) _
        refine st8 _ ?_
        show Steps p.tables e below (T8.setTop (mkF m 23 #[.val (.int i0), .val (.int i1), .val (.int (0 : Int32)), .val (.int (1 : Int32)), .unset, .unset, .unset] [(.ref a_LEFT_LANE_CHANGE)])) _
        refine XS.astore X8.here hx rfl (hb hby at_23) rfl rfl (l' := #[.val (.int i0), .val (.int i1), .val (.int (0 : Int32)), .val (.int (1 : Int32)), .val (.ref a_LEFT_LANE_CHANGE), .unset, .unset]) rfl ?_
        show Steps p.tables e below (T8.setTop (mkF m 25 #[.val (.int i0), .val (.int i1), .val (.int (0 : Int32)), .val (.int (1 : Int32)), .val (.ref a_LEFT_LANE_CHANGE), .unset, .unset] [])) _
        refine XS.iloadN X8.here hx rfl (hb hby at_25) rfl ?_
        show Steps p.tables e below (T8.setTop (mkF m 26 #[.val (.int i0), .val (.int i1), .val (.int (0 : Int32)), .val (.int (1 : Int32)), .val (.ref a_LEFT_LANE_CHANGE), .unset, .unset] [(.int (1 : Int32))])) _
        refine XS.ifNo X8.here hx rfl (hb hby at_26) rfl (by decide) ?_
        show Steps p.tables e below (T8.setTop (mkF m 29 #[.val (.int i0), .val (.int i1), .val (.int (0 : Int32)), .val (.int (1 : Int32)), .val (.ref a_LEFT_LANE_CHANGE), .unset, .unset] [])) _
        refine st9 _ ?_
        show Steps p.tables e below (T9.setTop (mkF m 32 #[.val (.int i0), .val (.int i1), .val (.int (0 : Int32)), .val (.int (1 : Int32)), .val (.ref a_LEFT_LANE_CHANGE), .unset, .unset] [(.ref a_RIGHT)])) _
        refine XS.goto X9.here hx rfl (pc0 := 32) (pc' := 38) rfl (hb hby at_32) (by decide) (by decide) ?_
        show Steps p.tables e below (T9.setTop (mkF m 38 #[.val (.int i0), .val (.int i1), .val (.int (0 : Int32)), .val (.int (1 : Int32)), .val (.ref a_LEFT_LANE_CHANGE), .unset, .unset] [(.ref a_RIGHT)])) _
        refine XS.astore X9.here hx rfl (hb hby at_38) rfl rfl (l' := #[.val (.int i0), .val (.int i1), .val (.int (0 : Int32)), .val (.int (1 : Int32)), .val (.ref a_LEFT_LANE_CHANGE), .val (.ref a_RIGHT), .unset]) rfl ?_
        show Steps p.tables e below (T9.setTop (mkF m 40 #[.val (.int i0), .val (.int i1), .val (.int (0 : Int32)), .val (.int (1 : Int32)), .val (.ref a_LEFT_LANE_CHANGE), .val (.ref a_RIGHT), .unset] [])) _
        refine XS.iloadN X9.here hx rfl (hb hby at_40) rfl ?_
        show Steps p.tables e below (T9.setTop (mkF m 41 #[.val (.int i0), .val (.int i1), .val (.int (0 : Int32)), .val (.int (1 : Int32)), .val (.ref a_LEFT_LANE_CHANGE), .val (.ref a_RIGHT), .unset] [(.int (0 : Int32))])) _
        refine XS.ifNo X9.here hx rfl (hb hby at_41) rfl (by decide) ?_
        show Steps p.tables e below (T9.setTop (mkF m 44 #[.val (.int i0), .val (.int i1), .val (.int (0 : Int32)), .val (.int (1 : Int32)), .val (.ref a_LEFT_LANE_CHANGE), .val (.ref a_RIGHT), .unset] [])) _
        refine XS.iloadN X9.here hx rfl (hb hby at_44) rfl ?_
        show Steps p.tables e below (T9.setTop (mkF m 45 #[.val (.int i0), .val (.int i1), .val (.int (0 : Int32)), .val (.int (1 : Int32)), .val (.ref a_LEFT_LANE_CHANGE), .val (.ref a_RIGHT), .unset] [(.int (1 : Int32))])) _
        refine XS.istore X9.here hx rfl (hb hby at_45) rfl (l' := #[.val (.int i0), .val (.int i1), .val (.int (0 : Int32)), .val (.int (1 : Int32)), .val (.ref a_LEFT_LANE_CHANGE), .val (.ref a_RIGHT), .val (.int (1 : Int32))]) rfl ?_
        show Steps p.tables e below (T9.setTop (mkF m 47 #[.val (.int i0), .val (.int i1), .val (.int (0 : Int32)), .val (.int (1 : Int32)), .val (.ref a_LEFT_LANE_CHANGE), .val (.ref a_RIGHT), .val (.int (1 : Int32))] [])) _
        refine XS.goto X9.here hx rfl (pc0 := 47) (pc' := 72) rfl (hb hby at_47) (by decide) (by decide) ?_
        show Steps p.tables e below (T9.setTop (mkF m 72 #[.val (.int i0), .val (.int i1), .val (.int (0 : Int32)), .val (.int (1 : Int32)), .val (.ref a_LEFT_LANE_CHANGE), .val (.ref a_RIGHT), .val (.int (1 : Int32))] [])) _
        refine XS.aload X9.here hx rfl (hb hby at_72) rfl rfl ?_
        show Steps p.tables e below (T9.setTop (mkF m 74 #[.val (.int i0), .val (.int i1), .val (.int (0 : Int32)), .val (.int (1 : Int32)), .val (.ref a_LEFT_LANE_CHANGE), .val (.ref a_RIGHT), .val (.int (1 : Int32))] [(.ref a_LEFT_LANE_CHANGE)])) _
        refine XS.aload X9.here hx rfl (hb hby at_74) rfl rfl ?_
        show Steps p.tables e below (T9.setTop (mkF m 76 #[.val (.int i0), .val (.int i1), .val (.int (0 : Int32)), .val (.int (1 : Int32)), .val (.ref a_LEFT_LANE_CHANGE), .val (.ref a_RIGHT), .val (.int (1 : Int32))] [(.ref a_RIGHT), (.ref a_LEFT_LANE_CHANGE)])) _
        refine st10.trans ?_
        show Steps p.tables e below (T10.setTop (mkF m 79 #[.val (.int i0), .val (.int i1), .val (.int (0 : Int32)), .val (.int (1 : Int32)), .val (.ref a_LEFT_LANE_CHANGE), .val (.ref a_RIGHT), .val (.int (1 : Int32))] [(.int (1 : Int32))])) _
        refine XS.iload X10.here hx rfl (hb hby at_79) rfl ?_
        show Steps p.tables e below (T10.setTop (mkF m 81 #[.val (.int i0), .val (.int i1), .val (.int (0 : Int32)), .val (.int (1 : Int32)), .val (.ref a_LEFT_LANE_CHANGE), .val (.ref a_RIGHT), .val (.int (1 : Int32))] [(.int (1 : Int32)), (.int (1 : Int32))])) _
        refine XS.icmpNo X10.here hx rfl (hb hby at_81) rfl (by decide) ?_
        show Steps p.tables e below (T10.setTop (mkF m 84 #[.val (.int i0), .val (.int i1), .val (.int (0 : Int32)), .val (.int (1 : Int32)), .val (.ref a_LEFT_LANE_CHANGE), .val (.ref a_RIGHT), .val (.int (1 : Int32))] [])) _
        refine XS.iconst X10.here hx rfl (hb hby at_84) ?_
        show Steps p.tables e below (T10.setTop (mkF m 85 #[.val (.int i0), .val (.int i1), .val (.int (0 : Int32)), .val (.int (1 : Int32)), .val (.ref a_LEFT_LANE_CHANGE), .val (.ref a_RIGHT), .val (.int (1 : Int32))] [(.int (1 : Int32))])) _
        refine XS.goto X10.here hx rfl (pc0 := 85) (pc' := 89) rfl (hb hby at_85) (by decide) (by decide) ?_
        show Steps p.tables e below (T10.setTop (mkF m 89 #[.val (.int i0), .val (.int i1), .val (.int (0 : Int32)), .val (.int (1 : Int32)), .val (.ref a_LEFT_LANE_CHANGE), .val (.ref a_RIGHT), .val (.int (1 : Int32))] [(.int (1 : Int32))])) _
        exact retN X10 hx (t := .boolean) Bd.returns (by simp) (hb hby at_89) hr
      · show QL n0 _ T10.heap _
        rw [hh10]
        exact ⟨rfl, N10⟩
  · skip
    have pre11 : ∀ t, Steps p.tables e below (s₁.setTop (mkF m 10 #[.val (.int i0), .val (.int i1), .val (.int (1 : Int32)), .unset, .unset, .unset, .unset] [(.int (i1 &&& (1 : Int32)))])) t → Steps p.tables e below (s₁.setTop (entryFrame m #[(.int i0), (.int i1)] maxLocals)) t := fun t kt => pre1 t (by
        show Steps p.tables e below (s₁.setTop (mkF m 6 #[.val (.int i0), .val (.int i1), .unset, .unset, .unset, .unset, .unset] [(.int ((i0 &&& (2147483647 : Int32)) % (5 : Int32)))])) _
        rw [hk2]
        show Steps p.tables e below (s₁.setTop (mkF m 6 #[.val (.int i0), .val (.int i1), .unset, .unset, .unset, .unset, .unset] [(.int (1 : Int32))])) _
        refine XS.istoreN X0.here hx rfl (hb hby at_6) rfl (l' := #[.val (.int i0), .val (.int i1), .val (.int (1 : Int32)), .unset, .unset, .unset, .unset]) rfl ?_
        show Steps p.tables e below (s₁.setTop (mkF m 7 #[.val (.int i0), .val (.int i1), .val (.int (1 : Int32)), .unset, .unset, .unset, .unset] [])) _
        refine XS.iloadN X0.here hx rfl (hb hby at_7) rfl ?_
        show Steps p.tables e below (s₁.setTop (mkF m 8 #[.val (.int i0), .val (.int i1), .val (.int (1 : Int32)), .unset, .unset, .unset, .unset] [(.int i1)])) _
        refine XS.iconst X0.here hx rfl (hb hby at_8) ?_
        show Steps p.tables e below (s₁.setTop (mkF m 9 #[.val (.int i0), .val (.int i1), .val (.int (1 : Int32)), .unset, .unset, .unset, .unset] [(.int (1 : Int32)), (.int i1)])) _
        refine XS.iand X0.here hx rfl (hb hby at_9) rfl ?_
        exact kt)
    rcases own_b i1 with hk12 | hk12
    · skip
      obtain ⟨_, _, ⟨T13, L13, k13, n13⟩, -, X13, ⟨Lc13, hQ13, l13, y13, z13⟩, st13⟩ := Jvm.LawKit.callS X0 hx (y := (⟨"com/example/roadwright/roadwright/road/ManoeuvreCanBeTakenInPinLaw", "pick", "(I)Lcom/example/roadwright/roadwright/road/Manoeuvre;"⟩ : MethodName)) hown (mvT hZ (hw _ (List.mem_of_getElem? (i := 1) rfl))) (mvT hZ (hw _ (List.mem_of_getElem? (i := 2) rfl))) (mvT hZ (hw _ (List.mem_of_getElem? (i := 3) rfl))) (mvT hZ (hw _ (List.mem_of_getElem? (i := 4) rfl))) (by decide) (backOf (W := 0) (rm_pick_4 l Z a0 hw [] a_LEFT_LANE_CHANGE a_RIGHT a_BRAKE a_DRIVE a_ACCELERATE a_LEFT a_RIGHT_LANE_CHANGE h0 n0 O0 En) hZ (hw _ (List.mem_of_getElem? (i := 4) rfl)) (hw _ (List.mem_of_getElem? (i := 3) rfl)) (by decide) (by decide)) (g := (mkF m 20 #[.val (.int i0), .val (.int i1), .val (.int (1 : Int32)), .val (.int (0 : Int32)), .unset, .unset, .unset] [(.int (1 : Int32))])) rfl (by rw [hml]; rfl) (argsL := [(.int (1 : Int32))]) (rest := []) (lenOf pd_0 rfl) rfl (by show 2 * 0 + _ ≤ _; exact Nat.le_of_eq rfl) (hb hby at_20) (fun _ _ => ⟨rfl, e0, (by decide : 0 + 0 ≤ _), (by decide : 0 + 0 ≤ _)⟩)
      dsimp only [Pt.U, Pt.locs, Pt.cells, Pt.slots] at X13 l13 y13 z13 st13 hQ13
      subst l13 y13 z13
      obtain ⟨rfl, N13q, hh13⟩ := hQ13
      have N13 := Fr.app N0 N13q
      obtain ⟨T14, X14, e14, st14⟩ := getS2 X13 hx hZ hown (host := "") (Or.inl (hw _ (List.mem_of_getElem? (i := 24) rfl))) Via.refl hh13 (Sta.ext O0.2 S_a_LEFT) (g := (mkF m 35 #[.val (.int i0), .val (.int i1), .val (.int (1 : Int32)), .val (.int (0 : Int32)), .val (.ref a_ACCELERATE), .unset, .unset] [])) rfl (hb hby at_35)
      obtain ⟨cq15, kq15, q15a, q15b, q15c⟩ := isOf hZ e14 (Exa.ext O0.2 X_a_ACCELERATE)
      obtain ⟨_, _, ⟨T15, L15, k15, n15⟩, -, X15, ⟨Lc15, hQ15, l15, y15, z15⟩, st15⟩ := X14.virtualBack hx (y := (⟨"com/example/roadwright/roadwright/road/Manoeuvre", "canBeTakenIn", "(Lcom/example/roadwright/roadwright/road/Lane;)Z"⟩ : MethodName)) (z := (⟨"com/example/roadwright/roadwright/road/Manoeuvre", "canBeTakenIn", "(Lcom/example/roadwright/roadwright/road/Lane;)Z"⟩ : MethodName)) hown (mvT hZ (hw _ (List.mem_of_getElem? (i := 11) rfl))) (mvT hZ (hw _ (List.mem_of_getElem? (i := 12) rfl))) (notFace_of_selects (args := #[]) (mvT hZ (hw _ (List.mem_of_getElem? (i := 14) rfl)))) (mvT hZ (hw _ (List.mem_of_getElem? (i := 14) rfl))) (mvT hZ (hw _ (List.mem_of_getElem? (i := 13) rfl))) (by decide) (backOf (W := 0) (rm_canBeTakenIn_5 l Z a0 hw [] a_LEFT_LANE_CHANGE a_RIGHT a_BRAKE a_DRIVE a_ACCELERATE a_LEFT a_RIGHT_LANE_CHANGE h0 n0 O0 En) hZ (hw _ (List.mem_of_getElem? (i := 15) rfl)) (hw _ (List.mem_of_getElem? (i := 6) rfl)) (by decide) (by decide)) q15a q15c (g := (mkF m 76 #[.val (.int i0), .val (.int i1), .val (.int (1 : Int32)), .val (.int (0 : Int32)), .val (.ref a_ACCELERATE), .val (.ref a_LEFT), .val (.int (1 : Int32))] [(.ref a_LEFT), (.ref a_ACCELERATE)])) rfl (by rw [hml]; rfl) (Steps.refl _) (argsL := [(.ref a_LEFT)]) (rest := []) (lenOf pd_1 rfl) rfl (by show 2 * 0 + _ ≤ _; exact Nat.le_of_eq rfl) (hb hby at_76) (fun _ _ => ⟨rfl, e14, (by decide : 0 + 0 ≤ _), (by decide : 0 + 0 ≤ _)⟩)
      dsimp only [Pt.U, Pt.locs, Pt.cells, Pt.slots] at X15 l15 y15 z15 st15 hQ15
      subst l15 y15 z15
      obtain ⟨rfl, N15q, hh15⟩ := hQ15
      have N15 := Fr.app N13 N15q
      obtain ⟨fs, hr, hrun, hended, hW, hsame⟩ := X15.leave (v := some (.int (1 : Int32))) (fun h => by rw [Bd.returns] at h; cases h)
      refine ⟨_, _, pre11 _ ?_, hrun, hended, _, _, rfl, ?_, ⟨_, rfl⟩, hW, hsame.mono (by decide) (by decide)⟩
      · skip
        show Steps p.tables e below (s₁.setTop (mkF m 10 #[.val (.int i0), .val (.int i1), .val (.int (1 : Int32)), .unset, .unset, .unset, .unset] [(.int (i1 &&& (1 : Int32)))])) _
        rw [hk12]
        show Steps p.tables e below (s₁.setTop (mkF m 10 #[.val (.int i0), .val (.int i1), .val (.int (1 : Int32)), .unset, .unset, .unset, .unset] [(.int (0 : Int32))])) _
        refine XS.ifYes X0.here hx rfl (pc0 := 10) (pc' := 17) rfl (hb hby at_10) rfl (by decide) (by decide) (by decide) ?_
        show Steps p.tables e below (s₁.setTop (mkF m 17 #[.val (.int i0), .val (.int i1), .val (.int (1 : Int32)), .unset, .unset, .unset, .unset] [])) _
        refine XS.iconst X0.here hx rfl (hb hby at_17) ?_
        show Steps p.tables e below (s₁.setTop (mkF m 18 #[.val (.int i0), .val (.int i1), .val (.int (1 : Int32)), .unset, .unset, .unset, .unset] [(.int (0 : Int32))])) _
        refine XS.istoreN X0.here hx rfl (hb hby at_18) rfl (l' := #[.val (.int i0), .val (.int i1), .val (.int (1 : Int32)), .val (.int (0 : Int32)), .unset, .unset, .unset]) rfl ?_
        show Steps p.tables e below (s₁.setTop (mkF m 19 #[.val (.int i0), .val (.int i1), .val (.int (1 : Int32)), .val (.int (0 : Int32)), .unset, .unset, .unset] [])) _
        refine XS.iloadN X0.here hx rfl (hb hby at_19) rfl ?_
        show Steps p.tables e below (s₁.setTop (mkF m 20 #[.val (.int i0), .val (.int i1), .val (.int (1 : Int32)), .val (.int (0 : Int32)), .unset, .unset, .unset] [(.int (1 : Int32))])) _
        refine st13 _ ?_
        show Steps p.tables e below (T13.setTop (mkF m 23 #[.val (.int i0), .val (.int i1), .val (.int (1 : Int32)), .val (.int (0 : Int32)), .unset, .unset, .unset] [(.ref a_ACCELERATE)])) _
        refine XS.astore X13.here hx rfl (hb hby at_23) rfl rfl (l' := #[.val (.int i0), .val (.int i1), .val (.int (1 : Int32)), .val (.int (0 : Int32)), .val (.ref a_ACCELERATE), .unset, .unset]) rfl ?_
        show Steps p.tables e below (T13.setTop (mkF m 25 #[.val (.int i0), .val (.int i1), .val (.int (1 : Int32)), .val (.int (0 : Int32)), .val (.ref a_ACCELERATE), .unset, .unset] [])) _
        refine XS.iloadN X13.here hx rfl (hb hby at_25) rfl ?_
        show Steps p.tables e below (T13.setTop (mkF m 26 #[.val (.int i0), .val (.int i1), .val (.int (1 : Int32)), .val (.int (0 : Int32)), .val (.ref a_ACCELERATE), .unset, .unset] [(.int (0 : Int32))])) _
        refine XS.ifYes X13.here hx rfl (pc0 := 26) (pc' := 35) rfl (hb hby at_26) rfl (by decide) (by decide) (by decide) ?_
        show Steps p.tables e below (T13.setTop (mkF m 35 #[.val (.int i0), .val (.int i1), .val (.int (1 : Int32)), .val (.int (0 : Int32)), .val (.ref a_ACCELERATE), .unset, .unset] [])) _
        refine st14 _ ?_
        show Steps p.tables e below (T14.setTop (mkF m 38 #[.val (.int i0), .val (.int i1), .val (.int (1 : Int32)), .val (.int (0 : Int32)), .val (.ref a_ACCELERATE), .unset, .unset] [(.ref a_LEFT)])) _
        refine XS.astore X14.here hx rfl (hb hby at_38) rfl rfl (l' := #[.val (.int i0), .val (.int i1), .val (.int (1 : Int32)), .val (.int (0 : Int32)), .val (.ref a_ACCELERATE), .val (.ref a_LEFT), .unset]) rfl ?_
        show Steps p.tables e below (T14.setTop (mkF m 40 #[.val (.int i0), .val (.int i1), .val (.int (1 : Int32)), .val (.int (0 : Int32)), .val (.ref a_ACCELERATE), .val (.ref a_LEFT), .unset] [])) _
        refine XS.iloadN X14.here hx rfl (hb hby at_40) rfl ?_
        show Steps p.tables e below (T14.setTop (mkF m 41 #[.val (.int i0), .val (.int i1), .val (.int (1 : Int32)), .val (.int (0 : Int32)), .val (.ref a_ACCELERATE), .val (.ref a_LEFT), .unset] [(.int (1 : Int32))])) _
        refine XS.ifYes X14.here hx rfl (pc0 := 41) (pc' := 50) rfl (hb hby at_41) rfl (by decide) (by decide) (by decide) ?_
        show Steps p.tables e below (T14.setTop (mkF m 50 #[.val (.int i0), .val (.int i1), .val (.int (1 : Int32)), .val (.int (0 : Int32)), .val (.ref a_ACCELERATE), .val (.ref a_LEFT), .unset] [])) _
        refine XS.iloadN X14.here hx rfl (hb hby at_50) rfl ?_
        show Steps p.tables e below (T14.setTop (mkF m 51 #[.val (.int i0), .val (.int i1), .val (.int (1 : Int32)), .val (.int (0 : Int32)), .val (.ref a_ACCELERATE), .val (.ref a_LEFT), .unset] [(.int (1 : Int32))])) _
        refine XS.iconst X14.here hx rfl (hb hby at_51) ?_
        show Steps p.tables e below (T14.setTop (mkF m 52 #[.val (.int i0), .val (.int i1), .val (.int (1 : Int32)), .val (.int (0 : Int32)), .val (.ref a_ACCELERATE), .val (.ref a_LEFT), .unset] [(.int (2 : Int32)), (.int (1 : Int32))])) _
        refine XS.icmpYes X14.here hx rfl (pc0 := 52) (pc' := 69) rfl (hb hby at_52) rfl (by decide) (by decide) (by decide) ?_
        show Steps p.tables e below (T14.setTop (mkF m 69 #[.val (.int i0), .val (.int i1), .val (.int (1 : Int32)), .val (.int (0 : Int32)), .val (.ref a_ACCELERATE), .val (.ref a_LEFT), .unset] [])) _
        refine XS.iconst X14.here hx rfl (hb hby at_69) ?_
        show Steps p.tables e below (T14.setTop (mkF m 70 #[.val (.int i0), .val (.int i1), .val (.int (1 : Int32)), .val (.int (0 : Int32)), .val (.ref a_ACCELERATE), .val (.ref a_LEFT), .unset] [(.int (1 : Int32))])) _
        refine XS.istore X14.here hx rfl (hb hby at_70) rfl (l' := #[.val (.int i0), .val (.int i1), .val (.int (1 : Int32)), .val (.int (0 : Int32)), .val (.ref a_ACCELERATE), .val (.ref a_LEFT), .val (.int (1 : Int32))]) rfl ?_
        show Steps p.tables e below (T14.setTop (mkF m 72 #[.val (.int i0), .val (.int i1), .val (.int (1 : Int32)), .val (.int (0 : Int32)), .val (.ref a_ACCELERATE), .val (.ref a_LEFT), .val (.int (1 : Int32))] [])) _
        refine XS.aload X14.here hx rfl (hb hby at_72) rfl rfl ?_
        show Steps p.tables e below (T14.setTop (mkF m 74 #[.val (.int i0), .val (.int i1), .val (.int (1 : Int32)), .val (.int (0 : Int32)), .val (.ref a_ACCELERATE), .val (.ref a_LEFT), .val (.int (1 : Int32))] [(.ref a_ACCELERATE)])) _
        refine XS.aload X14.here hx rfl (hb hby at_74) rfl rfl ?_
        show Steps p.tables e below (T14.setTop (mkF m 76 #[.val (.int i0), .val (.int i1), .val (.int (1 : Int32)), .val (.int (0 : Int32)), .val (.ref a_ACCELERATE), .val (.ref a_LEFT), .val (.int (1 : Int32))] [(.ref a_LEFT), (.ref a_ACCELERATE)])) _
        refine st15.trans ?_
        show Steps p.tables e below (T15.setTop (mkF m 79 #[.val (.int i0), .val (.int i1), .val (.int (1 : Int32)), .val (.int (0 : Int32)), .val (.ref a_ACCELERATE), .val (.ref a_LEFT), .val (.int (1 : Int32))] [(.int (1 : Int32))])) _
        refine XS.iload X15.here hx rfl (hb hby at_79) rfl ?_
        show Steps p.tables e below (T15.setTop (mkF m 81 #[.val (.int i0), .val (.int i1), .val (.int (1 : Int32)), .val (.int (0 : Int32)), .val (.ref a_ACCELERATE), .val (.ref a_LEFT), .val (.int (1 : Int32))] [(.int (1 : Int32)), (.int (1 : Int32))])) _
        refine XS.icmpNo X15.here hx rfl (hb hby at_81) rfl (by decide) ?_
        show Steps p.tables e below (T15.setTop (mkF m 84 #[.val (.int i0), .val (.int i1), .val (.int (1 : Int32)), .val (.int (0 : Int32)), .val (.ref a_ACCELERATE), .val (.ref a_LEFT), .val (.int (1 : Int32))] [])) _
        refine XS.iconst X15.here hx rfl (hb hby at_84) ?_
        show Steps p.tables e below (T15.setTop (mkF m 85 #[.val (.int i0), .val (.int i1), .val (.int (1 : Int32)), .val (.int (0 : Int32)), .val (.ref a_ACCELERATE), .val (.ref a_LEFT), .val (.int (1 : Int32))] [(.int (1 : Int32))])) _
        refine XS.goto X15.here hx rfl (pc0 := 85) (pc' := 89) rfl (hb hby at_85) (by decide) (by decide) ?_
        show Steps p.tables e below (T15.setTop (mkF m 89 #[.val (.int i0), .val (.int i1), .val (.int (1 : Int32)), .val (.int (0 : Int32)), .val (.ref a_ACCELERATE), .val (.ref a_LEFT), .val (.int (1 : Int32))] [(.int (1 : Int32))])) _
        exact retN X15 hx (t := .boolean) Bd.returns (by simp) (hb hby at_89) hr
      · show QL n0 _ T15.heap _
        rw [hh15]
        exact ⟨rfl, N15⟩
    · skip
      obtain ⟨_, _, ⟨T16, L16, k16, n16⟩, -, X16, ⟨Lc16, hQ16, l16, y16, z16⟩, st16⟩ := Jvm.LawKit.callS X0 hx (y := (⟨"com/example/roadwright/roadwright/road/ManoeuvreCanBeTakenInPinLaw", "pick", "(I)Lcom/example/roadwright/roadwright/road/Manoeuvre;"⟩ : MethodName)) hown (mvT hZ (hw _ (List.mem_of_getElem? (i := 1) rfl))) (mvT hZ (hw _ (List.mem_of_getElem? (i := 2) rfl))) (mvT hZ (hw _ (List.mem_of_getElem? (i := 3) rfl))) (mvT hZ (hw _ (List.mem_of_getElem? (i := 4) rfl))) (by decide) (backOf (W := 0) (rm_pick_4 l Z a0 hw [] a_LEFT_LANE_CHANGE a_RIGHT a_BRAKE a_DRIVE a_ACCELERATE a_LEFT a_RIGHT_LANE_CHANGE h0 n0 O0 En) hZ (hw _ (List.mem_of_getElem? (i := 4) rfl)) (hw _ (List.mem_of_getElem? (i := 3) rfl)) (by decide) (by decide)) (g := (mkF m 20 #[.val (.int i0), .val (.int i1), .val (.int (1 : Int32)), .val (.int (1 : Int32)), .unset, .unset, .unset] [(.int (1 : Int32))])) rfl (by rw [hml]; rfl) (argsL := [(.int (1 : Int32))]) (rest := []) (lenOf pd_0 rfl) rfl (by show 2 * 0 + _ ≤ _; exact Nat.le_of_eq rfl) (hb hby at_20) (fun _ _ => ⟨rfl, e0, (by decide : 0 + 0 ≤ _), (by decide : 0 + 0 ≤ _)⟩)
      dsimp only [Pt.U, Pt.locs, Pt.cells, Pt.slots] at X16 l16 y16 z16 st16 hQ16
      subst l16 y16 z16
      obtain ⟨rfl, N16q, hh16⟩ := hQ16
      have N16 := Fr.app N0 N16q
      obtain ⟨T17, X17, e17, st17⟩ := getS2 X16 hx hZ hown (host := "") (Or.inl (hw _ (List.mem_of_getElem? (i := 8) rfl))) Via.refl hh16 (Sta.ext O0.2 S_a_RIGHT) (g := (mkF m 29 #[.val (.int i0), .val (.int i1), .val (.int (1 : Int32)), .val (.int (1 : Int32)), .val (.ref a_ACCELERATE), .unset, .unset] [])) rfl (hb hby at_29)
      obtain ⟨cq18, kq18, q18a, q18b, q18c⟩ := isOf hZ e17 (Exa.ext O0.2 X_a_ACCELERATE)
      obtain ⟨_, _, ⟨T18, L18, k18, n18⟩, -, X18, ⟨Lc18, hQ18, l18, y18, z18⟩, st18⟩ := X17.virtualBack hx (y := (⟨"com/example/roadwright/roadwright/road/Manoeuvre", "canBeTakenIn", "(Lcom/example/roadwright/roadwright/road/Lane;)Z"⟩ : MethodName)) (z := (⟨"com/example/roadwright/roadwright/road/Manoeuvre", "canBeTakenIn", "(Lcom/example/roadwright/roadwright/road/Lane;)Z"⟩ : MethodName)) hown (mvT hZ (hw _ (List.mem_of_getElem? (i := 11) rfl))) (mvT hZ (hw _ (List.mem_of_getElem? (i := 12) rfl))) (notFace_of_selects (args := #[]) (mvT hZ (hw _ (List.mem_of_getElem? (i := 14) rfl)))) (mvT hZ (hw _ (List.mem_of_getElem? (i := 14) rfl))) (mvT hZ (hw _ (List.mem_of_getElem? (i := 13) rfl))) (by decide) (backOf (W := 0) (rm_canBeTakenIn_6 l Z a0 hw [] a_LEFT_LANE_CHANGE a_RIGHT a_BRAKE a_DRIVE a_ACCELERATE a_LEFT a_RIGHT_LANE_CHANGE h0 n0 O0 En) hZ (hw _ (List.mem_of_getElem? (i := 15) rfl)) (hw _ (List.mem_of_getElem? (i := 6) rfl)) (by decide) (by decide)) q18a q18c (g := (mkF m 76 #[.val (.int i0), .val (.int i1), .val (.int (1 : Int32)), .val (.int (1 : Int32)), .val (.ref a_ACCELERATE), .val (.ref a_RIGHT), .val (.int (1 : Int32))] [(.ref a_RIGHT), (.ref a_ACCELERATE)])) rfl (by rw [hml]; rfl) (Steps.refl _) (argsL := [(.ref a_RIGHT)]) (rest := []) (lenOf pd_1 rfl) rfl (by show 2 * 0 + _ ≤ _; exact Nat.le_of_eq rfl) (hb hby at_76) (fun _ _ => ⟨rfl, e17, (by decide : 0 + 0 ≤ _), (by decide : 0 + 0 ≤ _)⟩)
      dsimp only [Pt.U, Pt.locs, Pt.cells, Pt.slots] at X18 l18 y18 z18 st18 hQ18
      subst l18 y18 z18
      obtain ⟨rfl, N18q, hh18⟩ := hQ18
      have N18 := Fr.app N16 N18q
      obtain ⟨fs, hr, hrun, hended, hW, hsame⟩ := X18.leave (v := some (.int (1 : Int32))) (fun h => by rw [Bd.returns] at h; cases h)
      refine ⟨_, _, pre11 _ ?_, hrun, hended, _, _, rfl, ?_, ⟨_, rfl⟩, hW, hsame.mono (by decide) (by decide)⟩
      · skip
        show Steps p.tables e below (s₁.setTop (mkF m 10 #[.val (.int i0), .val (.int i1), .val (.int (1 : Int32)), .unset, .unset, .unset, .unset] [(.int (i1 &&& (1 : Int32)))])) _
        rw [hk12]
        show Steps p.tables e below (s₁.setTop (mkF m 10 #[.val (.int i0), .val (.int i1), .val (.int (1 : Int32)), .unset, .unset, .unset, .unset] [(.int (1 : Int32))])) _
        refine XS.ifNo X0.here hx rfl (hb hby at_10) rfl (by decide) ?_
        show Steps p.tables e below (s₁.setTop (mkF m 13 #[.val (.int i0), .val (.int i1), .val (.int (1 : Int32)), .unset, .unset, .unset, .unset] [])) _
        refine XS.iconst X0.here hx rfl (hb hby at_13) ?_
        show Steps p.tables e below (s₁.setTop (mkF m 14 #[.val (.int i0), .val (.int i1), .val (.int (1 : Int32)), .unset, .unset, .unset, .unset] [(.int (1 : Int32))])) _
        refine XS.goto X0.here hx rfl (pc0 := 14) (pc' := 18) rfl (hb hby at_14) (by decide) (by decide) ?_
        show Steps p.tables e below (s₁.setTop (mkF m 18 #[.val (.int i0), .val (.int i1), .val (.int (1 : Int32)), .unset, .unset, .unset, .unset] [(.int (1 : Int32))])) _
        refine XS.istoreN X0.here hx rfl (hb hby at_18) rfl (l' := #[.val (.int i0), .val (.int i1), .val (.int (1 : Int32)), .val (.int (1 : Int32)), .unset, .unset, .unset]) rfl ?_
        show Steps p.tables e below (s₁.setTop (mkF m 19 #[.val (.int i0), .val (.int i1), .val (.int (1 : Int32)), .val (.int (1 : Int32)), .unset, .unset, .unset] [])) _
        refine XS.iloadN X0.here hx rfl (hb hby at_19) rfl ?_
        show Steps p.tables e below (s₁.setTop (mkF m 20 #[.val (.int i0), .val (.int i1), .val (.int (1 : Int32)), .val (.int (1 : Int32)), .unset, .unset, .unset] [(.int (1 : Int32))])) _
        refine st16 _ ?_
        show Steps p.tables e below (T16.setTop (mkF m 23 #[.val (.int i0), .val (.int i1), .val (.int (1 : Int32)), .val (.int (1 : Int32)), .unset, .unset, .unset] [(.ref a_ACCELERATE)])) _
        refine XS.astore X16.here hx rfl (hb hby at_23) rfl rfl (l' := #[.val (.int i0), .val (.int i1), .val (.int (1 : Int32)), .val (.int (1 : Int32)), .val (.ref a_ACCELERATE), .unset, .unset]) rfl ?_
        show Steps p.tables e below (T16.setTop (mkF m 25 #[.val (.int i0), .val (.int i1), .val (.int (1 : Int32)), .val (.int (1 : Int32)), .val (.ref a_ACCELERATE), .unset, .unset] [])) _
        refine XS.iloadN X16.here hx rfl (hb hby at_25) rfl ?_
        show Steps p.tables e below (T16.setTop (mkF m 26 #[.val (.int i0), .val (.int i1), .val (.int (1 : Int32)), .val (.int (1 : Int32)), .val (.ref a_ACCELERATE), .unset, .unset] [(.int (1 : Int32))])) _
        refine XS.ifNo X16.here hx rfl (hb hby at_26) rfl (by decide) ?_
        show Steps p.tables e below (T16.setTop (mkF m 29 #[.val (.int i0), .val (.int i1), .val (.int (1 : Int32)), .val (.int (1 : Int32)), .val (.ref a_ACCELERATE), .unset, .unset] [])) _
        refine st17 _ ?_
        show Steps p.tables e below (T17.setTop (mkF m 32 #[.val (.int i0), .val (.int i1), .val (.int (1 : Int32)), .val (.int (1 : Int32)), .val (.ref a_ACCELERATE), .unset, .unset] [(.ref a_RIGHT)])) _
        refine XS.goto X17.here hx rfl (pc0 := 32) (pc' := 38) rfl (hb hby at_32) (by decide) (by decide) ?_
        show Steps p.tables e below (T17.setTop (mkF m 38 #[.val (.int i0), .val (.int i1), .val (.int (1 : Int32)), .val (.int (1 : Int32)), .val (.ref a_ACCELERATE), .unset, .unset] [(.ref a_RIGHT)])) _
        refine XS.astore X17.here hx rfl (hb hby at_38) rfl rfl (l' := #[.val (.int i0), .val (.int i1), .val (.int (1 : Int32)), .val (.int (1 : Int32)), .val (.ref a_ACCELERATE), .val (.ref a_RIGHT), .unset]) rfl ?_
        show Steps p.tables e below (T17.setTop (mkF m 40 #[.val (.int i0), .val (.int i1), .val (.int (1 : Int32)), .val (.int (1 : Int32)), .val (.ref a_ACCELERATE), .val (.ref a_RIGHT), .unset] [])) _
        refine XS.iloadN X17.here hx rfl (hb hby at_40) rfl ?_
        show Steps p.tables e below (T17.setTop (mkF m 41 #[.val (.int i0), .val (.int i1), .val (.int (1 : Int32)), .val (.int (1 : Int32)), .val (.ref a_ACCELERATE), .val (.ref a_RIGHT), .unset] [(.int (1 : Int32))])) _
        refine XS.ifYes X17.here hx rfl (pc0 := 41) (pc' := 50) rfl (hb hby at_41) rfl (by decide) (by decide) (by decide) ?_
        show Steps p.tables e below (T17.setTop (mkF m 50 #[.val (.int i0), .val (.int i1), .val (.int (1 : Int32)), .val (.int (1 : Int32)), .val (.ref a_ACCELERATE), .val (.ref a_RIGHT), .unset] [])) _
        refine XS.iloadN X17.here hx rfl (hb hby at_50) rfl ?_
        show Steps p.tables e below (T17.setTop (mkF m 51 #[.val (.int i0), .val (.int i1), .val (.int (1 : Int32)), .val (.int (1 : Int32)), .val (.ref a_ACCELERATE), .val (.ref a_RIGHT), .unset] [(.int (1 : Int32))])) _
        refine XS.iconst X17.here hx rfl (hb hby at_51) ?_
        show Steps p.tables e below (T17.setTop (mkF m 52 #[.val (.int i0), .val (.int i1), .val (.int (1 : Int32)), .val (.int (1 : Int32)), .val (.ref a_ACCELERATE), .val (.ref a_RIGHT), .unset] [(.int (2 : Int32)), (.int (1 : Int32))])) _
        refine XS.icmpYes X17.here hx rfl (pc0 := 52) (pc' := 69) rfl (hb hby at_52) rfl (by decide) (by decide) (by decide) ?_
        show Steps p.tables e below (T17.setTop (mkF m 69 #[.val (.int i0), .val (.int i1), .val (.int (1 : Int32)), .val (.int (1 : Int32)), .val (.ref a_ACCELERATE), .val (.ref a_RIGHT), .unset] [])) _
        refine XS.iconst X17.here hx rfl (hb hby at_69) ?_
        show Steps p.tables e below (T17.setTop (mkF m 70 #[.val (.int i0), .val (.int i1), .val (.int (1 : Int32)), .val (.int (1 : Int32)), .val (.ref a_ACCELERATE), .val (.ref a_RIGHT), .unset] [(.int (1 : Int32))])) _
        refine XS.istore X17.here hx rfl (hb hby at_70) rfl (l' := #[.val (.int i0), .val (.int i1), .val (.int (1 : Int32)), .val (.int (1 : Int32)), .val (.ref a_ACCELERATE), .val (.ref a_RIGHT), .val (.int (1 : Int32))]) rfl ?_
        show Steps p.tables e below (T17.setTop (mkF m 72 #[.val (.int i0), .val (.int i1), .val (.int (1 : Int32)), .val (.int (1 : Int32)), .val (.ref a_ACCELERATE), .val (.ref a_RIGHT), .val (.int (1 : Int32))] [])) _
        refine XS.aload X17.here hx rfl (hb hby at_72) rfl rfl ?_
        show Steps p.tables e below (T17.setTop (mkF m 74 #[.val (.int i0), .val (.int i1), .val (.int (1 : Int32)), .val (.int (1 : Int32)), .val (.ref a_ACCELERATE), .val (.ref a_RIGHT), .val (.int (1 : Int32))] [(.ref a_ACCELERATE)])) _
        refine XS.aload X17.here hx rfl (hb hby at_74) rfl rfl ?_
        show Steps p.tables e below (T17.setTop (mkF m 76 #[.val (.int i0), .val (.int i1), .val (.int (1 : Int32)), .val (.int (1 : Int32)), .val (.ref a_ACCELERATE), .val (.ref a_RIGHT), .val (.int (1 : Int32))] [(.ref a_RIGHT), (.ref a_ACCELERATE)])) _
        refine st18.trans ?_
        show Steps p.tables e below (T18.setTop (mkF m 79 #[.val (.int i0), .val (.int i1), .val (.int (1 : Int32)), .val (.int (1 : Int32)), .val (.ref a_ACCELERATE), .val (.ref a_RIGHT), .val (.int (1 : Int32))] [(.int (1 : Int32))])) _
        refine XS.iload X18.here hx rfl (hb hby at_79) rfl ?_
        show Steps p.tables e below (T18.setTop (mkF m 81 #[.val (.int i0), .val (.int i1), .val (.int (1 : Int32)), .val (.int (1 : Int32)), .val (.ref a_ACCELERATE), .val (.ref a_RIGHT), .val (.int (1 : Int32))] [(.int (1 : Int32)), (.int (1 : Int32))])) _
        refine XS.icmpNo X18.here hx rfl (hb hby at_81) rfl (by decide) ?_
        show Steps p.tables e below (T18.setTop (mkF m 84 #[.val (.int i0), .val (.int i1), .val (.int (1 : Int32)), .val (.int (1 : Int32)), .val (.ref a_ACCELERATE), .val (.ref a_RIGHT), .val (.int (1 : Int32))] [])) _
        refine XS.iconst X18.here hx rfl (hb hby at_84) ?_
        show Steps p.tables e below (T18.setTop (mkF m 85 #[.val (.int i0), .val (.int i1), .val (.int (1 : Int32)), .val (.int (1 : Int32)), .val (.ref a_ACCELERATE), .val (.ref a_RIGHT), .val (.int (1 : Int32))] [(.int (1 : Int32))])) _
        refine XS.goto X18.here hx rfl (pc0 := 85) (pc' := 89) rfl (hb hby at_85) (by decide) (by decide) ?_
        show Steps p.tables e below (T18.setTop (mkF m 89 #[.val (.int i0), .val (.int i1), .val (.int (1 : Int32)), .val (.int (1 : Int32)), .val (.ref a_ACCELERATE), .val (.ref a_RIGHT), .val (.int (1 : Int32))] [(.int (1 : Int32))])) _
        exact retN X18 hx (t := .boolean) Bd.returns (by simp) (hb hby at_89) hr
      · show QL n0 _ T18.heap _
        rw [hh18]
        exact ⟨rfl, N18⟩
  · skip
    have pre19 : ∀ t, Steps p.tables e below (s₁.setTop (mkF m 10 #[.val (.int i0), .val (.int i1), .val (.int (2 : Int32)), .unset, .unset, .unset, .unset] [(.int (i1 &&& (1 : Int32)))])) t → Steps p.tables e below (s₁.setTop (entryFrame m #[(.int i0), (.int i1)] maxLocals)) t := fun t kt => pre1 t (by
        show Steps p.tables e below (s₁.setTop (mkF m 6 #[.val (.int i0), .val (.int i1), .unset, .unset, .unset, .unset, .unset] [(.int ((i0 &&& (2147483647 : Int32)) % (5 : Int32)))])) _
        rw [hk2]
        show Steps p.tables e below (s₁.setTop (mkF m 6 #[.val (.int i0), .val (.int i1), .unset, .unset, .unset, .unset, .unset] [(.int (2 : Int32))])) _
        refine XS.istoreN X0.here hx rfl (hb hby at_6) rfl (l' := #[.val (.int i0), .val (.int i1), .val (.int (2 : Int32)), .unset, .unset, .unset, .unset]) rfl ?_
        show Steps p.tables e below (s₁.setTop (mkF m 7 #[.val (.int i0), .val (.int i1), .val (.int (2 : Int32)), .unset, .unset, .unset, .unset] [])) _
        refine XS.iloadN X0.here hx rfl (hb hby at_7) rfl ?_
        show Steps p.tables e below (s₁.setTop (mkF m 8 #[.val (.int i0), .val (.int i1), .val (.int (2 : Int32)), .unset, .unset, .unset, .unset] [(.int i1)])) _
        refine XS.iconst X0.here hx rfl (hb hby at_8) ?_
        show Steps p.tables e below (s₁.setTop (mkF m 9 #[.val (.int i0), .val (.int i1), .val (.int (2 : Int32)), .unset, .unset, .unset, .unset] [(.int (1 : Int32)), (.int i1)])) _
        refine XS.iand X0.here hx rfl (hb hby at_9) rfl ?_
        exact kt)
    rcases own_b i1 with hk20 | hk20
    · skip
      obtain ⟨_, _, ⟨T21, L21, k21, n21⟩, -, X21, ⟨Lc21, hQ21, l21, y21, z21⟩, st21⟩ := Jvm.LawKit.callS X0 hx (y := (⟨"com/example/roadwright/roadwright/road/ManoeuvreCanBeTakenInPinLaw", "pick", "(I)Lcom/example/roadwright/roadwright/road/Manoeuvre;"⟩ : MethodName)) hown (mvT hZ (hw _ (List.mem_of_getElem? (i := 1) rfl))) (mvT hZ (hw _ (List.mem_of_getElem? (i := 2) rfl))) (mvT hZ (hw _ (List.mem_of_getElem? (i := 3) rfl))) (mvT hZ (hw _ (List.mem_of_getElem? (i := 4) rfl))) (by decide) (backOf (W := 0) (rm_pick_7 l Z a0 hw [] a_LEFT_LANE_CHANGE a_RIGHT a_BRAKE a_DRIVE a_ACCELERATE a_LEFT a_RIGHT_LANE_CHANGE h0 n0 O0 En) hZ (hw _ (List.mem_of_getElem? (i := 4) rfl)) (hw _ (List.mem_of_getElem? (i := 3) rfl)) (by decide) (by decide)) (g := (mkF m 20 #[.val (.int i0), .val (.int i1), .val (.int (2 : Int32)), .val (.int (0 : Int32)), .unset, .unset, .unset] [(.int (2 : Int32))])) rfl (by rw [hml]; rfl) (argsL := [(.int (2 : Int32))]) (rest := []) (lenOf pd_0 rfl) rfl (by show 2 * 0 + _ ≤ _; exact Nat.le_of_eq rfl) (hb hby at_20) (fun _ _ => ⟨rfl, e0, (by decide : 0 + 0 ≤ _), (by decide : 0 + 0 ≤ _)⟩)
      dsimp only [Pt.U, Pt.locs, Pt.cells, Pt.slots] at X21 l21 y21 z21 st21 hQ21
      subst l21 y21 z21
      obtain ⟨rfl, N21q, hh21⟩ := hQ21
      have N21 := Fr.app N0 N21q
      obtain ⟨T22, X22, e22, st22⟩ := getS2 X21 hx hZ hown (host := "") (Or.inl (hw _ (List.mem_of_getElem? (i := 24) rfl))) Via.refl hh21 (Sta.ext O0.2 S_a_LEFT) (g := (mkF m 35 #[.val (.int i0), .val (.int i1), .val (.int (2 : Int32)), .val (.int (0 : Int32)), .val (.ref a_RIGHT_LANE_CHANGE), .unset, .unset] [])) rfl (hb hby at_35)
      obtain ⟨cq23, kq23, q23a, q23b, q23c⟩ := isOf hZ e22 (Exa.ext O0.2 X_a_RIGHT_LANE_CHANGE)
      obtain ⟨_, _, ⟨T23, L23, k23, n23⟩, -, X23, ⟨Lc23, hQ23, l23, y23, z23⟩, st23⟩ := X22.virtualBack hx (y := (⟨"com/example/roadwright/roadwright/road/Manoeuvre", "canBeTakenIn", "(Lcom/example/roadwright/roadwright/road/Lane;)Z"⟩ : MethodName)) (z := (⟨"com/example/roadwright/roadwright/road/Manoeuvre", "canBeTakenIn", "(Lcom/example/roadwright/roadwright/road/Lane;)Z"⟩ : MethodName)) hown (mvT hZ (hw _ (List.mem_of_getElem? (i := 11) rfl))) (mvT hZ (hw _ (List.mem_of_getElem? (i := 12) rfl))) (notFace_of_selects (args := #[]) (mvT hZ (hw _ (List.mem_of_getElem? (i := 14) rfl)))) (mvT hZ (hw _ (List.mem_of_getElem? (i := 14) rfl))) (mvT hZ (hw _ (List.mem_of_getElem? (i := 13) rfl))) (by decide) (backOf (W := 0) (rm_canBeTakenIn_8 l Z a0 hw [] a_LEFT_LANE_CHANGE a_RIGHT a_BRAKE a_DRIVE a_ACCELERATE a_LEFT a_RIGHT_LANE_CHANGE h0 n0 O0 En) hZ (hw _ (List.mem_of_getElem? (i := 15) rfl)) (hw _ (List.mem_of_getElem? (i := 6) rfl)) (by decide) (by decide)) q23a q23c (g := (mkF m 76 #[.val (.int i0), .val (.int i1), .val (.int (2 : Int32)), .val (.int (0 : Int32)), .val (.ref a_RIGHT_LANE_CHANGE), .val (.ref a_LEFT), .val (.int (1 : Int32))] [(.ref a_LEFT), (.ref a_RIGHT_LANE_CHANGE)])) rfl (by rw [hml]; rfl) (Steps.refl _) (argsL := [(.ref a_LEFT)]) (rest := []) (lenOf pd_1 rfl) rfl (by show 2 * 0 + _ ≤ _; exact Nat.le_of_eq rfl) (hb hby at_76) (fun _ _ => ⟨rfl, e22, (by decide : 0 + 0 ≤ _), (by decide : 0 + 0 ≤ _)⟩)
      dsimp only [Pt.U, Pt.locs, Pt.cells, Pt.slots] at X23 l23 y23 z23 st23 hQ23
      subst l23 y23 z23
      obtain ⟨rfl, N23q, hh23⟩ := hQ23
      have N23 := Fr.app N21 N23q
      obtain ⟨fs, hr, hrun, hended, hW, hsame⟩ := X23.leave (v := some (.int (1 : Int32))) (fun h => by rw [Bd.returns] at h; cases h)
      refine ⟨_, _, pre19 _ ?_, hrun, hended, _, _, rfl, ?_, ⟨_, rfl⟩, hW, hsame.mono (by decide) (by decide)⟩
      · skip
        show Steps p.tables e below (s₁.setTop (mkF m 10 #[.val (.int i0), .val (.int i1), .val (.int (2 : Int32)), .unset, .unset, .unset, .unset] [(.int (i1 &&& (1 : Int32)))])) _
        rw [hk20]
        show Steps p.tables e below (s₁.setTop (mkF m 10 #[.val (.int i0), .val (.int i1), .val (.int (2 : Int32)), .unset, .unset, .unset, .unset] [(.int (0 : Int32))])) _
        refine XS.ifYes X0.here hx rfl (pc0 := 10) (pc' := 17) rfl (hb hby at_10) rfl (by decide) (by decide) (by decide) ?_
        show Steps p.tables e below (s₁.setTop (mkF m 17 #[.val (.int i0), .val (.int i1), .val (.int (2 : Int32)), .unset, .unset, .unset, .unset] [])) _
        refine XS.iconst X0.here hx rfl (hb hby at_17) ?_
        show Steps p.tables e below (s₁.setTop (mkF m 18 #[.val (.int i0), .val (.int i1), .val (.int (2 : Int32)), .unset, .unset, .unset, .unset] [(.int (0 : Int32))])) _
        refine XS.istoreN X0.here hx rfl (hb hby at_18) rfl (l' := #[.val (.int i0), .val (.int i1), .val (.int (2 : Int32)), .val (.int (0 : Int32)), .unset, .unset, .unset]) rfl ?_
        show Steps p.tables e below (s₁.setTop (mkF m 19 #[.val (.int i0), .val (.int i1), .val (.int (2 : Int32)), .val (.int (0 : Int32)), .unset, .unset, .unset] [])) _
        refine XS.iloadN X0.here hx rfl (hb hby at_19) rfl ?_
        show Steps p.tables e below (s₁.setTop (mkF m 20 #[.val (.int i0), .val (.int i1), .val (.int (2 : Int32)), .val (.int (0 : Int32)), .unset, .unset, .unset] [(.int (2 : Int32))])) _
        refine st21 _ ?_
        show Steps p.tables e below (T21.setTop (mkF m 23 #[.val (.int i0), .val (.int i1), .val (.int (2 : Int32)), .val (.int (0 : Int32)), .unset, .unset, .unset] [(.ref a_RIGHT_LANE_CHANGE)])) _
        refine XS.astore X21.here hx rfl (hb hby at_23) rfl rfl (l' := #[.val (.int i0), .val (.int i1), .val (.int (2 : Int32)), .val (.int (0 : Int32)), .val (.ref a_RIGHT_LANE_CHANGE), .unset, .unset]) rfl ?_
        show Steps p.tables e below (T21.setTop (mkF m 25 #[.val (.int i0), .val (.int i1), .val (.int (2 : Int32)), .val (.int (0 : Int32)), .val (.ref a_RIGHT_LANE_CHANGE), .unset, .unset] [])) _
        refine XS.iloadN X21.here hx rfl (hb hby at_25) rfl ?_
        show Steps p.tables e below (T21.setTop (mkF m 26 #[.val (.int i0), .val (.int i1), .val (.int (2 : Int32)), .val (.int (0 : Int32)), .val (.ref a_RIGHT_LANE_CHANGE), .unset, .unset] [(.int (0 : Int32))])) _
        refine XS.ifYes X21.here hx rfl (pc0 := 26) (pc' := 35) rfl (hb hby at_26) rfl (by decide) (by decide) (by decide) ?_
        show Steps p.tables e below (T21.setTop (mkF m 35 #[.val (.int i0), .val (.int i1), .val (.int (2 : Int32)), .val (.int (0 : Int32)), .val (.ref a_RIGHT_LANE_CHANGE), .unset, .unset] [])) _
        refine st22 _ ?_
        show Steps p.tables e below (T22.setTop (mkF m 38 #[.val (.int i0), .val (.int i1), .val (.int (2 : Int32)), .val (.int (0 : Int32)), .val (.ref a_RIGHT_LANE_CHANGE), .unset, .unset] [(.ref a_LEFT)])) _
        refine XS.astore X22.here hx rfl (hb hby at_38) rfl rfl (l' := #[.val (.int i0), .val (.int i1), .val (.int (2 : Int32)), .val (.int (0 : Int32)), .val (.ref a_RIGHT_LANE_CHANGE), .val (.ref a_LEFT), .unset]) rfl ?_
        show Steps p.tables e below (T22.setTop (mkF m 40 #[.val (.int i0), .val (.int i1), .val (.int (2 : Int32)), .val (.int (0 : Int32)), .val (.ref a_RIGHT_LANE_CHANGE), .val (.ref a_LEFT), .unset] [])) _
        refine XS.iloadN X22.here hx rfl (hb hby at_40) rfl ?_
        show Steps p.tables e below (T22.setTop (mkF m 41 #[.val (.int i0), .val (.int i1), .val (.int (2 : Int32)), .val (.int (0 : Int32)), .val (.ref a_RIGHT_LANE_CHANGE), .val (.ref a_LEFT), .unset] [(.int (2 : Int32))])) _
        refine XS.ifYes X22.here hx rfl (pc0 := 41) (pc' := 50) rfl (hb hby at_41) rfl (by decide) (by decide) (by decide) ?_
        show Steps p.tables e below (T22.setTop (mkF m 50 #[.val (.int i0), .val (.int i1), .val (.int (2 : Int32)), .val (.int (0 : Int32)), .val (.ref a_RIGHT_LANE_CHANGE), .val (.ref a_LEFT), .unset] [])) _
        refine XS.iloadN X22.here hx rfl (hb hby at_50) rfl ?_
        show Steps p.tables e below (T22.setTop (mkF m 51 #[.val (.int i0), .val (.int i1), .val (.int (2 : Int32)), .val (.int (0 : Int32)), .val (.ref a_RIGHT_LANE_CHANGE), .val (.ref a_LEFT), .unset] [(.int (2 : Int32))])) _
        refine XS.iconst X22.here hx rfl (hb hby at_51) ?_
        show Steps p.tables e below (T22.setTop (mkF m 52 #[.val (.int i0), .val (.int i1), .val (.int (2 : Int32)), .val (.int (0 : Int32)), .val (.ref a_RIGHT_LANE_CHANGE), .val (.ref a_LEFT), .unset] [(.int (2 : Int32)), (.int (2 : Int32))])) _
        refine XS.icmpNo X22.here hx rfl (hb hby at_52) rfl (by decide) ?_
        show Steps p.tables e below (T22.setTop (mkF m 55 #[.val (.int i0), .val (.int i1), .val (.int (2 : Int32)), .val (.int (0 : Int32)), .val (.ref a_RIGHT_LANE_CHANGE), .val (.ref a_LEFT), .unset] [])) _
        refine XS.iloadN X22.here hx rfl (hb hby at_55) rfl ?_
        show Steps p.tables e below (T22.setTop (mkF m 56 #[.val (.int i0), .val (.int i1), .val (.int (2 : Int32)), .val (.int (0 : Int32)), .val (.ref a_RIGHT_LANE_CHANGE), .val (.ref a_LEFT), .unset] [(.int (0 : Int32))])) _
        refine XS.ifNo X22.here hx rfl (hb hby at_56) rfl (by decide) ?_
        show Steps p.tables e below (T22.setTop (mkF m 59 #[.val (.int i0), .val (.int i1), .val (.int (2 : Int32)), .val (.int (0 : Int32)), .val (.ref a_RIGHT_LANE_CHANGE), .val (.ref a_LEFT), .unset] [])) _
        refine XS.iconst X22.here hx rfl (hb hby at_59) ?_
        show Steps p.tables e below (T22.setTop (mkF m 60 #[.val (.int i0), .val (.int i1), .val (.int (2 : Int32)), .val (.int (0 : Int32)), .val (.ref a_RIGHT_LANE_CHANGE), .val (.ref a_LEFT), .unset] [(.int (1 : Int32))])) _
        refine XS.goto X22.here hx rfl (pc0 := 60) (pc' := 64) rfl (hb hby at_60) (by decide) (by decide) ?_
        show Steps p.tables e below (T22.setTop (mkF m 64 #[.val (.int i0), .val (.int i1), .val (.int (2 : Int32)), .val (.int (0 : Int32)), .val (.ref a_RIGHT_LANE_CHANGE), .val (.ref a_LEFT), .unset] [(.int (1 : Int32))])) _
        refine XS.istore X22.here hx rfl (hb hby at_64) rfl (l' := #[.val (.int i0), .val (.int i1), .val (.int (2 : Int32)), .val (.int (0 : Int32)), .val (.ref a_RIGHT_LANE_CHANGE), .val (.ref a_LEFT), .val (.int (1 : Int32))]) rfl ?_
        show Steps p.tables e below (T22.setTop (mkF m 66 #[.val (.int i0), .val (.int i1), .val (.int (2 : Int32)), .val (.int (0 : Int32)), .val (.ref a_RIGHT_LANE_CHANGE), .val (.ref a_LEFT), .val (.int (1 : Int32))] [])) _
        refine XS.goto X22.here hx rfl (pc0 := 66) (pc' := 72) rfl (hb hby at_66) (by decide) (by decide) ?_
        show Steps p.tables e below (T22.setTop (mkF m 72 #[.val (.int i0), .val (.int i1), .val (.int (2 : Int32)), .val (.int (0 : Int32)), .val (.ref a_RIGHT_LANE_CHANGE), .val (.ref a_LEFT), .val (.int (1 : Int32))] [])) _
        refine XS.aload X22.here hx rfl (hb hby at_72) rfl rfl ?_
        show Steps p.tables e below (T22.setTop (mkF m 74 #[.val (.int i0), .val (.int i1), .val (.int (2 : Int32)), .val (.int (0 : Int32)), .val (.ref a_RIGHT_LANE_CHANGE), .val (.ref a_LEFT), .val (.int (1 : Int32))] [(.ref a_RIGHT_LANE_CHANGE)])) _
        refine XS.aload X22.here hx rfl (hb hby at_74) rfl rfl ?_
        show Steps p.tables e below (T22.setTop (mkF m 76 #[.val (.int i0), .val (.int i1), .val (.int (2 : Int32)), .val (.int (0 : Int32)), .val (.ref a_RIGHT_LANE_CHANGE), .val (.ref a_LEFT), .val (.int (1 : Int32))] [(.ref a_LEFT), (.ref a_RIGHT_LANE_CHANGE)])) _
        refine st23.trans ?_
        show Steps p.tables e below (T23.setTop (mkF m 79 #[.val (.int i0), .val (.int i1), .val (.int (2 : Int32)), .val (.int (0 : Int32)), .val (.ref a_RIGHT_LANE_CHANGE), .val (.ref a_LEFT), .val (.int (1 : Int32))] [(.int (1 : Int32))])) _
        refine XS.iload X23.here hx rfl (hb hby at_79) rfl ?_
        show Steps p.tables e below (T23.setTop (mkF m 81 #[.val (.int i0), .val (.int i1), .val (.int (2 : Int32)), .val (.int (0 : Int32)), .val (.ref a_RIGHT_LANE_CHANGE), .val (.ref a_LEFT), .val (.int (1 : Int32))] [(.int (1 : Int32)), (.int (1 : Int32))])) _
        refine XS.icmpNo X23.here hx rfl (hb hby at_81) rfl (by decide) ?_
        show Steps p.tables e below (T23.setTop (mkF m 84 #[.val (.int i0), .val (.int i1), .val (.int (2 : Int32)), .val (.int (0 : Int32)), .val (.ref a_RIGHT_LANE_CHANGE), .val (.ref a_LEFT), .val (.int (1 : Int32))] [])) _
        refine XS.iconst X23.here hx rfl (hb hby at_84) ?_
        show Steps p.tables e below (T23.setTop (mkF m 85 #[.val (.int i0), .val (.int i1), .val (.int (2 : Int32)), .val (.int (0 : Int32)), .val (.ref a_RIGHT_LANE_CHANGE), .val (.ref a_LEFT), .val (.int (1 : Int32))] [(.int (1 : Int32))])) _
        refine XS.goto X23.here hx rfl (pc0 := 85) (pc' := 89) rfl (hb hby at_85) (by decide) (by decide) ?_
        show Steps p.tables e below (T23.setTop (mkF m 89 #[.val (.int i0), .val (.int i1), .val (.int (2 : Int32)), .val (.int (0 : Int32)), .val (.ref a_RIGHT_LANE_CHANGE), .val (.ref a_LEFT), .val (.int (1 : Int32))] [(.int (1 : Int32))])) _
        exact retN X23 hx (t := .boolean) Bd.returns (by simp) (hb hby at_89) hr
      · show QL n0 _ T23.heap _
        rw [hh23]
        exact ⟨rfl, N23⟩
    · skip
      obtain ⟨_, _, ⟨T24, L24, k24, n24⟩, -, X24, ⟨Lc24, hQ24, l24, y24, z24⟩, st24⟩ := Jvm.LawKit.callS X0 hx (y := (⟨"com/example/roadwright/roadwright/road/ManoeuvreCanBeTakenInPinLaw", "pick", "(I)Lcom/example/roadwright/roadwright/road/Manoeuvre;"⟩ : MethodName)) hown (mvT hZ (hw _ (List.mem_of_getElem? (i := 1) rfl))) (mvT hZ (hw _ (List.mem_of_getElem? (i := 2) rfl))) (mvT hZ (hw _ (List.mem_of_getElem? (i := 3) rfl))) (mvT hZ (hw _ (List.mem_of_getElem? (i := 4) rfl))) (by decide) (backOf (W := 0) (rm_pick_7 l Z a0 hw [] a_LEFT_LANE_CHANGE a_RIGHT a_BRAKE a_DRIVE a_ACCELERATE a_LEFT a_RIGHT_LANE_CHANGE h0 n0 O0 En) hZ (hw _ (List.mem_of_getElem? (i := 4) rfl)) (hw _ (List.mem_of_getElem? (i := 3) rfl)) (by decide) (by decide)) (g := (mkF m 20 #[.val (.int i0), .val (.int i1), .val (.int (2 : Int32)), .val (.int (1 : Int32)), .unset, .unset, .unset] [(.int (2 : Int32))])) rfl (by rw [hml]; rfl) (argsL := [(.int (2 : Int32))]) (rest := []) (lenOf pd_0 rfl) rfl (by show 2 * 0 + _ ≤ _; exact Nat.le_of_eq rfl) (hb hby at_20) (fun _ _ => ⟨rfl, e0, (by decide : 0 + 0 ≤ _), (by decide : 0 + 0 ≤ _)⟩)
      dsimp only [Pt.U, Pt.locs, Pt.cells, Pt.slots] at X24 l24 y24 z24 st24 hQ24
      subst l24 y24 z24
      obtain ⟨rfl, N24q, hh24⟩ := hQ24
      have N24 := Fr.app N0 N24q
      obtain ⟨T25, X25, e25, st25⟩ := getS2 X24 hx hZ hown (host := "") (Or.inl (hw _ (List.mem_of_getElem? (i := 8) rfl))) Via.refl hh24 (Sta.ext O0.2 S_a_RIGHT) (g := (mkF m 29 #[.val (.int i0), .val (.int i1), .val (.int (2 : Int32)), .val (.int (1 : Int32)), .val (.ref a_RIGHT_LANE_CHANGE), .unset, .unset] [])) rfl (hb hby at_29)
      obtain ⟨cq26, kq26, q26a, q26b, q26c⟩ := isOf hZ e25 (Exa.ext O0.2 X_a_RIGHT_LANE_CHANGE)
      obtain ⟨_, _, ⟨T26, L26, k26, n26⟩, -, X26, ⟨Lc26, hQ26, l26, y26, z26⟩, st26⟩ := X25.virtualBack hx (y := (⟨"com/example/roadwright/roadwright/road/Manoeuvre", "canBeTakenIn", "(Lcom/example/roadwright/roadwright/road/Lane;)Z"⟩ : MethodName)) (z := (⟨"com/example/roadwright/roadwright/road/Manoeuvre", "canBeTakenIn", "(Lcom/example/roadwright/roadwright/road/Lane;)Z"⟩ : MethodName)) hown (mvT hZ (hw _ (List.mem_of_getElem? (i := 11) rfl))) (mvT hZ (hw _ (List.mem_of_getElem? (i := 12) rfl))) (notFace_of_selects (args := #[]) (mvT hZ (hw _ (List.mem_of_getElem? (i := 14) rfl)))) (mvT hZ (hw _ (List.mem_of_getElem? (i := 14) rfl))) (mvT hZ (hw _ (List.mem_of_getElem? (i := 13) rfl))) (by decide) (backOf (W := 0) (rm_canBeTakenIn_9 l Z a0 hw [] a_LEFT_LANE_CHANGE a_RIGHT a_BRAKE a_DRIVE a_ACCELERATE a_LEFT a_RIGHT_LANE_CHANGE h0 n0 O0 En) hZ (hw _ (List.mem_of_getElem? (i := 15) rfl)) (hw _ (List.mem_of_getElem? (i := 6) rfl)) (by decide) (by decide)) q26a q26c (g := (mkF m 76 #[.val (.int i0), .val (.int i1), .val (.int (2 : Int32)), .val (.int (1 : Int32)), .val (.ref a_RIGHT_LANE_CHANGE), .val (.ref a_RIGHT), .val (.int (0 : Int32))] [(.ref a_RIGHT), (.ref a_RIGHT_LANE_CHANGE)])) rfl (by rw [hml]; rfl) (Steps.refl _) (argsL := [(.ref a_RIGHT)]) (rest := []) (lenOf pd_1 rfl) rfl (by show 2 * 0 + _ ≤ _; exact Nat.le_of_eq rfl) (hb hby at_76) (fun _ _ => ⟨rfl, e25, (by decide : 0 + 0 ≤ _), (by decide : 0 + 0 ≤ _)⟩)
      dsimp only [Pt.U, Pt.locs, Pt.cells, Pt.slots] at X26 l26 y26 z26 st26 hQ26
      subst l26 y26 z26
      obtain ⟨rfl, N26q, hh26⟩ := hQ26
      have N26 := Fr.app N24 N26q
      obtain ⟨fs, hr, hrun, hended, hW, hsame⟩ := X26.leave (v := some (.int (1 : Int32))) (fun h => by rw [Bd.returns] at h; cases h)
      refine ⟨_, _, pre19 _ ?_, hrun, hended, _, _, rfl, ?_, ⟨_, rfl⟩, hW, hsame.mono (by decide) (by decide)⟩
      · skip
        show Steps p.tables e below (s₁.setTop (mkF m 10 #[.val (.int i0), .val (.int i1), .val (.int (2 : Int32)), .unset, .unset, .unset, .unset] [(.int (i1 &&& (1 : Int32)))])) _
        rw [hk20]
        show Steps p.tables e below (s₁.setTop (mkF m 10 #[.val (.int i0), .val (.int i1), .val (.int (2 : Int32)), .unset, .unset, .unset, .unset] [(.int (1 : Int32))])) _
        refine XS.ifNo X0.here hx rfl (hb hby at_10) rfl (by decide) ?_
        show Steps p.tables e below (s₁.setTop (mkF m 13 #[.val (.int i0), .val (.int i1), .val (.int (2 : Int32)), .unset, .unset, .unset, .unset] [])) _
        refine XS.iconst X0.here hx rfl (hb hby at_13) ?_
        show Steps p.tables e below (s₁.setTop (mkF m 14 #[.val (.int i0), .val (.int i1), .val (.int (2 : Int32)), .unset, .unset, .unset, .unset] [(.int (1 : Int32))])) _
        refine XS.goto X0.here hx rfl (pc0 := 14) (pc' := 18) rfl (hb hby at_14) (by decide) (by decide) ?_
        show Steps p.tables e below (s₁.setTop (mkF m 18 #[.val (.int i0), .val (.int i1), .val (.int (2 : Int32)), .unset, .unset, .unset, .unset] [(.int (1 : Int32))])) _
        refine XS.istoreN X0.here hx rfl (hb hby at_18) rfl (l' := #[.val (.int i0), .val (.int i1), .val (.int (2 : Int32)), .val (.int (1 : Int32)), .unset, .unset, .unset]) rfl ?_
        show Steps p.tables e below (s₁.setTop (mkF m 19 #[.val (.int i0), .val (.int i1), .val (.int (2 : Int32)), .val (.int (1 : Int32)), .unset, .unset, .unset] [])) _
        refine XS.iloadN X0.here hx rfl (hb hby at_19) rfl ?_
        show Steps p.tables e below (s₁.setTop (mkF m 20 #[.val (.int i0), .val (.int i1), .val (.int (2 : Int32)), .val (.int (1 : Int32)), .unset, .unset, .unset] [(.int (2 : Int32))])) _
        refine st24 _ ?_
        show Steps p.tables e below (T24.setTop (mkF m 23 #[.val (.int i0), .val (.int i1), .val (.int (2 : Int32)), .val (.int (1 : Int32)), .unset, .unset, .unset] [(.ref a_RIGHT_LANE_CHANGE)])) _
        refine XS.astore X24.here hx rfl (hb hby at_23) rfl rfl (l' := #[.val (.int i0), .val (.int i1), .val (.int (2 : Int32)), .val (.int (1 : Int32)), .val (.ref a_RIGHT_LANE_CHANGE), .unset, .unset]) rfl ?_
        show Steps p.tables e below (T24.setTop (mkF m 25 #[.val (.int i0), .val (.int i1), .val (.int (2 : Int32)), .val (.int (1 : Int32)), .val (.ref a_RIGHT_LANE_CHANGE), .unset, .unset] [])) _
        refine XS.iloadN X24.here hx rfl (hb hby at_25) rfl ?_
        show Steps p.tables e below (T24.setTop (mkF m 26 #[.val (.int i0), .val (.int i1), .val (.int (2 : Int32)), .val (.int (1 : Int32)), .val (.ref a_RIGHT_LANE_CHANGE), .unset, .unset] [(.int (1 : Int32))])) _
        refine XS.ifNo X24.here hx rfl (hb hby at_26) rfl (by decide) ?_
        show Steps p.tables e below (T24.setTop (mkF m 29 #[.val (.int i0), .val (.int i1), .val (.int (2 : Int32)), .val (.int (1 : Int32)), .val (.ref a_RIGHT_LANE_CHANGE), .unset, .unset] [])) _
        refine st25 _ ?_
        show Steps p.tables e below (T25.setTop (mkF m 32 #[.val (.int i0), .val (.int i1), .val (.int (2 : Int32)), .val (.int (1 : Int32)), .val (.ref a_RIGHT_LANE_CHANGE), .unset, .unset] [(.ref a_RIGHT)])) _
        refine XS.goto X25.here hx rfl (pc0 := 32) (pc' := 38) rfl (hb hby at_32) (by decide) (by decide) ?_
        show Steps p.tables e below (T25.setTop (mkF m 38 #[.val (.int i0), .val (.int i1), .val (.int (2 : Int32)), .val (.int (1 : Int32)), .val (.ref a_RIGHT_LANE_CHANGE), .unset, .unset] [(.ref a_RIGHT)])) _
        refine XS.astore X25.here hx rfl (hb hby at_38) rfl rfl (l' := #[.val (.int i0), .val (.int i1), .val (.int (2 : Int32)), .val (.int (1 : Int32)), .val (.ref a_RIGHT_LANE_CHANGE), .val (.ref a_RIGHT), .unset]) rfl ?_
        show Steps p.tables e below (T25.setTop (mkF m 40 #[.val (.int i0), .val (.int i1), .val (.int (2 : Int32)), .val (.int (1 : Int32)), .val (.ref a_RIGHT_LANE_CHANGE), .val (.ref a_RIGHT), .unset] [])) _
        refine XS.iloadN X25.here hx rfl (hb hby at_40) rfl ?_
        show Steps p.tables e below (T25.setTop (mkF m 41 #[.val (.int i0), .val (.int i1), .val (.int (2 : Int32)), .val (.int (1 : Int32)), .val (.ref a_RIGHT_LANE_CHANGE), .val (.ref a_RIGHT), .unset] [(.int (2 : Int32))])) _
        refine XS.ifYes X25.here hx rfl (pc0 := 41) (pc' := 50) rfl (hb hby at_41) rfl (by decide) (by decide) (by decide) ?_
        show Steps p.tables e below (T25.setTop (mkF m 50 #[.val (.int i0), .val (.int i1), .val (.int (2 : Int32)), .val (.int (1 : Int32)), .val (.ref a_RIGHT_LANE_CHANGE), .val (.ref a_RIGHT), .unset] [])) _
        refine XS.iloadN X25.here hx rfl (hb hby at_50) rfl ?_
        show Steps p.tables e below (T25.setTop (mkF m 51 #[.val (.int i0), .val (.int i1), .val (.int (2 : Int32)), .val (.int (1 : Int32)), .val (.ref a_RIGHT_LANE_CHANGE), .val (.ref a_RIGHT), .unset] [(.int (2 : Int32))])) _
        refine XS.iconst X25.here hx rfl (hb hby at_51) ?_
        show Steps p.tables e below (T25.setTop (mkF m 52 #[.val (.int i0), .val (.int i1), .val (.int (2 : Int32)), .val (.int (1 : Int32)), .val (.ref a_RIGHT_LANE_CHANGE), .val (.ref a_RIGHT), .unset] [(.int (2 : Int32)), (.int (2 : Int32))])) _
        refine XS.icmpNo X25.here hx rfl (hb hby at_52) rfl (by decide) ?_
        show Steps p.tables e below (T25.setTop (mkF m 55 #[.val (.int i0), .val (.int i1), .val (.int (2 : Int32)), .val (.int (1 : Int32)), .val (.ref a_RIGHT_LANE_CHANGE), .val (.ref a_RIGHT), .unset] [])) _
        refine XS.iloadN X25.here hx rfl (hb hby at_55) rfl ?_
        show Steps p.tables e below (T25.setTop (mkF m 56 #[.val (.int i0), .val (.int i1), .val (.int (2 : Int32)), .val (.int (1 : Int32)), .val (.ref a_RIGHT_LANE_CHANGE), .val (.ref a_RIGHT), .unset] [(.int (1 : Int32))])) _
        refine XS.ifYes X25.here hx rfl (pc0 := 56) (pc' := 63) rfl (hb hby at_56) rfl (by decide) (by decide) (by decide) ?_
        show Steps p.tables e below (T25.setTop (mkF m 63 #[.val (.int i0), .val (.int i1), .val (.int (2 : Int32)), .val (.int (1 : Int32)), .val (.ref a_RIGHT_LANE_CHANGE), .val (.ref a_RIGHT), .unset] [])) _
        refine XS.iconst X25.here hx rfl (hb hby at_63) ?_
        show Steps p.tables e below (T25.setTop (mkF m 64 #[.val (.int i0), .val (.int i1), .val (.int (2 : Int32)), .val (.int (1 : Int32)), .val (.ref a_RIGHT_LANE_CHANGE), .val (.ref a_RIGHT), .unset] [(.int (0 : Int32))])) _
        refine XS.istore X25.here hx rfl (hb hby at_64) rfl (l' := #[.val (.int i0), .val (.int i1), .val (.int (2 : Int32)), .val (.int (1 : Int32)), .val (.ref a_RIGHT_LANE_CHANGE), .val (.ref a_RIGHT), .val (.int (0 : Int32))]) rfl ?_
        show Steps p.tables e below (T25.setTop (mkF m 66 #[.val (.int i0), .val (.int i1), .val (.int (2 : Int32)), .val (.int (1 : Int32)), .val (.ref a_RIGHT_LANE_CHANGE), .val (.ref a_RIGHT), .val (.int (0 : Int32))] [])) _
        refine XS.goto X25.here hx rfl (pc0 := 66) (pc' := 72) rfl (hb hby at_66) (by decide) (by decide) ?_
        show Steps p.tables e below (T25.setTop (mkF m 72 #[.val (.int i0), .val (.int i1), .val (.int (2 : Int32)), .val (.int (1 : Int32)), .val (.ref a_RIGHT_LANE_CHANGE), .val (.ref a_RIGHT), .val (.int (0 : Int32))] [])) _
        refine XS.aload X25.here hx rfl (hb hby at_72) rfl rfl ?_
        show Steps p.tables e below (T25.setTop (mkF m 74 #[.val (.int i0), .val (.int i1), .val (.int (2 : Int32)), .val (.int (1 : Int32)), .val (.ref a_RIGHT_LANE_CHANGE), .val (.ref a_RIGHT), .val (.int (0 : Int32))] [(.ref a_RIGHT_LANE_CHANGE)])) _
        refine XS.aload X25.here hx rfl (hb hby at_74) rfl rfl ?_
        show Steps p.tables e below (T25.setTop (mkF m 76 #[.val (.int i0), .val (.int i1), .val (.int (2 : Int32)), .val (.int (1 : Int32)), .val (.ref a_RIGHT_LANE_CHANGE), .val (.ref a_RIGHT), .val (.int (0 : Int32))] [(.ref a_RIGHT), (.ref a_RIGHT_LANE_CHANGE)])) _
        refine st26.trans ?_
        show Steps p.tables e below (T26.setTop (mkF m 79 #[.val (.int i0), .val (.int i1), .val (.int (2 : Int32)), .val (.int (1 : Int32)), .val (.ref a_RIGHT_LANE_CHANGE), .val (.ref a_RIGHT), .val (.int (0 : Int32))] [(.int (0 : Int32))])) _
        refine XS.iload X26.here hx rfl (hb hby at_79) rfl ?_
        show Steps p.tables e below (T26.setTop (mkF m 81 #[.val (.int i0), .val (.int i1), .val (.int (2 : Int32)), .val (.int (1 : Int32)), .val (.ref a_RIGHT_LANE_CHANGE), .val (.ref a_RIGHT), .val (.int (0 : Int32))] [(.int (0 : Int32)), (.int (0 : Int32))])) _
        refine XS.icmpNo X26.here hx rfl (hb hby at_81) rfl (by decide) ?_
        show Steps p.tables e below (T26.setTop (mkF m 84 #[.val (.int i0), .val (.int i1), .val (.int (2 : Int32)), .val (.int (1 : Int32)), .val (.ref a_RIGHT_LANE_CHANGE), .val (.ref a_RIGHT), .val (.int (0 : Int32))] [])) _
        refine XS.iconst X26.here hx rfl (hb hby at_84) ?_
        show Steps p.tables e below (T26.setTop (mkF m 85 #[.val (.int i0), .val (.int i1), .val (.int (2 : Int32)), .val (.int (1 : Int32)), .val (.ref a_RIGHT_LANE_CHANGE), .val (.ref a_RIGHT), .val (.int (0 : Int32))] [(.int (1 : Int32))])) _
        refine XS.goto X26.here hx rfl (pc0 := 85) (pc' := 89) rfl (hb hby at_85) (by decide) (by decide) ?_
        show Steps p.tables e below (T26.setTop (mkF m 89 #[.val (.int i0), .val (.int i1), .val (.int (2 : Int32)), .val (.int (1 : Int32)), .val (.ref a_RIGHT_LANE_CHANGE), .val (.ref a_RIGHT), .val (.int (0 : Int32))] [(.int (1 : Int32))])) _
        exact retN X26 hx (t := .boolean) Bd.returns (by simp) (hb hby at_89) hr
      · show QL n0 _ T26.heap _
        rw [hh26]
        exact ⟨rfl, N26⟩
  · skip
    have pre27 : ∀ t, Steps p.tables e below (s₁.setTop (mkF m 10 #[.val (.int i0), .val (.int i1), .val (.int (3 : Int32)), .unset, .unset, .unset, .unset] [(.int (i1 &&& (1 : Int32)))])) t → Steps p.tables e below (s₁.setTop (entryFrame m #[(.int i0), (.int i1)] maxLocals)) t := fun t kt => pre1 t (by
        show Steps p.tables e below (s₁.setTop (mkF m 6 #[.val (.int i0), .val (.int i1), .unset, .unset, .unset, .unset, .unset] [(.int ((i0 &&& (2147483647 : Int32)) % (5 : Int32)))])) _
        rw [hk2]
        show Steps p.tables e below (s₁.setTop (mkF m 6 #[.val (.int i0), .val (.int i1), .unset, .unset, .unset, .unset, .unset] [(.int (3 : Int32))])) _
        refine XS.istoreN X0.here hx rfl (hb hby at_6) rfl (l' := #[.val (.int i0), .val (.int i1), .val (.int (3 : Int32)), .unset, .unset, .unset, .unset]) rfl ?_
        show Steps p.tables e below (s₁.setTop (mkF m 7 #[.val (.int i0), .val (.int i1), .val (.int (3 : Int32)), .unset, .unset, .unset, .unset] [])) _
        refine XS.iloadN X0.here hx rfl (hb hby at_7) rfl ?_
        show Steps p.tables e below (s₁.setTop (mkF m 8 #[.val (.int i0), .val (.int i1), .val (.int (3 : Int32)), .unset, .unset, .unset, .unset] [(.int i1)])) _
        refine XS.iconst X0.here hx rfl (hb hby at_8) ?_
        show Steps p.tables e below (s₁.setTop (mkF m 9 #[.val (.int i0), .val (.int i1), .val (.int (3 : Int32)), .unset, .unset, .unset, .unset] [(.int (1 : Int32)), (.int i1)])) _
        refine XS.iand X0.here hx rfl (hb hby at_9) rfl ?_
        exact kt)
    rcases own_b i1 with hk28 | hk28
    · skip
      obtain ⟨_, _, ⟨T29, L29, k29, n29⟩, -, X29, ⟨Lc29, hQ29, l29, y29, z29⟩, st29⟩ := Jvm.LawKit.callS X0 hx (y := (⟨"com/example/roadwright/roadwright/road/ManoeuvreCanBeTakenInPinLaw", "pick", "(I)Lcom/example/roadwright/roadwright/road/Manoeuvre;"⟩ : MethodName)) hown (mvT hZ (hw _ (List.mem_of_getElem? (i := 1) rfl))) (mvT hZ (hw _ (List.mem_of_getElem? (i := 2) rfl))) (mvT hZ (hw _ (List.mem_of_getElem? (i := 3) rfl))) (mvT hZ (hw _ (List.mem_of_getElem? (i := 4) rfl))) (by decide) (backOf (W := 0) (rm_pick_10 l Z a0 hw [] a_LEFT_LANE_CHANGE a_RIGHT a_BRAKE a_DRIVE a_ACCELERATE a_LEFT a_RIGHT_LANE_CHANGE h0 n0 O0 En) hZ (hw _ (List.mem_of_getElem? (i := 4) rfl)) (hw _ (List.mem_of_getElem? (i := 3) rfl)) (by decide) (by decide)) (g := (mkF m 20 #[.val (.int i0), .val (.int i1), .val (.int (3 : Int32)), .val (.int (0 : Int32)), .unset, .unset, .unset] [(.int (3 : Int32))])) rfl (by rw [hml]; rfl) (argsL := [(.int (3 : Int32))]) (rest := []) (lenOf pd_0 rfl) rfl (by show 2 * 0 + _ ≤ _; exact Nat.le_of_eq rfl) (hb hby at_20) (fun _ _ => ⟨rfl, e0, (by decide : 0 + 0 ≤ _), (by decide : 0 + 0 ≤ _)⟩)
      dsimp only [Pt.U, Pt.locs, Pt.cells, Pt.slots] at X29 l29 y29 z29 st29 hQ29
      subst l29 y29 z29
      obtain ⟨rfl, N29q, hh29⟩ := hQ29
      have N29 := Fr.app N0 N29q
      obtain ⟨T30, X30, e30, st30⟩ := getS2 X29 hx hZ hown (host := "") (Or.inl (hw _ (List.mem_of_getElem? (i := 24) rfl))) Via.refl hh29 (Sta.ext O0.2 S_a_LEFT) (g := (mkF m 35 #[.val (.int i0), .val (.int i1), .val (.int (3 : Int32)), .val (.int (0 : Int32)), .val (.ref a_DRIVE), .unset, .unset] [])) rfl (hb hby at_35)
      obtain ⟨cq31, kq31, q31a, q31b, q31c⟩ := isOf hZ e30 (Exa.ext O0.2 X_a_DRIVE)
      obtain ⟨_, _, ⟨T31, L31, k31, n31⟩, -, X31, ⟨Lc31, hQ31, l31, y31, z31⟩, st31⟩ := X30.virtualBack hx (y := (⟨"com/example/roadwright/roadwright/road/Manoeuvre", "canBeTakenIn", "(Lcom/example/roadwright/roadwright/road/Lane;)Z"⟩ : MethodName)) (z := (⟨"com/example/roadwright/roadwright/road/Manoeuvre", "canBeTakenIn", "(Lcom/example/roadwright/roadwright/road/Lane;)Z"⟩ : MethodName)) hown (mvT hZ (hw _ (List.mem_of_getElem? (i := 11) rfl))) (mvT hZ (hw _ (List.mem_of_getElem? (i := 12) rfl))) (notFace_of_selects (args := #[]) (mvT hZ (hw _ (List.mem_of_getElem? (i := 14) rfl)))) (mvT hZ (hw _ (List.mem_of_getElem? (i := 14) rfl))) (mvT hZ (hw _ (List.mem_of_getElem? (i := 13) rfl))) (by decide) (backOf (W := 0) (rm_canBeTakenIn_11 l Z a0 hw [] a_LEFT_LANE_CHANGE a_RIGHT a_BRAKE a_DRIVE a_ACCELERATE a_LEFT a_RIGHT_LANE_CHANGE h0 n0 O0 En) hZ (hw _ (List.mem_of_getElem? (i := 15) rfl)) (hw _ (List.mem_of_getElem? (i := 6) rfl)) (by decide) (by decide)) q31a q31c (g := (mkF m 76 #[.val (.int i0), .val (.int i1), .val (.int (3 : Int32)), .val (.int (0 : Int32)), .val (.ref a_DRIVE), .val (.ref a_LEFT), .val (.int (1 : Int32))] [(.ref a_LEFT), (.ref a_DRIVE)])) rfl (by rw [hml]; rfl) (Steps.refl _) (argsL := [(.ref a_LEFT)]) (rest := []) (lenOf pd_1 rfl) rfl (by show 2 * 0 + _ ≤ _; exact Nat.le_of_eq rfl) (hb hby at_76) (fun _ _ => ⟨rfl, e30, (by decide : 0 + 0 ≤ _), (by decide : 0 + 0 ≤ _)⟩)
      dsimp only [Pt.U, Pt.locs, Pt.cells, Pt.slots] at X31 l31 y31 z31 st31 hQ31
      subst l31 y31 z31
      obtain ⟨rfl, N31q, hh31⟩ := hQ31
      have N31 := Fr.app N29 N31q
      obtain ⟨fs, hr, hrun, hended, hW, hsame⟩ := X31.leave (v := some (.int (1 : Int32))) (fun h => by rw [Bd.returns] at h; cases h)
      refine ⟨_, _, pre27 _ ?_, hrun, hended, _, _, rfl, ?_, ⟨_, rfl⟩, hW, hsame.mono (by decide) (by decide)⟩
      · skip
        show Steps p.tables e below (s₁.setTop (mkF m 10 #[.val (.int i0), .val (.int i1), .val (.int (3 : Int32)), .unset, .unset, .unset, .unset] [(.int (i1 &&& (1 : Int32)))])) _
        rw [hk28]
        show Steps p.tables e below (s₁.setTop (mkF m 10 #[.val (.int i0), .val (.int i1), .val (.int (3 : Int32)), .unset, .unset, .unset, .unset] [(.int (0 : Int32))])) _
        refine XS.ifYes X0.here hx rfl (pc0 := 10) (pc' := 17) rfl (hb hby at_10) rfl (by decide) (by decide) (by decide) ?_
        show Steps p.tables e below (s₁.setTop (mkF m 17 #[.val (.int i0), .val (.int i1), .val (.int (3 : Int32)), .unset, .unset, .unset, .unset] [])) _
        refine XS.iconst X0.here hx rfl (hb hby at_17) ?_
        show Steps p.tables e below (s₁.setTop (mkF m 18 #[.val (.int i0), .val (.int i1), .val (.int (3 : Int32)), .unset, .unset, .unset, .unset] [(.int (0 : Int32))])) _
        refine XS.istoreN X0.here hx rfl (hb hby at_18) rfl (l' := #[.val (.int i0), .val (.int i1), .val (.int (3 : Int32)), .val (.int (0 : Int32)), .unset, .unset, .unset]) rfl ?_
        show Steps p.tables e below (s₁.setTop (mkF m 19 #[.val (.int i0), .val (.int i1), .val (.int (3 : Int32)), .val (.int (0 : Int32)), .unset, .unset, .unset] [])) _
        refine XS.iloadN X0.here hx rfl (hb hby at_19) rfl ?_
        show Steps p.tables e below (s₁.setTop (mkF m 20 #[.val (.int i0), .val (.int i1), .val (.int (3 : Int32)), .val (.int (0 : Int32)), .unset, .unset, .unset] [(.int (3 : Int32))])) _
        refine st29 _ ?_
        show Steps p.tables e below (T29.setTop (mkF m 23 #[.val (.int i0), .val (.int i1), .val (.int (3 : Int32)), .val (.int (0 : Int32)), .unset, .unset, .unset] [(.ref a_DRIVE)])) _
        refine XS.astore X29.here hx rfl (hb hby at_23) rfl rfl (l' := #[.val (.int i0), .val (.int i1), .val (.int (3 : Int32)), .val (.int (0 : Int32)), .val (.ref a_DRIVE), .unset, .unset]) rfl ?_
        show Steps p.tables e below (T29.setTop (mkF m 25 #[.val (.int i0), .val (.int i1), .val (.int (3 : Int32)), .val (.int (0 : Int32)), .val (.ref a_DRIVE), .unset, .unset] [])) _
        refine XS.iloadN X29.here hx rfl (hb hby at_25) rfl ?_
        show Steps p.tables e below (T29.setTop (mkF m 26 #[.val (.int i0), .val (.int i1), .val (.int (3 : Int32)), .val (.int (0 : Int32)), .val (.ref a_DRIVE), .unset, .unset] [(.int (0 : Int32))])) _
        refine XS.ifYes X29.here hx rfl (pc0 := 26) (pc' := 35) rfl (hb hby at_26) rfl (by decide) (by decide) (by decide) ?_
        show Steps p.tables e below (T29.setTop (mkF m 35 #[.val (.int i0), .val (.int i1), .val (.int (3 : Int32)), .val (.int (0 : Int32)), .val (.ref a_DRIVE), .unset, .unset] [])) _
        refine st30 _ ?_
        show Steps p.tables e below (T30.setTop (mkF m 38 #[.val (.int i0), .val (.int i1), .val (.int (3 : Int32)), .val (.int (0 : Int32)), .val (.ref a_DRIVE), .unset, .unset] [(.ref a_LEFT)])) _
        refine XS.astore X30.here hx rfl (hb hby at_38) rfl rfl (l' := #[.val (.int i0), .val (.int i1), .val (.int (3 : Int32)), .val (.int (0 : Int32)), .val (.ref a_DRIVE), .val (.ref a_LEFT), .unset]) rfl ?_
        show Steps p.tables e below (T30.setTop (mkF m 40 #[.val (.int i0), .val (.int i1), .val (.int (3 : Int32)), .val (.int (0 : Int32)), .val (.ref a_DRIVE), .val (.ref a_LEFT), .unset] [])) _
        refine XS.iloadN X30.here hx rfl (hb hby at_40) rfl ?_
        show Steps p.tables e below (T30.setTop (mkF m 41 #[.val (.int i0), .val (.int i1), .val (.int (3 : Int32)), .val (.int (0 : Int32)), .val (.ref a_DRIVE), .val (.ref a_LEFT), .unset] [(.int (3 : Int32))])) _
        refine XS.ifYes X30.here hx rfl (pc0 := 41) (pc' := 50) rfl (hb hby at_41) rfl (by decide) (by decide) (by decide) ?_
        show Steps p.tables e below (T30.setTop (mkF m 50 #[.val (.int i0), .val (.int i1), .val (.int (3 : Int32)), .val (.int (0 : Int32)), .val (.ref a_DRIVE), .val (.ref a_LEFT), .unset] [])) _
        refine XS.iloadN X30.here hx rfl (hb hby at_50) rfl ?_
        show Steps p.tables e below (T30.setTop (mkF m 51 #[.val (.int i0), .val (.int i1), .val (.int (3 : Int32)), .val (.int (0 : Int32)), .val (.ref a_DRIVE), .val (.ref a_LEFT), .unset] [(.int (3 : Int32))])) _
        refine XS.iconst X30.here hx rfl (hb hby at_51) ?_
        show Steps p.tables e below (T30.setTop (mkF m 52 #[.val (.int i0), .val (.int i1), .val (.int (3 : Int32)), .val (.int (0 : Int32)), .val (.ref a_DRIVE), .val (.ref a_LEFT), .unset] [(.int (2 : Int32)), (.int (3 : Int32))])) _
        refine XS.icmpYes X30.here hx rfl (pc0 := 52) (pc' := 69) rfl (hb hby at_52) rfl (by decide) (by decide) (by decide) ?_
        show Steps p.tables e below (T30.setTop (mkF m 69 #[.val (.int i0), .val (.int i1), .val (.int (3 : Int32)), .val (.int (0 : Int32)), .val (.ref a_DRIVE), .val (.ref a_LEFT), .unset] [])) _
        refine XS.iconst X30.here hx rfl (hb hby at_69) ?_
        show Steps p.tables e below (T30.setTop (mkF m 70 #[.val (.int i0), .val (.int i1), .val (.int (3 : Int32)), .val (.int (0 : Int32)), .val (.ref a_DRIVE), .val (.ref a_LEFT), .unset] [(.int (1 : Int32))])) _
        refine XS.istore X30.here hx rfl (hb hby at_70) rfl (l' := #[.val (.int i0), .val (.int i1), .val (.int (3 : Int32)), .val (.int (0 : Int32)), .val (.ref a_DRIVE), .val (.ref a_LEFT), .val (.int (1 : Int32))]) rfl ?_
        show Steps p.tables e below (T30.setTop (mkF m 72 #[.val (.int i0), .val (.int i1), .val (.int (3 : Int32)), .val (.int (0 : Int32)), .val (.ref a_DRIVE), .val (.ref a_LEFT), .val (.int (1 : Int32))] [])) _
        refine XS.aload X30.here hx rfl (hb hby at_72) rfl rfl ?_
        show Steps p.tables e below (T30.setTop (mkF m 74 #[.val (.int i0), .val (.int i1), .val (.int (3 : Int32)), .val (.int (0 : Int32)), .val (.ref a_DRIVE), .val (.ref a_LEFT), .val (.int (1 : Int32))] [(.ref a_DRIVE)])) _
        refine XS.aload X30.here hx rfl (hb hby at_74) rfl rfl ?_
        show Steps p.tables e below (T30.setTop (mkF m 76 #[.val (.int i0), .val (.int i1), .val (.int (3 : Int32)), .val (.int (0 : Int32)), .val (.ref a_DRIVE), .val (.ref a_LEFT), .val (.int (1 : Int32))] [(.ref a_LEFT), (.ref a_DRIVE)])) _
        refine st31.trans ?_
        show Steps p.tables e below (T31.setTop (mkF m 79 #[.val (.int i0), .val (.int i1), .val (.int (3 : Int32)), .val (.int (0 : Int32)), .val (.ref a_DRIVE), .val (.ref a_LEFT), .val (.int (1 : Int32))] [(.int (1 : Int32))])) _
        refine XS.iload X31.here hx rfl (hb hby at_79) rfl ?_
        show Steps p.tables e below (T31.setTop (mkF m 81 #[.val (.int i0), .val (.int i1), .val (.int (3 : Int32)), .val (.int (0 : Int32)), .val (.ref a_DRIVE), .val (.ref a_LEFT), .val (.int (1 : Int32))] [(.int (1 : Int32)), (.int (1 : Int32))])) _
        refine XS.icmpNo X31.here hx rfl (hb hby at_81) rfl (by decide) ?_
        show Steps p.tables e below (T31.setTop (mkF m 84 #[.val (.int i0), .val (.int i1), .val (.int (3 : Int32)), .val (.int (0 : Int32)), .val (.ref a_DRIVE), .val (.ref a_LEFT), .val (.int (1 : Int32))] [])) _
        refine XS.iconst X31.here hx rfl (hb hby at_84) ?_
        show Steps p.tables e below (T31.setTop (mkF m 85 #[.val (.int i0), .val (.int i1), .val (.int (3 : Int32)), .val (.int (0 : Int32)), .val (.ref a_DRIVE), .val (.ref a_LEFT), .val (.int (1 : Int32))] [(.int (1 : Int32))])) _
        refine XS.goto X31.here hx rfl (pc0 := 85) (pc' := 89) rfl (hb hby at_85) (by decide) (by decide) ?_
        show Steps p.tables e below (T31.setTop (mkF m 89 #[.val (.int i0), .val (.int i1), .val (.int (3 : Int32)), .val (.int (0 : Int32)), .val (.ref a_DRIVE), .val (.ref a_LEFT), .val (.int (1 : Int32))] [(.int (1 : Int32))])) _
        exact retN X31 hx (t := .boolean) Bd.returns (by simp) (hb hby at_89) hr
      · show QL n0 _ T31.heap _
        rw [hh31]
        exact ⟨rfl, N31⟩
    · skip
      obtain ⟨_, _, ⟨T32, L32, k32, n32⟩, -, X32, ⟨Lc32, hQ32, l32, y32, z32⟩, st32⟩ := Jvm.LawKit.callS X0 hx (y := (⟨"com/example/roadwright/roadwright/road/ManoeuvreCanBeTakenInPinLaw", "pick", "(I)Lcom/example/roadwright/roadwright/road/Manoeuvre;"⟩ : MethodName)) hown (mvT hZ (hw _ (List.mem_of_getElem? (i := 1) rfl))) (mvT hZ (hw _ (List.mem_of_getElem? (i := 2) rfl))) (mvT hZ (hw _ (List.mem_of_getElem? (i := 3) rfl))) (mvT hZ (hw _ (List.mem_of_getElem? (i := 4) rfl))) (by decide) (backOf (W := 0) (rm_pick_10 l Z a0 hw [] a_LEFT_LANE_CHANGE a_RIGHT a_BRAKE a_DRIVE a_ACCELERATE a_LEFT a_RIGHT_LANE_CHANGE h0 n0 O0 En) hZ (hw _ (List.mem_of_getElem? (i := 4) rfl)) (hw _ (List.mem_of_getElem? (i := 3) rfl)) (by decide) (by decide)) (g := (mkF m 20 #[.val (.int i0), .val (.int i1), .val (.int (3 : Int32)), .val (.int (1 : Int32)), .unset, .unset, .unset] [(.int (3 : Int32))])) rfl (by rw [hml]; rfl) (argsL := [(.int (3 : Int32))]) (rest := []) (lenOf pd_0 rfl) rfl (by show 2 * 0 + _ ≤ _; exact Nat.le_of_eq rfl) (hb hby at_20) (fun _ _ => ⟨rfl, e0, (by decide : 0 + 0 ≤ _), (by decide : 0 + 0 ≤ _)⟩)
      dsimp only [Pt.U, Pt.locs, Pt.cells, Pt.slots] at X32 l32 y32 z32 st32 hQ32
      subst l32 y32 z32
      obtain ⟨rfl, N32q, hh32⟩ := hQ32
      have N32 := Fr.app N0 N32q
      obtain ⟨T33, X33, e33, st33⟩ := getS2 X32 hx hZ hown (host := "") (Or.inl (hw _ (List.mem_of_getElem? (i := 8) rfl))) Via.refl hh32 (Sta.ext O0.2 S_a_RIGHT) (g := (mkF m 29 #[.val (.int i0), .val (.int i1), .val (.int (3 : Int32)), .val (.int (1 : Int32)), .val (.ref a_DRIVE), .unset, .unset] [])) rfl (hb hby at_29)
      obtain ⟨cq34, kq34, q34a, q34b, q34c⟩ := isOf hZ e33 (Exa.ext O0.2 X_a_DRIVE)
      obtain ⟨_, _, ⟨T34, L34, k34, n34⟩, -, X34, ⟨Lc34, hQ34, l34, y34, z34⟩, st34⟩ := X33.virtualBack hx (y := (⟨"com/example/roadwright/roadwright/road/Manoeuvre", "canBeTakenIn", "(Lcom/example/roadwright/roadwright/road/Lane;)Z"⟩ : MethodName)) (z := (⟨"com/example/roadwright/roadwright/road/Manoeuvre", "canBeTakenIn", "(Lcom/example/roadwright/roadwright/road/Lane;)Z"⟩ : MethodName)) hown (mvT hZ (hw _ (List.mem_of_getElem? (i := 11) rfl))) (mvT hZ (hw _ (List.mem_of_getElem? (i := 12) rfl))) (notFace_of_selects (args := #[]) (mvT hZ (hw _ (List.mem_of_getElem? (i := 14) rfl)))) (mvT hZ (hw _ (List.mem_of_getElem? (i := 14) rfl))) (mvT hZ (hw _ (List.mem_of_getElem? (i := 13) rfl))) (by decide) (backOf (W := 0) (rm_canBeTakenIn_12 l Z a0 hw [] a_LEFT_LANE_CHANGE a_RIGHT a_BRAKE a_DRIVE a_ACCELERATE a_LEFT a_RIGHT_LANE_CHANGE h0 n0 O0 En) hZ (hw _ (List.mem_of_getElem? (i := 15) rfl)) (hw _ (List.mem_of_getElem? (i := 6) rfl)) (by decide) (by decide)) q34a q34c (g := (mkF m 76 #[.val (.int i0), .val (.int i1), .val (.int (3 : Int32)), .val (.int (1 : Int32)), .val (.ref a_DRIVE), .val (.ref a_RIGHT), .val (.int (1 : Int32))] [(.ref a_RIGHT), (.ref a_DRIVE)])) rfl (by rw [hml]; rfl) (Steps.refl _) (argsL := [(.ref a_RIGHT)]) (rest := []) (lenOf pd_1 rfl) rfl (by show 2 * 0 + _ ≤ _; exact Nat.le_of_eq rfl) (hb hby at_76) (fun _ _ => ⟨rfl, e33, (by decide : 0 + 0 ≤ _), (by decide : 0 + 0 ≤ _)⟩)
      dsimp only [Pt.U, Pt.locs, Pt.cells, Pt.slots] at X34 l34 y34 z34 st34 hQ34
      subst l34 y34 z34
      obtain ⟨rfl, N34q, hh34⟩ := hQ34
      have N34 := Fr.app N32 N34q
      obtain ⟨fs, hr, hrun, hended, hW, hsame⟩ := X34.leave (v := some (.int (1 : Int32))) (fun h => by rw [Bd.returns] at h; cases h)
      refine ⟨_, _, pre27 _ ?_, hrun, hended, _, _, rfl, ?_, ⟨_, rfl⟩, hW, hsame.mono (by decide) (by decide)⟩
      · skip
        show Steps p.tables e below (s₁.setTop (mkF m 10 #[.val (.int i0), .val (.int i1), .val (.int (3 : Int32)), .unset, .unset, .unset, .unset] [(.int (i1 &&& (1 : Int32)))])) _
        rw [hk28]
        show Steps p.tables e below (s₁.setTop (mkF m 10 #[.val (.int i0), .val (.int i1), .val (.int (3 : Int32)), .unset, .unset, .unset, .unset] [(.int (1 : Int32))])) _
        refine XS.ifNo X0.here hx rfl (hb hby at_10) rfl (by decide) ?_
        show Steps p.tables e below (s₁.setTop (mkF m 13 #[.val (.int i0), .val (.int i1), .val (.int (3 : Int32)), .unset, .unset, .unset, .unset] [])) _
        refine XS.iconst X0.here hx rfl (hb hby at_13) ?_
        show Steps p.tables e below (s₁.setTop (mkF m 14 #[.val (.int i0), .val (.int i1), .val (.int (3 : Int32)), .unset, .unset, .unset, .unset] [(.int (1 : Int32))])) _
        refine XS.goto X0.here hx rfl (pc0 := 14) (pc' := 18) rfl (hb hby at_14) (by decide) (by decide) ?_
        show Steps p.tables e below (s₁.setTop (mkF m 18 #[.val (.int i0), .val (.int i1), .val (.int (3 : Int32)), .unset, .unset, .unset, .unset] [(.int (1 : Int32))])) _
        refine XS.istoreN X0.here hx rfl (hb hby at_18) rfl (l' := #[.val (.int i0), .val (.int i1), .val (.int (3 : Int32)), .val (.int (1 : Int32)), .unset, .unset, .unset]) rfl ?_
        show Steps p.tables e below (s₁.setTop (mkF m 19 #[.val (.int i0), .val (.int i1), .val (.int (3 : Int32)), .val (.int (1 : Int32)), .unset, .unset, .unset] [])) _
        refine XS.iloadN X0.here hx rfl (hb hby at_19) rfl ?_
        show Steps p.tables e below (s₁.setTop (mkF m 20 #[.val (.int i0), .val (.int i1), .val (.int (3 : Int32)), .val (.int (1 : Int32)), .unset, .unset, .unset] [(.int (3 : Int32))])) _
        refine st32 _ ?_
        show Steps p.tables e below (T32.setTop (mkF m 23 #[.val (.int i0), .val (.int i1), .val (.int (3 : Int32)), .val (.int (1 : Int32)), .unset, .unset, .unset] [(.ref a_DRIVE)])) _
        refine XS.astore X32.here hx rfl (hb hby at_23) rfl rfl (l' := #[.val (.int i0), .val (.int i1), .val (.int (3 : Int32)), .val (.int (1 : Int32)), .val (.ref a_DRIVE), .unset, .unset]) rfl ?_
        show Steps p.tables e below (T32.setTop (mkF m 25 #[.val (.int i0), .val (.int i1), .val (.int (3 : Int32)), .val (.int (1 : Int32)), .val (.ref a_DRIVE), .unset, .unset] [])) _
        refine XS.iloadN X32.here hx rfl (hb hby at_25) rfl ?_
        show Steps p.tables e below (T32.setTop (mkF m 26 #[.val (.int i0), .val (.int i1), .val (.int (3 : Int32)), .val (.int (1 : Int32)), .val (.ref a_DRIVE), .unset, .unset] [(.int (1 : Int32))])) _
        refine XS.ifNo X32.here hx rfl (hb hby at_26) rfl (by decide) ?_
        show Steps p.tables e below (T32.setTop (mkF m 29 #[.val (.int i0), .val (.int i1), .val (.int (3 : Int32)), .val (.int (1 : Int32)), .val (.ref a_DRIVE), .unset, .unset] [])) _
        refine st33 _ ?_
        show Steps p.tables e below (T33.setTop (mkF m 32 #[.val (.int i0), .val (.int i1), .val (.int (3 : Int32)), .val (.int (1 : Int32)), .val (.ref a_DRIVE), .unset, .unset] [(.ref a_RIGHT)])) _
        refine XS.goto X33.here hx rfl (pc0 := 32) (pc' := 38) rfl (hb hby at_32) (by decide) (by decide) ?_
        show Steps p.tables e below (T33.setTop (mkF m 38 #[.val (.int i0), .val (.int i1), .val (.int (3 : Int32)), .val (.int (1 : Int32)), .val (.ref a_DRIVE), .unset, .unset] [(.ref a_RIGHT)])) _
        refine XS.astore X33.here hx rfl (hb hby at_38) rfl rfl (l' := #[.val (.int i0), .val (.int i1), .val (.int (3 : Int32)), .val (.int (1 : Int32)), .val (.ref a_DRIVE), .val (.ref a_RIGHT), .unset]) rfl ?_
        show Steps p.tables e below (T33.setTop (mkF m 40 #[.val (.int i0), .val (.int i1), .val (.int (3 : Int32)), .val (.int (1 : Int32)), .val (.ref a_DRIVE), .val (.ref a_RIGHT), .unset] [])) _
        refine XS.iloadN X33.here hx rfl (hb hby at_40) rfl ?_
        show Steps p.tables e below (T33.setTop (mkF m 41 #[.val (.int i0), .val (.int i1), .val (.int (3 : Int32)), .val (.int (1 : Int32)), .val (.ref a_DRIVE), .val (.ref a_RIGHT), .unset] [(.int (3 : Int32))])) _
        refine XS.ifYes X33.here hx rfl (pc0 := 41) (pc' := 50) rfl (hb hby at_41) rfl (by decide) (by decide) (by decide) ?_
        show Steps p.tables e below (T33.setTop (mkF m 50 #[.val (.int i0), .val (.int i1), .val (.int (3 : Int32)), .val (.int (1 : Int32)), .val (.ref a_DRIVE), .val (.ref a_RIGHT), .unset] [])) _
        refine XS.iloadN X33.here hx rfl (hb hby at_50) rfl ?_
        show Steps p.tables e below (T33.setTop (mkF m 51 #[.val (.int i0), .val (.int i1), .val (.int (3 : Int32)), .val (.int (1 : Int32)), .val (.ref a_DRIVE), .val (.ref a_RIGHT), .unset] [(.int (3 : Int32))])) _
        refine XS.iconst X33.here hx rfl (hb hby at_51) ?_
        show Steps p.tables e below (T33.setTop (mkF m 52 #[.val (.int i0), .val (.int i1), .val (.int (3 : Int32)), .val (.int (1 : Int32)), .val (.ref a_DRIVE), .val (.ref a_RIGHT), .unset] [(.int (2 : Int32)), (.int (3 : Int32))])) _
        refine XS.icmpYes X33.here hx rfl (pc0 := 52) (pc' := 69) rfl (hb hby at_52) rfl (by decide) (by decide) (by decide) ?_
        show Steps p.tables e below (T33.setTop (mkF m 69 #[.val (.int i0), .val (.int i1), .val (.int (3 : Int32)), .val (.int (1 : Int32)), .val (.ref a_DRIVE), .val (.ref a_RIGHT), .unset] [])) _
        refine XS.iconst X33.here hx rfl (hb hby at_69) ?_
        show Steps p.tables e below (T33.setTop (mkF m 70 #[.val (.int i0), .val (.int i1), .val (.int (3 : Int32)), .val (.int (1 : Int32)), .val (.ref a_DRIVE), .val (.ref a_RIGHT), .unset] [(.int (1 : Int32))])) _
        refine XS.istore X33.here hx rfl (hb hby at_70) rfl (l' := #[.val (.int i0), .val (.int i1), .val (.int (3 : Int32)), .val (.int (1 : Int32)), .val (.ref a_DRIVE), .val (.ref a_RIGHT), .val (.int (1 : Int32))]) rfl ?_
        show Steps p.tables e below (T33.setTop (mkF m 72 #[.val (.int i0), .val (.int i1), .val (.int (3 : Int32)), .val (.int (1 : Int32)), .val (.ref a_DRIVE), .val (.ref a_RIGHT), .val (.int (1 : Int32))] [])) _
        refine XS.aload X33.here hx rfl (hb hby at_72) rfl rfl ?_
        show Steps p.tables e below (T33.setTop (mkF m 74 #[.val (.int i0), .val (.int i1), .val (.int (3 : Int32)), .val (.int (1 : Int32)), .val (.ref a_DRIVE), .val (.ref a_RIGHT), .val (.int (1 : Int32))] [(.ref a_DRIVE)])) _
        refine XS.aload X33.here hx rfl (hb hby at_74) rfl rfl ?_
        show Steps p.tables e below (T33.setTop (mkF m 76 #[.val (.int i0), .val (.int i1), .val (.int (3 : Int32)), .val (.int (1 : Int32)), .val (.ref a_DRIVE), .val (.ref a_RIGHT), .val (.int (1 : Int32))] [(.ref a_RIGHT), (.ref a_DRIVE)])) _
        refine st34.trans ?_
        show Steps p.tables e below (T34.setTop (mkF m 79 #[.val (.int i0), .val (.int i1), .val (.int (3 : Int32)), .val (.int (1 : Int32)), .val (.ref a_DRIVE), .val (.ref a_RIGHT), .val (.int (1 : Int32))] [(.int (1 : Int32))])) _
        refine XS.iload X34.here hx rfl (hb hby at_79) rfl ?_
        show Steps p.tables e below (T34.setTop (mkF m 81 #[.val (.int i0), .val (.int i1), .val (.int (3 : Int32)), .val (.int (1 : Int32)), .val (.ref a_DRIVE), .val (.ref a_RIGHT), .val (.int (1 : Int32))] [(.int (1 : Int32)), (.int (1 : Int32))])) _
        refine XS.icmpNo X34.here hx rfl (hb hby at_81) rfl (by decide) ?_
        show Steps p.tables e below (T34.setTop (mkF m 84 #[.val (.int i0), .val (.int i1), .val (.int (3 : Int32)), .val (.int (1 : Int32)), .val (.ref a_DRIVE), .val (.ref a_RIGHT), .val (.int (1 : Int32))] [])) _
        refine XS.iconst X34.here hx rfl (hb hby at_84) ?_
        show Steps p.tables e below (T34.setTop (mkF m 85 #[.val (.int i0), .val (.int i1), .val (.int (3 : Int32)), .val (.int (1 : Int32)), .val (.ref a_DRIVE), .val (.ref a_RIGHT), .val (.int (1 : Int32))] [(.int (1 : Int32))])) _
        refine XS.goto X34.here hx rfl (pc0 := 85) (pc' := 89) rfl (hb hby at_85) (by decide) (by decide) ?_
        show Steps p.tables e below (T34.setTop (mkF m 89 #[.val (.int i0), .val (.int i1), .val (.int (3 : Int32)), .val (.int (1 : Int32)), .val (.ref a_DRIVE), .val (.ref a_RIGHT), .val (.int (1 : Int32))] [(.int (1 : Int32))])) _
        exact retN X34 hx (t := .boolean) Bd.returns (by simp) (hb hby at_89) hr
      · show QL n0 _ T34.heap _
        rw [hh34]
        exact ⟨rfl, N34⟩
  · skip
    have pre35 : ∀ t, Steps p.tables e below (s₁.setTop (mkF m 10 #[.val (.int i0), .val (.int i1), .val (.int (4 : Int32)), .unset, .unset, .unset, .unset] [(.int (i1 &&& (1 : Int32)))])) t → Steps p.tables e below (s₁.setTop (entryFrame m #[(.int i0), (.int i1)] maxLocals)) t := fun t kt => pre1 t (by
        show Steps p.tables e below (s₁.setTop (mkF m 6 #[.val (.int i0), .val (.int i1), .unset, .unset, .unset, .unset, .unset] [(.int ((i0 &&& (2147483647 : Int32)) % (5 : Int32)))])) _
        rw [hk2]
        show Steps p.tables e below (s₁.setTop (mkF m 6 #[.val (.int i0), .val (.int i1), .unset, .unset, .unset, .unset, .unset] [(.int (4 : Int32))])) _
        refine XS.istoreN X0.here hx rfl (hb hby at_6) rfl (l' := #[.val (.int i0), .val (.int i1), .val (.int (4 : Int32)), .unset, .unset, .unset, .unset]) rfl ?_
        show Steps p.tables e below (s₁.setTop (mkF m 7 #[.val (.int i0), .val (.int i1), .val (.int (4 : Int32)), .unset, .unset, .unset, .unset] [])) _
        refine XS.iloadN X0.here hx rfl (hb hby at_7) rfl ?_
        show Steps p.tables e below (s₁.setTop (mkF m 8 #[.val (.int i0), .val (.int i1), .val (.int (4 : Int32)), .unset, .unset, .unset, .unset] [(.int i1)])) _
        refine XS.iconst X0.here hx rfl (hb hby at_8) ?_
        show Steps p.tables e below (s₁.setTop (mkF m 9 #[.val (.int i0), .val (.int i1), .val (.int (4 : Int32)), .unset, .unset, .unset, .unset] [(.int (1 : Int32)), (.int i1)])) _
        refine XS.iand X0.here hx rfl (hb hby at_9) rfl ?_
        exact kt)
    rcases own_b i1 with hk36 | hk36
    · skip
      obtain ⟨_, _, ⟨T37, L37, k37, n37⟩, -, X37, ⟨Lc37, hQ37, l37, y37, z37⟩, st37⟩ := Jvm.LawKit.callS X0 hx (y := (⟨"com/example/roadwright/roadwright/road/ManoeuvreCanBeTakenInPinLaw", "pick", "(I)Lcom/example/roadwright/roadwright/road/Manoeuvre;"⟩ : MethodName)) hown (mvT hZ (hw _ (List.mem_of_getElem? (i := 1) rfl))) (mvT hZ (hw _ (List.mem_of_getElem? (i := 2) rfl))) (mvT hZ (hw _ (List.mem_of_getElem? (i := 3) rfl))) (mvT hZ (hw _ (List.mem_of_getElem? (i := 4) rfl))) (by decide) (backOf (W := 0) (rm_pick_13 l Z a0 hw [] a_LEFT_LANE_CHANGE a_RIGHT a_BRAKE a_DRIVE a_ACCELERATE a_LEFT a_RIGHT_LANE_CHANGE h0 n0 O0 En) hZ (hw _ (List.mem_of_getElem? (i := 4) rfl)) (hw _ (List.mem_of_getElem? (i := 3) rfl)) (by decide) (by decide)) (g := (mkF m 20 #[.val (.int i0), .val (.int i1), .val (.int (4 : Int32)), .val (.int (0 : Int32)), .unset, .unset, .unset] [(.int (4 : Int32))])) rfl (by rw [hml]; rfl) (argsL := [(.int (4 : Int32))]) (rest := []) (lenOf pd_0 rfl) rfl (by show 2 * 0 + _ ≤ _; exact Nat.le_of_eq rfl) (hb hby at_20) (fun _ _ => ⟨rfl, e0, (by decide : 0 + 0 ≤ _), (by decide : 0 + 0 ≤ _)⟩)
      dsimp only [Pt.U, Pt.locs, Pt.cells, Pt.slots] at X37 l37 y37 z37 st37 hQ37
      subst l37 y37 z37
      obtain ⟨rfl, N37q, hh37⟩ := hQ37
      have N37 := Fr.app N0 N37q
      obtain ⟨T38, X38, e38, st38⟩ := getS2 X37 hx hZ hown (host := "") (Or.inl (hw _ (List.mem_of_getElem? (i := 24) rfl))) Via.refl hh37 (Sta.ext O0.2 S_a_LEFT) (g := (mkF m 35 #[.val (.int i0), .val (.int i1), .val (.int (4 : Int32)), .val (.int (0 : Int32)), .val (.ref a_BRAKE), .unset, .unset] [])) rfl (hb hby at_35)
      obtain ⟨cq39, kq39, q39a, q39b, q39c⟩ := isOf hZ e38 (Exa.ext O0.2 X_a_BRAKE)
      obtain ⟨_, _, ⟨T39, L39, k39, n39⟩, -, X39, ⟨Lc39, hQ39, l39, y39, z39⟩, st39⟩ := X38.virtualBack hx (y := (⟨"com/example/roadwright/roadwright/road/Manoeuvre", "canBeTakenIn", "(Lcom/example/roadwright/roadwright/road/Lane;)Z"⟩ : MethodName)) (z := (⟨"com/example/roadwright/roadwright/road/Manoeuvre", "canBeTakenIn", "(Lcom/example/roadwright/roadwright/road/Lane;)Z"⟩ : MethodName)) hown (mvT hZ (hw _ (List.mem_of_getElem? (i := 11) rfl))) (mvT hZ (hw _ (List.mem_of_getElem? (i := 12) rfl))) (notFace_of_selects (args := #[]) (mvT hZ (hw _ (List.mem_of_getElem? (i := 14) rfl)))) (mvT hZ (hw _ (List.mem_of_getElem? (i := 14) rfl))) (mvT hZ (hw _ (List.mem_of_getElem? (i := 13) rfl))) (by decide) (backOf (W := 0) (rm_canBeTakenIn_14 l Z a0 hw [] a_LEFT_LANE_CHANGE a_RIGHT a_BRAKE a_DRIVE a_ACCELERATE a_LEFT a_RIGHT_LANE_CHANGE h0 n0 O0 En) hZ (hw _ (List.mem_of_getElem? (i := 15) rfl)) (hw _ (List.mem_of_getElem? (i := 6) rfl)) (by decide) (by decide)) q39a q39c (g := (mkF m 76 #[.val (.int i0), .val (.int i1), .val (.int (4 : Int32)), .val (.int (0 : Int32)), .val (.ref a_BRAKE), .val (.ref a_LEFT), .val (.int (1 : Int32))] [(.ref a_LEFT), (.ref a_BRAKE)])) rfl (by rw [hml]; rfl) (Steps.refl _) (argsL := [(.ref a_LEFT)]) (rest := []) (lenOf pd_1 rfl) rfl (by show 2 * 0 + _ ≤ _; exact Nat.le_of_eq rfl) (hb hby at_76) (fun _ _ => ⟨rfl, e38, (by decide : 0 + 0 ≤ _), (by decide : 0 + 0 ≤ _)⟩)
      dsimp only [Pt.U, Pt.locs, Pt.cells, Pt.slots] at X39 l39 y39 z39 st39 hQ39
      subst l39 y39 z39
      obtain ⟨rfl, N39q, hh39⟩ := hQ39
      have N39 := Fr.app N37 N39q
      obtain ⟨fs, hr, hrun, hended, hW, hsame⟩ := X39.leave (v := some (.int (1 : Int32))) (fun h => by rw [Bd.returns] at h; cases h)
      refine ⟨_, _, pre35 _ ?_, hrun, hended, _, _, rfl, ?_, ⟨_, rfl⟩, hW, hsame.mono (by decide) (by decide)⟩
      · skip
        show Steps p.tables e below (s₁.setTop (mkF m 10 #[.val (.int i0), .val (.int i1), .val (.int (4 : Int32)), .unset, .unset, .unset, .unset] [(.int (i1 &&& (1 : Int32)))])) _
        rw [hk36]
        show Steps p.tables e below (s₁.setTop (mkF m 10 #[.val (.int i0), .val (.int i1), .val (.int (4 : Int32)), .unset, .unset, .unset, .unset] [(.int (0 : Int32))])) _
        refine XS.ifYes X0.here hx rfl (pc0 := 10) (pc' := 17) rfl (hb hby at_10) rfl (by decide) (by decide) (by decide) ?_
        show Steps p.tables e below (s₁.setTop (mkF m 17 #[.val (.int i0), .val (.int i1), .val (.int (4 : Int32)), .unset, .unset, .unset, .unset] [])) _
        refine XS.iconst X0.here hx rfl (hb hby at_17) ?_
        show Steps p.tables e below (s₁.setTop (mkF m 18 #[.val (.int i0), .val (.int i1), .val (.int (4 : Int32)), .unset, .unset, .unset, .unset] [(.int (0 : Int32))])) _
        refine XS.istoreN X0.here hx rfl (hb hby at_18) rfl (l' := #[.val (.int i0), .val (.int i1), .val (.int (4 : Int32)), .val (.int (0 : Int32)), .unset, .unset, .unset]) rfl ?_
        show Steps p.tables e below (s₁.setTop (mkF m 19 #[.val (.int i0), .val (.int i1), .val (.int (4 : Int32)), .val (.int (0 : Int32)), .unset, .unset, .unset] [])) _
        refine XS.iloadN X0.here hx rfl (hb hby at_19) rfl ?_
        show Steps p.tables e below (s₁.setTop (mkF m 20 #[.val (.int i0), .val (.int i1), .val (.int (4 : Int32)), .val (.int (0 : Int32)), .unset, .unset, .unset] [(.int (4 : Int32))])) _
        refine st37 _ ?_
        show Steps p.tables e below (T37.setTop (mkF m 23 #[.val (.int i0), .val (.int i1), .val (.int (4 : Int32)), .val (.int (0 : Int32)), .unset, .unset, .unset] [(.ref a_BRAKE)])) _
        refine XS.astore X37.here hx rfl (hb hby at_23) rfl rfl (l' := #[.val (.int i0), .val (.int i1), .val (.int (4 : Int32)), .val (.int (0 : Int32)), .val (.ref a_BRAKE), .unset, .unset]) rfl ?_
        show Steps p.tables e below (T37.setTop (mkF m 25 #[.val (.int i0), .val (.int i1), .val (.int (4 : Int32)), .val (.int (0 : Int32)), .val (.ref a_BRAKE), .unset, .unset] [])) _
        refine XS.iloadN X37.here hx rfl (hb hby at_25) rfl ?_
        show Steps p.tables e below (T37.setTop (mkF m 26 #[.val (.int i0), .val (.int i1), .val (.int (4 : Int32)), .val (.int (0 : Int32)), .val (.ref a_BRAKE), .unset, .unset] [(.int (0 : Int32))])) _
        refine XS.ifYes X37.here hx rfl (pc0 := 26) (pc' := 35) rfl (hb hby at_26) rfl (by decide) (by decide) (by decide) ?_
        show Steps p.tables e below (T37.setTop (mkF m 35 #[.val (.int i0), .val (.int i1), .val (.int (4 : Int32)), .val (.int (0 : Int32)), .val (.ref a_BRAKE), .unset, .unset] [])) _
        refine st38 _ ?_
        show Steps p.tables e below (T38.setTop (mkF m 38 #[.val (.int i0), .val (.int i1), .val (.int (4 : Int32)), .val (.int (0 : Int32)), .val (.ref a_BRAKE), .unset, .unset] [(.ref a_LEFT)])) _
        refine XS.astore X38.here hx rfl (hb hby at_38) rfl rfl (l' := #[.val (.int i0), .val (.int i1), .val (.int (4 : Int32)), .val (.int (0 : Int32)), .val (.ref a_BRAKE), .val (.ref a_LEFT), .unset]) rfl ?_
        show Steps p.tables e below (T38.setTop (mkF m 40 #[.val (.int i0), .val (.int i1), .val (.int (4 : Int32)), .val (.int (0 : Int32)), .val (.ref a_BRAKE), .val (.ref a_LEFT), .unset] [])) _
        refine XS.iloadN X38.here hx rfl (hb hby at_40) rfl ?_
        show Steps p.tables e below (T38.setTop (mkF m 41 #[.val (.int i0), .val (.int i1), .val (.int (4 : Int32)), .val (.int (0 : Int32)), .val (.ref a_BRAKE), .val (.ref a_LEFT), .unset] [(.int (4 : Int32))])) _
        refine XS.ifYes X38.here hx rfl (pc0 := 41) (pc' := 50) rfl (hb hby at_41) rfl (by decide) (by decide) (by decide) ?_
        show Steps p.tables e below (T38.setTop (mkF m 50 #[.val (.int i0), .val (.int i1), .val (.int (4 : Int32)), .val (.int (0 : Int32)), .val (.ref a_BRAKE), .val (.ref a_LEFT), .unset] [])) _
        refine XS.iloadN X38.here hx rfl (hb hby at_50) rfl ?_
        show Steps p.tables e below (T38.setTop (mkF m 51 #[.val (.int i0), .val (.int i1), .val (.int (4 : Int32)), .val (.int (0 : Int32)), .val (.ref a_BRAKE), .val (.ref a_LEFT), .unset] [(.int (4 : Int32))])) _
        refine XS.iconst X38.here hx rfl (hb hby at_51) ?_
        show Steps p.tables e below (T38.setTop (mkF m 52 #[.val (.int i0), .val (.int i1), .val (.int (4 : Int32)), .val (.int (0 : Int32)), .val (.ref a_BRAKE), .val (.ref a_LEFT), .unset] [(.int (2 : Int32)), (.int (4 : Int32))])) _
        refine XS.icmpYes X38.here hx rfl (pc0 := 52) (pc' := 69) rfl (hb hby at_52) rfl (by decide) (by decide) (by decide) ?_
        show Steps p.tables e below (T38.setTop (mkF m 69 #[.val (.int i0), .val (.int i1), .val (.int (4 : Int32)), .val (.int (0 : Int32)), .val (.ref a_BRAKE), .val (.ref a_LEFT), .unset] [])) _
        refine XS.iconst X38.here hx rfl (hb hby at_69) ?_
        show Steps p.tables e below (T38.setTop (mkF m 70 #[.val (.int i0), .val (.int i1), .val (.int (4 : Int32)), .val (.int (0 : Int32)), .val (.ref a_BRAKE), .val (.ref a_LEFT), .unset] [(.int (1 : Int32))])) _
        refine XS.istore X38.here hx rfl (hb hby at_70) rfl (l' := #[.val (.int i0), .val (.int i1), .val (.int (4 : Int32)), .val (.int (0 : Int32)), .val (.ref a_BRAKE), .val (.ref a_LEFT), .val (.int (1 : Int32))]) rfl ?_
        show Steps p.tables e below (T38.setTop (mkF m 72 #[.val (.int i0), .val (.int i1), .val (.int (4 : Int32)), .val (.int (0 : Int32)), .val (.ref a_BRAKE), .val (.ref a_LEFT), .val (.int (1 : Int32))] [])) _
        refine XS.aload X38.here hx rfl (hb hby at_72) rfl rfl ?_
        show Steps p.tables e below (T38.setTop (mkF m 74 #[.val (.int i0), .val (.int i1), .val (.int (4 : Int32)), .val (.int (0 : Int32)), .val (.ref a_BRAKE), .val (.ref a_LEFT), .val (.int (1 : Int32))] [(.ref a_BRAKE)])) _
        refine XS.aload X38.here hx rfl (hb hby at_74) rfl rfl ?_
        show Steps p.tables e below (T38.setTop (mkF m 76 #[.val (.int i0), .val (.int i1), .val (.int (4 : Int32)), .val (.int (0 : Int32)), .val (.ref a_BRAKE), .val (.ref a_LEFT), .val (.int (1 : Int32))] [(.ref a_LEFT), (.ref a_BRAKE)])) _
        refine st39.trans ?_
        show Steps p.tables e below (T39.setTop (mkF m 79 #[.val (.int i0), .val (.int i1), .val (.int (4 : Int32)), .val (.int (0 : Int32)), .val (.ref a_BRAKE), .val (.ref a_LEFT), .val (.int (1 : Int32))] [(.int (1 : Int32))])) _
        refine XS.iload X39.here hx rfl (hb hby at_79) rfl ?_
        show Steps p.tables e below (T39.setTop (mkF m 81 #[.val (.int i0), .val (.int i1), .val (.int (4 : Int32)), .val (.int (0 : Int32)), .val (.ref a_BRAKE), .val (.ref a_LEFT), .val (.int (1 : Int32))] [(.int (1 : Int32)), (.int (1 : Int32))])) _
        refine XS.icmpNo X39.here hx rfl (hb hby at_81) rfl (by decide) ?_
        show Steps p.tables e below (T39.setTop (mkF m 84 #[.val (.int i0), .val (.int i1), .val (.int (4 : Int32)), .val (.int (0 : Int32)), .val (.ref a_BRAKE), .val (.ref a_LEFT), .val (.int (1 : Int32))] [])) _
        refine XS.iconst X39.here hx rfl (hb hby at_84) ?_
        show Steps p.tables e below (T39.setTop (mkF m 85 #[.val (.int i0), .val (.int i1), .val (.int (4 : Int32)), .val (.int (0 : Int32)), .val (.ref a_BRAKE), .val (.ref a_LEFT), .val (.int (1 : Int32))] [(.int (1 : Int32))])) _
        refine XS.goto X39.here hx rfl (pc0 := 85) (pc' := 89) rfl (hb hby at_85) (by decide) (by decide) ?_
        show Steps p.tables e below (T39.setTop (mkF m 89 #[.val (.int i0), .val (.int i1), .val (.int (4 : Int32)), .val (.int (0 : Int32)), .val (.ref a_BRAKE), .val (.ref a_LEFT), .val (.int (1 : Int32))] [(.int (1 : Int32))])) _
        exact retN X39 hx (t := .boolean) Bd.returns (by simp) (hb hby at_89) hr
      · show QL n0 _ T39.heap _
        rw [hh39]
        exact ⟨rfl, N39⟩
    · skip
      obtain ⟨_, _, ⟨T40, L40, k40, n40⟩, -, X40, ⟨Lc40, hQ40, l40, y40, z40⟩, st40⟩ := Jvm.LawKit.callS X0 hx (y := (⟨"com/example/roadwright/roadwright/road/ManoeuvreCanBeTakenInPinLaw", "pick", "(I)Lcom/example/roadwright/roadwright/road/Manoeuvre;"⟩ : MethodName)) hown (mvT hZ (hw _ (List.mem_of_getElem? (i := 1) rfl))) (mvT hZ (hw _ (List.mem_of_getElem? (i := 2) rfl))) (mvT hZ (hw _ (List.mem_of_getElem? (i := 3) rfl))) (mvT hZ (hw _ (List.mem_of_getElem? (i := 4) rfl))) (by decide) (backOf (W := 0) (rm_pick_13 l Z a0 hw [] a_LEFT_LANE_CHANGE a_RIGHT a_BRAKE a_DRIVE a_ACCELERATE a_LEFT a_RIGHT_LANE_CHANGE h0 n0 O0 En) hZ (hw _ (List.mem_of_getElem? (i := 4) rfl)) (hw _ (List.mem_of_getElem? (i := 3) rfl)) (by decide) (by decide)) (g := (mkF m 20 #[.val (.int i0), .val (.int i1), .val (.int (4 : Int32)), .val (.int (1 : Int32)), .unset, .unset, .unset] [(.int (4 : Int32))])) rfl (by rw [hml]; rfl) (argsL := [(.int (4 : Int32))]) (rest := []) (lenOf pd_0 rfl) rfl (by show 2 * 0 + _ ≤ _; exact Nat.le_of_eq rfl) (hb hby at_20) (fun _ _ => ⟨rfl, e0, (by decide : 0 + 0 ≤ _), (by decide : 0 + 0 ≤ _)⟩)
      dsimp only [Pt.U, Pt.locs, Pt.cells, Pt.slots] at X40 l40 y40 z40 st40 hQ40
      subst l40 y40 z40
      obtain ⟨rfl, N40q, hh40⟩ := hQ40
      have N40 := Fr.app N0 N40q
      obtain ⟨T41, X41, e41, st41⟩ := getS2 X40 hx hZ hown (host := "") (Or.inl (hw _ (List.mem_of_getElem? (i := 8) rfl))) Via.refl hh40 (Sta.ext O0.2 S_a_RIGHT) (g := (mkF m 29 #[.val (.int i0), .val (.int i1), .val (.int (4 : Int32)), .val (.int (1 : Int32)), .val (.ref a_BRAKE), .unset, .unset] [])) rfl (hb hby at_29)
      obtain ⟨cq42, kq42, q42a, q42b, q42c⟩ := isOf hZ e41 (Exa.ext O0.2 X_a_BRAKE)
      obtain ⟨_, _, ⟨T42, L42, k42, n42⟩, -, X42, ⟨Lc42, hQ42, l42, y42, z42⟩, st42⟩ := X41.virtualBack hx (y := (⟨"com/example/roadwright/roadwright/road/Manoeuvre", "canBeTakenIn", "(Lcom/example/roadwright/roadwright/road/Lane;)Z"⟩ : MethodName)) (z := (⟨"com/example/roadwright/roadwright/road/Manoeuvre", "canBeTakenIn", "(Lcom/example/roadwright/roadwright/road/Lane;)Z"⟩ : MethodName)) hown (mvT hZ (hw _ (List.mem_of_getElem? (i := 11) rfl))) (mvT hZ (hw _ (List.mem_of_getElem? (i := 12) rfl))) (notFace_of_selects (args := #[]) (mvT hZ (hw _ (List.mem_of_getElem? (i := 14) rfl)))) (mvT hZ (hw _ (List.mem_of_getElem? (i := 14) rfl))) (mvT hZ (hw _ (List.mem_of_getElem? (i := 13) rfl))) (by decide) (backOf (W := 0) (rm_canBeTakenIn_15 l Z a0 hw [] a_LEFT_LANE_CHANGE a_RIGHT a_BRAKE a_DRIVE a_ACCELERATE a_LEFT a_RIGHT_LANE_CHANGE h0 n0 O0 En) hZ (hw _ (List.mem_of_getElem? (i := 15) rfl)) (hw _ (List.mem_of_getElem? (i := 6) rfl)) (by decide) (by decide)) q42a q42c (g := (mkF m 76 #[.val (.int i0), .val (.int i1), .val (.int (4 : Int32)), .val (.int (1 : Int32)), .val (.ref a_BRAKE), .val (.ref a_RIGHT), .val (.int (1 : Int32))] [(.ref a_RIGHT), (.ref a_BRAKE)])) rfl (by rw [hml]; rfl) (Steps.refl _) (argsL := [(.ref a_RIGHT)]) (rest := []) (lenOf pd_1 rfl) rfl (by show 2 * 0 + _ ≤ _; exact Nat.le_of_eq rfl) (hb hby at_76) (fun _ _ => ⟨rfl, e41, (by decide : 0 + 0 ≤ _), (by decide : 0 + 0 ≤ _)⟩)
      dsimp only [Pt.U, Pt.locs, Pt.cells, Pt.slots] at X42 l42 y42 z42 st42 hQ42
      subst l42 y42 z42
      obtain ⟨rfl, N42q, hh42⟩ := hQ42
      have N42 := Fr.app N40 N42q
      obtain ⟨fs, hr, hrun, hended, hW, hsame⟩ := X42.leave (v := some (.int (1 : Int32))) (fun h => by rw [Bd.returns] at h; cases h)
      refine ⟨_, _, pre35 _ ?_, hrun, hended, _, _, rfl, ?_, ⟨_, rfl⟩, hW, hsame.mono (by decide) (by decide)⟩
      · skip
        show Steps p.tables e below (s₁.setTop (mkF m 10 #[.val (.int i0), .val (.int i1), .val (.int (4 : Int32)), .unset, .unset, .unset, .unset] [(.int (i1 &&& (1 : Int32)))])) _
        rw [hk36]
        show Steps p.tables e below (s₁.setTop (mkF m 10 #[.val (.int i0), .val (.int i1), .val (.int (4 : Int32)), .unset, .unset, .unset, .unset] [(.int (1 : Int32))])) _
        refine XS.ifNo X0.here hx rfl (hb hby at_10) rfl (by decide) ?_
        show Steps p.tables e below (s₁.setTop (mkF m 13 #[.val (.int i0), .val (.int i1), .val (.int (4 : Int32)), .unset, .unset, .unset, .unset] [])) _
        refine XS.iconst X0.here hx rfl (hb hby at_13) ?_
        show Steps p.tables e below (s₁.setTop (mkF m 14 #[.val (.int i0), .val (.int i1), .val (.int (4 : Int32)), .unset, .unset, .unset, .unset] [(.int (1 : Int32))])) _
        refine XS.goto X0.here hx rfl (pc0 := 14) (pc' := 18) rfl (hb hby at_14) (by decide) (by decide) ?_
        show Steps p.tables e below (s₁.setTop (mkF m 18 #[.val (.int i0), .val (.int i1), .val (.int (4 : Int32)), .unset, .unset, .unset, .unset] [(.int (1 : Int32))])) _
        refine XS.istoreN X0.here hx rfl (hb hby at_18) rfl (l' := #[.val (.int i0), .val (.int i1), .val (.int (4 : Int32)), .val (.int (1 : Int32)), .unset, .unset, .unset]) rfl ?_
        show Steps p.tables e below (s₁.setTop (mkF m 19 #[.val (.int i0), .val (.int i1), .val (.int (4 : Int32)), .val (.int (1 : Int32)), .unset, .unset, .unset] [])) _
        refine XS.iloadN X0.here hx rfl (hb hby at_19) rfl ?_
        show Steps p.tables e below (s₁.setTop (mkF m 20 #[.val (.int i0), .val (.int i1), .val (.int (4 : Int32)), .val (.int (1 : Int32)), .unset, .unset, .unset] [(.int (4 : Int32))])) _
        refine st40 _ ?_
        show Steps p.tables e below (T40.setTop (mkF m 23 #[.val (.int i0), .val (.int i1), .val (.int (4 : Int32)), .val (.int (1 : Int32)), .unset, .unset, .unset] [(.ref a_BRAKE)])) _
        refine XS.astore X40.here hx rfl (hb hby at_23) rfl rfl (l' := #[.val (.int i0), .val (.int i1), .val (.int (4 : Int32)), .val (.int (1 : Int32)), .val (.ref a_BRAKE), .unset, .unset]) rfl ?_
        show Steps p.tables e below (T40.setTop (mkF m 25 #[.val (.int i0), .val (.int i1), .val (.int (4 : Int32)), .val (.int (1 : Int32)), .val (.ref a_BRAKE), .unset, .unset] [])) _
        refine XS.iloadN X40.here hx rfl (hb hby at_25) rfl ?_
        show Steps p.tables e below (T40.setTop (mkF m 26 #[.val (.int i0), .val (.int i1), .val (.int (4 : Int32)), .val (.int (1 : Int32)), .val (.ref a_BRAKE), .unset, .unset] [(.int (1 : Int32))])) _
        refine XS.ifNo X40.here hx rfl (hb hby at_26) rfl (by decide) ?_
        show Steps p.tables e below (T40.setTop (mkF m 29 #[.val (.int i0), .val (.int i1), .val (.int (4 : Int32)), .val (.int (1 : Int32)), .val (.ref a_BRAKE), .unset, .unset] [])) _
        refine st41 _ ?_
        show Steps p.tables e below (T41.setTop (mkF m 32 #[.val (.int i0), .val (.int i1), .val (.int (4 : Int32)), .val (.int (1 : Int32)), .val (.ref a_BRAKE), .unset, .unset] [(.ref a_RIGHT)])) _
        refine XS.goto X41.here hx rfl (pc0 := 32) (pc' := 38) rfl (hb hby at_32) (by decide) (by decide) ?_
        show Steps p.tables e below (T41.setTop (mkF m 38 #[.val (.int i0), .val (.int i1), .val (.int (4 : Int32)), .val (.int (1 : Int32)), .val (.ref a_BRAKE), .unset, .unset] [(.ref a_RIGHT)])) _
        refine XS.astore X41.here hx rfl (hb hby at_38) rfl rfl (l' := #[.val (.int i0), .val (.int i1), .val (.int (4 : Int32)), .val (.int (1 : Int32)), .val (.ref a_BRAKE), .val (.ref a_RIGHT), .unset]) rfl ?_
        show Steps p.tables e below (T41.setTop (mkF m 40 #[.val (.int i0), .val (.int i1), .val (.int (4 : Int32)), .val (.int (1 : Int32)), .val (.ref a_BRAKE), .val (.ref a_RIGHT), .unset] [])) _
        refine XS.iloadN X41.here hx rfl (hb hby at_40) rfl ?_
        show Steps p.tables e below (T41.setTop (mkF m 41 #[.val (.int i0), .val (.int i1), .val (.int (4 : Int32)), .val (.int (1 : Int32)), .val (.ref a_BRAKE), .val (.ref a_RIGHT), .unset] [(.int (4 : Int32))])) _
        refine XS.ifYes X41.here hx rfl (pc0 := 41) (pc' := 50) rfl (hb hby at_41) rfl (by decide) (by decide) (by decide) ?_
        show Steps p.tables e below (T41.setTop (mkF m 50 #[.val (.int i0), .val (.int i1), .val (.int (4 : Int32)), .val (.int (1 : Int32)), .val (.ref a_BRAKE), .val (.ref a_RIGHT), .unset] [])) _
        refine XS.iloadN X41.here hx rfl (hb hby at_50) rfl ?_
        show Steps p.tables e below (T41.setTop (mkF m 51 #[.val (.int i0), .val (.int i1), .val (.int (4 : Int32)), .val (.int (1 : Int32)), .val (.ref a_BRAKE), .val (.ref a_RIGHT), .unset] [(.int (4 : Int32))])) _
        refine XS.iconst X41.here hx rfl (hb hby at_51) ?_
        show Steps p.tables e below (T41.setTop (mkF m 52 #[.val (.int i0), .val (.int i1), .val (.int (4 : Int32)), .val (.int (1 : Int32)), .val (.ref a_BRAKE), .val (.ref a_RIGHT), .unset] [(.int (2 : Int32)), (.int (4 : Int32))])) _
        refine XS.icmpYes X41.here hx rfl (pc0 := 52) (pc' := 69) rfl (hb hby at_52) rfl (by decide) (by decide) (by decide) ?_
        show Steps p.tables e below (T41.setTop (mkF m 69 #[.val (.int i0), .val (.int i1), .val (.int (4 : Int32)), .val (.int (1 : Int32)), .val (.ref a_BRAKE), .val (.ref a_RIGHT), .unset] [])) _
        refine XS.iconst X41.here hx rfl (hb hby at_69) ?_
        show Steps p.tables e below (T41.setTop (mkF m 70 #[.val (.int i0), .val (.int i1), .val (.int (4 : Int32)), .val (.int (1 : Int32)), .val (.ref a_BRAKE), .val (.ref a_RIGHT), .unset] [(.int (1 : Int32))])) _
        refine XS.istore X41.here hx rfl (hb hby at_70) rfl (l' := #[.val (.int i0), .val (.int i1), .val (.int (4 : Int32)), .val (.int (1 : Int32)), .val (.ref a_BRAKE), .val (.ref a_RIGHT), .val (.int (1 : Int32))]) rfl ?_
        show Steps p.tables e below (T41.setTop (mkF m 72 #[.val (.int i0), .val (.int i1), .val (.int (4 : Int32)), .val (.int (1 : Int32)), .val (.ref a_BRAKE), .val (.ref a_RIGHT), .val (.int (1 : Int32))] [])) _
        refine XS.aload X41.here hx rfl (hb hby at_72) rfl rfl ?_
        show Steps p.tables e below (T41.setTop (mkF m 74 #[.val (.int i0), .val (.int i1), .val (.int (4 : Int32)), .val (.int (1 : Int32)), .val (.ref a_BRAKE), .val (.ref a_RIGHT), .val (.int (1 : Int32))] [(.ref a_BRAKE)])) _
        refine XS.aload X41.here hx rfl (hb hby at_74) rfl rfl ?_
        show Steps p.tables e below (T41.setTop (mkF m 76 #[.val (.int i0), .val (.int i1), .val (.int (4 : Int32)), .val (.int (1 : Int32)), .val (.ref a_BRAKE), .val (.ref a_RIGHT), .val (.int (1 : Int32))] [(.ref a_RIGHT), (.ref a_BRAKE)])) _
        refine st42.trans ?_
        show Steps p.tables e below (T42.setTop (mkF m 79 #[.val (.int i0), .val (.int i1), .val (.int (4 : Int32)), .val (.int (1 : Int32)), .val (.ref a_BRAKE), .val (.ref a_RIGHT), .val (.int (1 : Int32))] [(.int (1 : Int32))])) _
        refine XS.iload X42.here hx rfl (hb hby at_79) rfl ?_
        show Steps p.tables e below (T42.setTop (mkF m 81 #[.val (.int i0), .val (.int i1), .val (.int (4 : Int32)), .val (.int (1 : Int32)), .val (.ref a_BRAKE), .val (.ref a_RIGHT), .val (.int (1 : Int32))] [(.int (1 : Int32)), (.int (1 : Int32))])) _
        refine XS.icmpNo X42.here hx rfl (hb hby at_81) rfl (by decide) ?_
        show Steps p.tables e below (T42.setTop (mkF m 84 #[.val (.int i0), .val (.int i1), .val (.int (4 : Int32)), .val (.int (1 : Int32)), .val (.ref a_BRAKE), .val (.ref a_RIGHT), .val (.int (1 : Int32))] [])) _
        refine XS.iconst X42.here hx rfl (hb hby at_84) ?_
        show Steps p.tables e below (T42.setTop (mkF m 85 #[.val (.int i0), .val (.int i1), .val (.int (4 : Int32)), .val (.int (1 : Int32)), .val (.ref a_BRAKE), .val (.ref a_RIGHT), .val (.int (1 : Int32))] [(.int (1 : Int32))])) _
        refine XS.goto X42.here hx rfl (pc0 := 85) (pc' := 89) rfl (hb hby at_85) (by decide) (by decide) ?_
        show Steps p.tables e below (T42.setTop (mkF m 89 #[.val (.int i0), .val (.int i1), .val (.int (4 : Int32)), .val (.int (1 : Int32)), .val (.ref a_BRAKE), .val (.ref a_RIGHT), .val (.int (1 : Int32))] [(.int (1 : Int32))])) _
        exact retN X42 hx (t := .boolean) Bd.returns (by simp) (hb hby at_89) hr
      · show QL n0 _ T42.heap _
        rw [hh42]
        exact ⟨rfl, N42⟩
set_option maxRecDepth 65536 in
set_option maxHeartbeats 40000000 in
theorem comes_1 {Post : Tables → Env → Array Value → State → Outcome → State → Prop} (hpost : ∀ tb e args s v u, (limb_1_1.after args s (.returned v) u = true ∧ limb_1_2.after args s (.returned v) u = true ∧ True) → FrameEnd s (.returned v) u (Jvm.fieldLocs frame_1_writes args s ++ Jvm.arrayLocs frame_1_arrays args s ++ Jvm.staticLocs frame_1_statics s) 0 0 → Post tb e args s (.returned v) u) :
    ArmFor flags0 classFile x code maxLocals ret World_1 tables_1 room_1 Calls_1 rest_1 Pre_1 Post := by
  intro l hfl _ _ p e ha hc hk s m args below hf hA hF happ hP
  obtain ⟨hcalls, hrest, hpre⟩ := hP
  obtain ⟨-, -, -, hnamed, -, -, -, hat⟩ := (Spec.applies_iff hf).mp happ
  obtain ⟨hg, hn⟩ := and_e (Cond.before_iff.mp (show (Jvm.Cond.and given_1 narrow_1).before args s = true from hpre))
  obtain ⟨g0, r0⟩ := and_e hg
  obtain ⟨g1, r1⟩ := and_e r0
  obtain ⟨w0, w1, rfl⟩ : ∃ w0 w1 : Value, args = #[w0, w1] := by
    have hs : args.size = 2 := by simpa [Cond.value, given_1] using g0
    obtain ⟨L⟩ := args
    match L, hs with
    | [w0, w1], _ => exact ⟨w0, w1, rfl⟩
  have hw := fun d (hd : d ∈ tables_1) => atoms_spec (ws := Jvm.Cond.code x code maxLocals ret :: tables_1) hat d (List.mem_cons_of_mem _ hd)
  have hfit : Fit s := fun {y c} hc i hi => by
    obtain ⟨ha, rfl⟩ := Array.getElem?_eq_some_iff.mp hc
    have q := List.all_eq_true.mp ((Array.all_eq_true_iff_forall_mem.mp hF) _ (Array.getElem_mem ha)) i (List.mem_range.mpr hi)
    simpa [Array.getElem?_eq_getElem hi] using q
  obtain ⟨i0, ei0⟩ := is_v g1
  obtain rfl : w0 = (.int i0) := Option.some.inj ei0
  obtain ⟨i1, ei1⟩ := is_v r1
  obtain rfl : w1 = (.int i1) := Option.some.inj ei1
  obtain ⟨n0, m0⟩ := and_e hn
  obtain ⟨a_LEFT_LANE_CHANGE, ev_a_LEFT_LANE_CHANGE⟩ := exa_v n0
  have X_a_LEFT_LANE_CHANGE := Exa.start ev_a_LEFT_LANE_CHANGE n0
  have S_a_LEFT_LANE_CHANGE := Sta.start ev_a_LEFT_LANE_CHANGE (Or.inr ⟨(hw _ (List.mem_of_getElem? (i := 6) rfl)), (hw _ (List.mem_of_getElem? (i := 7) rfl))⟩)
  obtain ⟨n1, m1⟩ := and_e m0
  obtain ⟨a_RIGHT, ev_a_RIGHT⟩ := exa_v n1
  have X_a_RIGHT := Exa.start ev_a_RIGHT n1
  have S_a_RIGHT := Sta.start ev_a_RIGHT (Or.inr ⟨(hw _ (List.mem_of_getElem? (i := 9) rfl)), (hw _ (List.mem_of_getElem? (i := 10) rfl))⟩)
  obtain ⟨n2, m2⟩ := and_e m1
  have F_a_LEFT_LANE_CHANGE_changedFrom := own_fldR ev_a_LEFT_LANE_CHANGE ev_a_RIGHT n2
  obtain ⟨n3, m3⟩ := and_e m2
  obtain ⟨a_BRAKE, ev_a_BRAKE⟩ := exa_v n3
  have X_a_BRAKE := Exa.start ev_a_BRAKE n3
  have S_a_BRAKE := Sta.start ev_a_BRAKE (Or.inr ⟨(hw _ (List.mem_of_getElem? (i := 6) rfl)), (hw _ (List.mem_of_getElem? (i := 19) rfl))⟩)
  obtain ⟨n4, m4⟩ := and_e m3
  have F_a_BRAKE_changedFrom := own_fldN ev_a_BRAKE n4
  obtain ⟨n5, m5⟩ := and_e m4
  obtain ⟨a_DRIVE, ev_a_DRIVE⟩ := exa_v n5
  have X_a_DRIVE := Exa.start ev_a_DRIVE n5
  have S_a_DRIVE := Sta.start ev_a_DRIVE (Or.inr ⟨(hw _ (List.mem_of_getElem? (i := 6) rfl)), (hw _ (List.mem_of_getElem? (i := 21) rfl))⟩)
  obtain ⟨n6, m6⟩ := and_e m5
  have F_a_DRIVE_changedFrom := own_fldN ev_a_DRIVE n6
  obtain ⟨n7, m7⟩ := and_e m6
  obtain ⟨a_ACCELERATE, ev_a_ACCELERATE⟩ := exa_v n7
  have X_a_ACCELERATE := Exa.start ev_a_ACCELERATE n7
  have S_a_ACCELERATE := Sta.start ev_a_ACCELERATE (Or.inr ⟨(hw _ (List.mem_of_getElem? (i := 6) rfl)), (hw _ (List.mem_of_getElem? (i := 23) rfl))⟩)
  obtain ⟨n8, m8⟩ := and_e m7
  obtain ⟨a_LEFT, ev_a_LEFT⟩ := exa_v n8
  have X_a_LEFT := Exa.start ev_a_LEFT n8
  have S_a_LEFT := Sta.start ev_a_LEFT (Or.inr ⟨(hw _ (List.mem_of_getElem? (i := 9) rfl)), (hw _ (List.mem_of_getElem? (i := 25) rfl))⟩)
  obtain ⟨n9, m9⟩ := and_e m8
  have F_a_ACCELERATE_changedFrom := own_fldN ev_a_ACCELERATE n9
  obtain ⟨n10, m10⟩ := and_e m9
  obtain ⟨a_RIGHT_LANE_CHANGE, ev_a_RIGHT_LANE_CHANGE⟩ := exa_v n10
  have X_a_RIGHT_LANE_CHANGE := Exa.start ev_a_RIGHT_LANE_CHANGE n10
  have S_a_RIGHT_LANE_CHANGE := Sta.start ev_a_RIGHT_LANE_CHANGE (Or.inr ⟨(hw _ (List.mem_of_getElem? (i := 6) rfl)), (hw _ (List.mem_of_getElem? (i := 27) rfl))⟩)
  obtain ⟨n11, m11⟩ := and_e m10
  have F_a_RIGHT_LANE_CHANGE_changedFrom := own_fldR ev_a_RIGHT_LANE_CHANGE ev_a_LEFT n11
  obtain ⟨n12, m12⟩ := and_e m11
  have F_a_LEFT_ordinal := own_fldI ev_a_LEFT n12
  have F_a_RIGHT_ordinal := own_fldI ev_a_RIGHT m12
  obtain ⟨n, o, h1, h2, h3, _, L, rfl, ⟨rfl, N⟩, hq⟩ := rm0 l s _ hw tables_1 i0 i1 a_LEFT_LANE_CHANGE a_RIGHT a_BRAKE a_DRIVE a_ACCELERATE a_LEFT a_RIGHT_LANE_CHANGE s.heap s.heap.size (Old.start s) ⟨S_a_LEFT_LANE_CHANGE, X_a_LEFT_LANE_CHANGE, S_a_RIGHT, X_a_RIGHT, S_a_BRAKE, X_a_BRAKE, S_a_DRIVE, X_a_DRIVE, S_a_ACCELERATE, X_a_ACCELERATE, S_a_LEFT, X_a_LEFT, S_a_RIGHT_LANE_CHANGE, X_a_RIGHT_LANE_CHANGE, F_a_LEFT_LANE_CHANGE_changedFrom, F_a_BRAKE_changedFrom, F_a_DRIVE_changedFrom, F_a_ACCELERATE_changedFrom, F_a_RIGHT_LANE_CHANGE_changedFrom, F_a_LEFT_ordinal, F_a_RIGHT_ordinal⟩ p e ha hc hk s m _ below hf ((Spec.applies_iff_loose hf).mp happ).1 ⟨rfl, State.Warmed39.refl s, rfl⟩ trivial
  refine ⟨n, _, h1, h2, h3, hpost _ _ _ _ _ _ ⟨Cond.after_iff.mpr rfl, Cond.after_iff.mpr (eq_i res_at (Term.int_eval (1)) rfl), trivial⟩ ⟨hq.1, hq.2.1, (hq.2.2.sift fun y hy => Or.inr (N y hy)).mono (by decide) (by decide)⟩⟩
theorem main_1_1 : Claimed_1_1 := comes_1 fun _ _ _ _ _ _ h hF => ⟨h.1, hF⟩
theorem main_1_2 : Claimed_1_2 := comes_1 fun _ _ _ _ _ _ h hF => ⟨h.2.1, hF⟩
end Jvm.Pilot.@@N@@
namespace Jvm.Pilot.@@N@@
open Jvm Jvm.ClassFile Sem Op Lib Jvm.Free Jvm.Stand Jvm.Pilot.@@N@@.Jvm.D
/-! MADE BY PROGRAM (witnessworld.py) out of the Statement's table words and the real class files: 13 classes; the members and pool entries that the words name. The judged class is class 1, her method 1. -/
namespace start1
open Jvm.ClassFile
def u (s : String) : CpInfo := .utf8 (stringToUtf16 s)
/-- a pool by its gaps: so many unusable entries, then the entry; so many at the end -/
def gap : Nat → List CpInfo → List CpInfo
  | 0, r => r
  | n + 1, r => .unusable :: gap n r
def poolList (es : List (Nat × CpInfo)) (last : Nat) : List CpInfo := es.foldr (fun e r => gap e.1 (e.2 :: r)) (gap last [])
def pool (es : List (Nat × CpInfo)) (last : Nat) : Array CpInfo := ⟨poolList es last⟩
def fileOf (pool : Array CpInfo) (this : Nat) (attrs : Array Attribute := #[]) (ms : Array MethodInfo := #[]) (fl : Nat := 33) (sup : Nat := 0) (ifs : Array Nat := #[]) (fds : Array FieldInfo := #[]) : ClassFile where
  minorVersion := 0
  majorVersion := 65
  constantPool := pool
  accessFlags := fl
  thisClass := this
  superClass := sup
  interfaces := ifs
  fields := fds
  methods := ms
  attributes := attrs
def plain (name : String) (sup : Option ClassId) : Class where
  name := name
  kind := .ordinary
  loader := none
  accessFlags := 33
  super := sup
  interfaces := #[]
  cf := none
  fields := #[]
  methods := #[]
  instanceTypes := #[]
  staticTypes := #[]
  resolved := #[]
  callSites := []
  init := .initialized
  statics := none
  mirror := none

def pool0 : Array CpInfo := pool [(5, u "<init>"), (0, u "()V"), (1, .class_ 10), (1, u "java/lang/Object")] 113

def k0m0 : Method := { name := "<init>", desc := "()V", sig := { parameters := [], returnType := none }, accessFlags := 1, code := none }
/-- java/lang/Object -/
def k0 : Class := { plain "java/lang/Object" none with
  accessFlags := 33
  interfaces := #[]
  cf := some (fileOf pool0 8 #[] #[{ accessFlags := 1, nameIndex := 5, descriptorIndex := 6, attributes := #[] }] 33 0 #[] #[])
  fields := #[]
  methods := #[k0m0]
  instanceTypes := #[]
  staticTypes := #[]
  resolved := Array.replicate 124 none
  statics := none }

def pool1 : Array CpInfo := pool [(2, .class_ 4), (1, u "java/lang/Object"), (0, u "<init>"), (0, u "()V"), (0, .integer 2147483647), (0, .methodref 9 10), (0, .class_ 11), (0, .nameAndType 12 13), (0, u "com/example/roadwright/roadwright/road/ManoeuvreCanBeTakenInPinLaw"), (0, u "pick"), (0, u "(I)Lcom/example/roadwright/roadwright/road/Manoeuvre;"), (0, .fieldref 15 16), (0, .class_ 17), (0, .nameAndType 18 19), (0, u "com/example/roadwright/roadwright/road/Lane"), (0, u "RIGHT"), (0, u "Lcom/example/roadwright/roadwright/road/Lane;"), (0, .fieldref 15 21), (0, .nameAndType 22 19), (0, u "LEFT"), (0, .methodref 24 25), (0, .class_ 26), (0, .nameAndType 27 28), (0, u "com/example/roadwright/roadwright/road/Manoeuvre"), (0, u "canBeTakenIn"), (0, u "(Lcom/example/roadwright/roadwright/road/Lane;)Z"), (0, .fieldref 24 30), (0, .nameAndType 31 32), (0, u "LEFT_LANE_CHANGE"), (0, u "Lcom/example/roadwright/roadwright/road/Manoeuvre;"), (0, .fieldref 24 34), (0, .nameAndType 35 32), (0, u "ACCELERATE"), (0, .fieldref 24 37), (0, .nameAndType 38 32), (0, u "RIGHT_LANE_CHANGE"), (0, .fieldref 24 40), (0, .nameAndType 41 32), (0, u "DRIVE"), (0, .fieldref 24 43), (0, .nameAndType 44 32), (0, u "BRAKE"), (2, u "law"), (0, u "(II)Z")] 3

def k1m0 : Method := { name := "<init>", desc := "()V", sig := { parameters := [], returnType := none }, accessFlags := 1, code := none }
def k1c1 : Code := { maxStack := 2, maxLocals := 7, code := code, exceptionTable := #[], attributes := #[] }
def k1m1 : Method := { name := "law", desc := "(II)Z", sig := { parameters := [.int, .int], returnType := some .boolean }, accessFlags := 9, code := some k1c1 }
def k1c2 : Code := { maxStack := 2, maxLocals := 1, code := method_3_code, exceptionTable := #[], attributes := #[] }
def k1m2 : Method := { name := "pick", desc := "(I)Lcom/example/roadwright/roadwright/road/Manoeuvre;", sig := { parameters := [.int], returnType := some (.object "com/example/roadwright/roadwright/road/Manoeuvre") }, accessFlags := 10, code := some k1c2 }
/-- com/example/roadwright/roadwright/road/ManoeuvreCanBeTakenInPinLaw -/
def k1 : Class := { plain "com/example/roadwright/roadwright/road/ManoeuvreCanBeTakenInPinLaw" (some 0) with
  accessFlags := 49
  interfaces := #[]
  cf := some (fileOf pool1 9 #[] #[{ accessFlags := 1, nameIndex := 5, descriptorIndex := 6, attributes := #[] }, { accessFlags := 9, nameIndex := 47, descriptorIndex := 48, attributes := #[] }, { accessFlags := 10, nameIndex := 12, descriptorIndex := 13, attributes := #[] }] 49 2 #[] #[])
  fields := #[]
  methods := #[k1m0, k1m1, k1m2]
  instanceTypes := #[]
  staticTypes := #[]
  resolved := Array.replicate 52 none
  statics := none }

def pool2 : Array CpInfo := pool [(1, .class_ 2), (0, u "java/lang/constant/Constable"), (0, .class_ 4), (0, u "java/lang/Object")] 6

/-- java/lang/constant/Constable -/
def k2 : Class := { plain "java/lang/constant/Constable" (some 0) with
  accessFlags := 1537
  interfaces := #[]
  cf := some (fileOf pool2 1 #[] #[] 1537 3 #[] #[])
  fields := #[]
  methods := #[]
  instanceTypes := #[]
  staticTypes := #[]
  resolved := Array.replicate 11 none
  statics := none }

def pool3 : Array CpInfo := pool [(1, .class_ 2), (0, u "java/lang/Comparable"), (0, .class_ 4), (0, u "java/lang/Object")] 7

/-- java/lang/Comparable -/
def k3 : Class := { plain "java/lang/Comparable" (some 0) with
  accessFlags := 1537
  interfaces := #[]
  cf := some (fileOf pool3 1 #[] #[] 1537 3 #[] #[])
  fields := #[]
  methods := #[]
  instanceTypes := #[]
  staticTypes := #[]
  resolved := Array.replicate 12 none
  statics := none }

def pool4 : Array CpInfo := pool [(1, .class_ 2), (0, u "java/io/Serializable"), (0, .class_ 4), (0, u "java/lang/Object")] 2

/-- java/io/Serializable -/
def k4 : Class := { plain "java/io/Serializable" (some 0) with
  accessFlags := 1537
  interfaces := #[]
  cf := some (fileOf pool4 1 #[] #[] 1537 3 #[] #[])
  fields := #[]
  methods := #[]
  instanceTypes := #[]
  staticTypes := #[]
  resolved := Array.replicate 7 none
  statics := none }

def pool5 : Array CpInfo := pool [(2, .class_ 4), (1, u "java/lang/Enum"), (0, u "name"), (0, u "Ljava/lang/String;"), (2, u "ordinal"), (0, u "I"), (1, .class_ 14), (1, u "java/lang/Object"), (4, u "hash"), (86, .class_ 108), (1, u "java/lang/Enum$EnumDesc"), (2, .class_ 112), (0, u "java/lang/constant/Constable"), (0, .class_ 114), (0, u "java/lang/Comparable"), (0, .class_ 116), (0, u "java/io/Serializable")] 87

/-- java/lang/Enum -/
def k5 : Class := { plain "java/lang/Enum" (some 0) with
  accessFlags := 1057
  interfaces := #[2, 3, 4]
  cf := some (fileOf pool5 2 #[.nestMembers #[106]] #[] 1057 12 #[111, 113, 115] #[{ accessFlags := 18, nameIndex := 5, descriptorIndex := 6, attributes := #[] }, { accessFlags := 18, nameIndex := 9, descriptorIndex := 10, attributes := #[] }, { accessFlags := 2, nameIndex := 19, descriptorIndex := 10, attributes := #[] }])
  fields := #[{ name := "name", type := (.object "java/lang/String"), accessFlags := 18, slot := 0, constantValue := 0 }, { name := "ordinal", type := .int, accessFlags := 18, slot := 1, constantValue := 0 }, { name := "hash", type := .int, accessFlags := 2, slot := 2, constantValue := 0 }]
  methods := #[]
  instanceTypes := #[(.object "java/lang/String"), .int, .int]
  staticTypes := #[]
  resolved := Array.replicate 204 none
  statics := none }

def pool6 : Array CpInfo := pool [(1, .class_ 2), (0, u "com/example/roadwright/roadwright/road/Manoeuvre"), (2, u "LEFT_LANE_CHANGE"), (0, u "Lcom/example/roadwright/roadwright/road/Manoeuvre;"), (2, u "ACCELERATE"), (2, u "RIGHT_LANE_CHANGE"), (2, u "DRIVE"), (2, u "BRAKE"), (2, u "$VALUES"), (0, u "[Lcom/example/roadwright/roadwright/road/Manoeuvre;"), (6, .class_ 31), (1, u "java/lang/Enum"), (8, u "word"), (0, u "Ljava/lang/String;"), (2, u "steps"), (0, u "I"), (2, u "rows"), (0, .fieldref 1 50), (0, .nameAndType 51 52), (0, u "changedFrom"), (0, u "Lcom/example/roadwright/roadwright/road/Lane;"), (56, u "canBeTakenIn"), (0, u "(Lcom/example/roadwright/roadwright/road/Lane;)Z")] 7

def k6c0 : Code := { maxStack := 2, maxLocals := 2, code := prog_67_method_10_code, exceptionTable := #[], attributes := #[] }
def k6m0 : Method := { name := "canBeTakenIn", desc := "(Lcom/example/roadwright/roadwright/road/Lane;)Z", sig := { parameters := [(.object "com/example/roadwright/roadwright/road/Lane")], returnType := some .boolean }, accessFlags := 1, code := some k6c0 }
/-- com/example/roadwright/roadwright/road/Manoeuvre -/
def k6 : Class := { plain "com/example/roadwright/roadwright/road/Manoeuvre" (some 5) with
  accessFlags := 16433
  interfaces := #[]
  cf := some (fileOf pool6 1 #[] #[{ accessFlags := 1, nameIndex := 109, descriptorIndex := 110, attributes := #[] }] 16433 29 #[] #[{ accessFlags := 16409, nameIndex := 5, descriptorIndex := 6, attributes := #[] }, { accessFlags := 16409, nameIndex := 9, descriptorIndex := 6, attributes := #[] }, { accessFlags := 16409, nameIndex := 12, descriptorIndex := 6, attributes := #[] }, { accessFlags := 16409, nameIndex := 15, descriptorIndex := 6, attributes := #[] }, { accessFlags := 16409, nameIndex := 18, descriptorIndex := 6, attributes := #[] }, { accessFlags := 18, nameIndex := 40, descriptorIndex := 41, attributes := #[] }, { accessFlags := 18, nameIndex := 44, descriptorIndex := 45, attributes := #[] }, { accessFlags := 18, nameIndex := 48, descriptorIndex := 45, attributes := #[] }, { accessFlags := 18, nameIndex := 51, descriptorIndex := 52, attributes := #[] }, { accessFlags := 4122, nameIndex := 21, descriptorIndex := 22, attributes := #[] }])
  fields := #[{ name := "LEFT_LANE_CHANGE", type := (.object "com/example/roadwright/roadwright/road/Manoeuvre"), accessFlags := 16409, slot := 0, constantValue := 0 }, { name := "ACCELERATE", type := (.object "com/example/roadwright/roadwright/road/Manoeuvre"), accessFlags := 16409, slot := 1, constantValue := 0 }, { name := "RIGHT_LANE_CHANGE", type := (.object "com/example/roadwright/roadwright/road/Manoeuvre"), accessFlags := 16409, slot := 2, constantValue := 0 }, { name := "DRIVE", type := (.object "com/example/roadwright/roadwright/road/Manoeuvre"), accessFlags := 16409, slot := 3, constantValue := 0 }, { name := "BRAKE", type := (.object "com/example/roadwright/roadwright/road/Manoeuvre"), accessFlags := 16409, slot := 4, constantValue := 0 }, { name := "word", type := (.object "java/lang/String"), accessFlags := 18, slot := 3, constantValue := 0 }, { name := "steps", type := .int, accessFlags := 18, slot := 4, constantValue := 0 }, { name := "rows", type := .int, accessFlags := 18, slot := 5, constantValue := 0 }, { name := "changedFrom", type := (.object "com/example/roadwright/roadwright/road/Lane"), accessFlags := 18, slot := 6, constantValue := 0 }, { name := "$VALUES", type := (.array (.object "com/example/roadwright/roadwright/road/Manoeuvre")), accessFlags := 4122, slot := 5, constantValue := 0 }]
  methods := #[k6m0]
  instanceTypes := #[(.object "java/lang/String"), .int, .int, (.object "java/lang/String"), .int, .int, (.object "com/example/roadwright/roadwright/road/Lane")]
  staticTypes := #[(.object "com/example/roadwright/roadwright/road/Manoeuvre"), (.object "com/example/roadwright/roadwright/road/Manoeuvre"), (.object "com/example/roadwright/roadwright/road/Manoeuvre"), (.object "com/example/roadwright/roadwright/road/Manoeuvre"), (.object "com/example/roadwright/roadwright/road/Manoeuvre"), (.array (.object "com/example/roadwright/roadwright/road/Manoeuvre"))]
  resolved := Array.replicate 118 none
  statics := some 0 }

def pool7 : Array CpInfo := pool [(1, .class_ 2), (0, u "com/example/roadwright/roadwright/road/Lane"), (2, u "LEFT"), (0, u "Lcom/example/roadwright/roadwright/road/Lane;"), (2, u "RIGHT"), (2, u "$VALUES"), (0, u "[Lcom/example/roadwright/roadwright/road/Lane;"), (6, .class_ 22), (1, u "java/lang/Enum"), (8, u "word"), (0, u "Ljava/lang/String;")] 30

/-- com/example/roadwright/roadwright/road/Lane -/
def k7 : Class := { plain "com/example/roadwright/roadwright/road/Lane" (some 5) with
  accessFlags := 16433
  interfaces := #[]
  cf := some (fileOf pool7 1 #[] #[] 16433 20 #[] #[{ accessFlags := 16409, nameIndex := 5, descriptorIndex := 6, attributes := #[] }, { accessFlags := 16409, nameIndex := 9, descriptorIndex := 6, attributes := #[] }, { accessFlags := 18, nameIndex := 31, descriptorIndex := 32, attributes := #[] }, { accessFlags := 4122, nameIndex := 12, descriptorIndex := 13, attributes := #[] }])
  fields := #[{ name := "LEFT", type := (.object "com/example/roadwright/roadwright/road/Lane"), accessFlags := 16409, slot := 0, constantValue := 0 }, { name := "RIGHT", type := (.object "com/example/roadwright/roadwright/road/Lane"), accessFlags := 16409, slot := 1, constantValue := 0 }, { name := "word", type := (.object "java/lang/String"), accessFlags := 18, slot := 3, constantValue := 0 }, { name := "$VALUES", type := (.array (.object "com/example/roadwright/roadwright/road/Lane")), accessFlags := 4122, slot := 2, constantValue := 0 }]
  methods := #[]
  instanceTypes := #[(.object "java/lang/String"), .int, .int, (.object "java/lang/String")]
  staticTypes := #[(.object "com/example/roadwright/roadwright/road/Lane"), (.object "com/example/roadwright/roadwright/road/Lane"), (.array (.object "com/example/roadwright/roadwright/road/Lane"))]
  resolved := Array.replicate 63 none
  statics := some 1 }

def pool8 : Array CpInfo := pool [(1, u "java/lang/Cloneable"), (0, .class_ 1), (0, u "java/lang/Object"), (0, .class_ 3)] 3

/-- java/lang/Cloneable -/
def k8 : Class := { plain "java/lang/Cloneable" (some 0) with
  accessFlags := 1537
  interfaces := #[]
  cf := some (fileOf pool8 2 #[] #[] 1537 4 #[] #[])
  fields := #[]
  methods := #[]
  instanceTypes := #[]
  staticTypes := #[]
  resolved := Array.replicate 8 none
  statics := none }

/-- the primitive byte -/
def k9 : Class := { plain "byte" none with kind := .primitive 'B', accessFlags := 0x411 }
/-- [B -/
def k10 : Class := { plain "[B" (some 0) with kind := .array 9 .byte, interfaces := #[8, 4], accessFlags := 1041 }

/-- the primitive int -/
def k11 : Class := { plain "int" none with kind := .primitive 'I', accessFlags := 0x411 }
/-- [I -/
def k12 : Class := { plain "[I" (some 0) with kind := .array 11 .int, interfaces := #[8, 4], accessFlags := 1041 }

def heap : Heap := #[{ cls := 6, slots := #[.ref 2, .ref 6, .ref 8, .ref 5, .ref 4, .null], vm := .statics 6 },
  { cls := 7, slots := #[.ref 7, .ref 3, .null], vm := .statics 7 },
  { cls := 6, slots := #[.null, .int 0, .int 0, .null, .int 0, .int 0, .ref 3], vm := .none },
  { cls := 7, slots := #[.null, .int 1, .int 0, .null], vm := .none },
  { cls := 6, slots := #[.null, .int 0, .int 0, .null, .int 0, .int 0, .null], vm := .none },
  { cls := 6, slots := #[.null, .int 0, .int 0, .null, .int 0, .int 0, .null], vm := .none },
  { cls := 6, slots := #[.null, .int 0, .int 0, .null, .int 0, .int 0, .null], vm := .none },
  { cls := 7, slots := #[.null, .int 0, .int 0, .null], vm := .none },
  { cls := 6, slots := #[.null, .int 0, .int 0, .null, .int 0, .int 0, .ref 7], vm := .none }]
def classes : Array Class := #[k0, k1, k2, k3, k4, k5, k6, k7, k8, k9, k10, k11, k12]
def interned : List (Array UInt16 × Addr) := []
def slotsUsed : Nat := 52
def theMethod : MethodId := ⟨1, 1⟩
def args0 : Array Value := #[.int 5, .int 1]
def aboutOver (below : List Frame) : State where
  vm := { classes := classes, interned := interned.toArray }
  heap := heap
  slotsUsed := slotsUsed
  threads := #[{ frames := .invoking theMethod args0 :: below }]
def below0 : List Frame := [.native { method := ⟨0, 0⟩, args := #[] }]
def about1 : State := aboutOver below0
def p0 : Program := .bare "" "" ""
def e0 : Env := launch0.env 0 0 0
theorem w_frames : about1.frames = Frame.invoking theMethod args0 :: below0 := rfl
set_option maxRecDepth 65536 in
theorem w_args : argsFit about1.vm theMethod args0 = true := by decide +kernel
set_option maxRecDepth 65536 in
theorem w_heap : heapFits about1 = true := by decide +kernel
set_option maxRecDepth 65536 in
theorem w_runnable : about1.curStatus? = some .runnable := by decide +kernel
set_option maxRecDepth 65536 in
theorem w_alone : about1.alone = true := by decide +kernel
set_option maxRecDepth 65536 in
theorem w_named : about1.methodNamed? x = some theMethod := by decide +kernel
set_option maxRecDepth 65536 in
theorem w_hears : about1.hears theMethod below0 = true := by decide +kernel
set_option maxRecDepth 65536 in
theorem w_ripe : about1.ripe theMethod args0 below0 = true := by decide +kernel
theorem w_running : about1.status = .running := rfl
set_option maxRecDepth 65536 in
theorem w_room : about1.hasRoom e0.platform room_1 = true :=
  launch0.hasRoom_least _ room_1 (by decide +kernel) (by decide +kernel) (by decide +kernel) (by decide +kernel) (by decide +kernel) (by decide +kernel)
theorem allAtoms_all (ts : List Jvm.Cond) (a : Array Jvm.Value) (st : Jvm.State) : (allAtoms ts).before a st = ts.all (fun c => c.before a st) := by
  induction ts with
  | nil => rfl
  | cons c t ih =>
    show (Jvm.Cond.and c (allAtoms t)).before a st = _
    rw [Jvm.Cond.before_and, ih, List.all_cons]
def words1 : List Jvm.Cond := Jvm.Cond.code x code maxLocals ret :: tables_1
/-- a 'code' word, met by the world's own term for the bytes: nothing is compared byte by byte -/
theorem code_word {y : MethodName} {bytes : ByteArray} {mx : Nat} {rt : Option FieldType} {a : Array Value} {s : State} {m : MethodId} {meth : Method} {c : Code} (h1 : s.methodNamed? y = some m) (h2 : s.vm.method? m = some meth) (h3 : meth.code = some c) (h4 : c.code = bytes)
    (h5 : (c.maxLocals == mx && c.exceptionTable.isEmpty && decide (c.maxStack ≤ mostOperands) && decide (meth.sig.returnType = rt) && !meth.locks && decide (parseMethodDescriptor y.desc = some meth.sig)) = true) : (Jvm.Cond.code y bytes mx rt).before a s = true := by
  simp only [Bool.and_eq_true, beq_iff_eq, Bool.not_eq_true', decide_eq_true_eq] at h5
  obtain ⟨⟨⟨⟨⟨g1, g2⟩, g3⟩, g4⟩, g5⟩, g6⟩ := h5
  simp [Cond.before, Cond.holds, Cond.value, h1, h2, h3, h4, g1, g2, g3, g4, g5, g6]
def isCode : Jvm.Cond → Bool
  | .code _ _ _ _ => true
  | _ => false
theorem all_split {L : List Jvm.Cond} {P : Jvm.Cond → Bool} (h1 : L.all (fun c => isCode c || P c) = true) (h2 : ∀ c ∈ L.filter isCode, P c = true) : L.all P = true := by
  refine List.all_eq_true.mpr fun c hc => ?_
  have h := List.all_eq_true.mp h1 c hc
  rcases Bool.eq_false_or_eq_true (isCode c) with hi | hi
  · exact h2 c (List.mem_filter.mpr ⟨hc, hi⟩)
  · simpa [hi] using h
set_option maxRecDepth 65536 in
theorem w_c0 : (Jvm.Cond.code x code maxLocals ret).before args0 about1 = true := code_word (m := ⟨1, 1⟩) (meth := k1m1) (c := k1c1) (by decide +kernel) rfl rfl rfl (by decide +kernel)
set_option maxRecDepth 65536 in
theorem w_c1 : (Jvm.Cond.code ({ cls := "com/example/roadwright/roadwright/road/ManoeuvreCanBeTakenInPinLaw", name := "pick", desc := "(I)Lcom/example/roadwright/roadwright/road/Manoeuvre;" } : Jvm.MethodName) method_3_code (1 : Nat) (Option.some (Jvm.ClassFile.FieldType.object "com/example/roadwright/roadwright/road/Manoeuvre"))).before args0 about1 = true := code_word (m := ⟨1, 2⟩) (meth := k1m2) (c := k1c2) (by decide +kernel) rfl rfl rfl (by decide +kernel)
set_option maxRecDepth 65536 in
theorem w_c2 : (Jvm.Cond.code ({ cls := "com/example/roadwright/roadwright/road/Manoeuvre", name := "canBeTakenIn", desc := "(Lcom/example/roadwright/roadwright/road/Lane;)Z" } : Jvm.MethodName) prog_67_method_10_code (2 : Nat) (Option.some Jvm.ClassFile.FieldType.boolean)).before args0 about1 = true := code_word (m := ⟨6, 0⟩) (meth := k6m0) (c := k6c0) (by decide +kernel) rfl rfl rfl (by decide +kernel)
def codes1 : List Jvm.Cond := [Jvm.Cond.code x code maxLocals ret, Jvm.Cond.code ({ cls := "com/example/roadwright/roadwright/road/ManoeuvreCanBeTakenInPinLaw", name := "pick", desc := "(I)Lcom/example/roadwright/roadwright/road/Manoeuvre;" } : Jvm.MethodName) method_3_code (1 : Nat) (Option.some (Jvm.ClassFile.FieldType.object "com/example/roadwright/roadwright/road/Manoeuvre")), Jvm.Cond.code ({ cls := "com/example/roadwright/roadwright/road/Manoeuvre", name := "canBeTakenIn", desc := "(Lcom/example/roadwright/roadwright/road/Lane;)Z" } : Jvm.MethodName) prog_67_method_10_code (2 : Nat) (Option.some Jvm.ClassFile.FieldType.boolean)]
set_option maxRecDepth 65536 in
theorem codes_eq : words1.filter isCode = codes1 := rfl
theorem w_codes : ∀ c ∈ words1.filter isCode, c.before args0 about1 = true := by
  rw [codes_eq]
  intro c hc
  simp only [codes1, List.mem_cons, List.not_mem_nil, or_false] at hc
  rcases hc with rfl | rfl | rfl
  · exact w_c0
  · exact w_c1
  · exact w_c2
set_option maxRecDepth 65536 in
theorem w_t1 : (words1.take 24).all (fun c => isCode c || c.before args0 about1) = true := by decide +kernel
set_option maxRecDepth 65536 in
theorem w_t2 : (words1.drop 24).all (fun c => isCode c || c.before args0 about1) = true := by decide +kernel
theorem w_tables : (allAtoms (Jvm.Cond.code x code maxLocals ret :: tables_1)).before args0 about1 = true := by
  rw [allAtoms_all]
  show words1.all (fun c => c.before args0 about1) = true
  refine all_split ?_ w_codes
  rw [← List.take_append_drop 24 words1, List.all_append, w_t1, w_t2]
  rfl
set_option maxRecDepth 65536 in
theorem w_case : (Jvm.Cond.and given_1 narrow_1).before args0 about1 = true := by decide +kernel
theorem w_applies : (headSpec (Jvm.Cond.code x code maxLocals ret :: tables_1) room_1).applies x e0.platform about1 = true :=
  (Spec.applies_iff w_frames).mpr ⟨w_running, w_runnable, w_alone, w_named, w_hears, w_ripe, w_room, w_tables⟩
theorem atStart : AtStart classFile x code maxLocals ret World_1 tables_1 room_1 Calls_1 rest_1 Pre_1 launch0 p0 e0 about1 theMethod args0 below0 :=
  ⟨lists_1, trivial, launch0.admits_env _ _ _, launch0.least_env, fairChoices_fair.cas, fairChoices_fair.clock, w_frames, w_args, w_heap, w_applies, trivial, trivial, w_case⟩
end start1
theorem witness_1 : WitnessClaimed_1 := ⟨start1.p0, start1.e0, start1.about1, start1.theMethod, start1.args0, start1.below0, start1.atStart⟩
end Jvm.Pilot.@@N@@
