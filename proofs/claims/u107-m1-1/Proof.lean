import JvmDerived
import JvmDerived.Pilot.@@N@@Statement
import JvmDerived.Pilot.@@N@@Code
set_option linter.unusedVariables false
set_option linter.unusedSimpArgs false
namespace Jvm.RoadKit
open Sem ClassFile Op Lib Jvm.Stand Jvm.Free Jvm.LawKit
section New
variable {p : Program} {l : Launch} {e : Env} {R : Room} {s : State} {m : MethodId} {args : Array Value} {below : List Frame} {meth : Method} {c : Code} {T : State} {locs : List Loc} {cells slots : Nat}
theorem retI (X : Stand p l e R s m args below meth c T locs cells slots) (hx : p.tables.exec = Jvm.exec) {pc : Nat} {Ls : Array Slot} {z : Int32} {rest : List Value} (hret : meth.sig.returnType = some .int) (hd : decode c.code pc = .ok (.ireturn, 1)) {fs : List Frame}
    (hl : ∀ (f : JFrame) (acts : List Action), f.method = m → f.locked = none → f.entered = [] → (doReturn e (T.setTop f) acts (some (.int z))).1 = T.setFrames fs) : Steps p.tables e below (T.setTop (mkF m pc Ls (.int z :: rest))) (T.setFrames fs) := by
  have hm' : T.vm.method? m = some meth := X.method'
  have hn : narrow .int (.int z) = .int z := rfl
  show Steps p.tables e below (T.setTop { method := m, pc := pc, locals := Ls, stack := _ :: rest, locked := none }) _
  jvm_step X.here [X.here.top, hx, hd, hm', hret, hn]
  first | (intro acts; rw [hl _ acts rfl rfl rfl]) | rw [hl _ _ rfl rfl rfl]
  exact Steps.refl _
end New
end Jvm.RoadKit
namespace Jvm.Pilot.@@N@@
open Jvm Jvm.ClassFile Sem Op Lib Jvm.Free Jvm.Stand Jvm.LawKit Jvm.RoadKit Bundle Jvm.Pilot.@@N@@.Jvm.D
def QL (n0 : Nat) (v : Option Value) (h : Heap) (L : List Loc) : Prop := v = some (.int 1) ∧ Fr n0 L
def own_d (v : Int64) (z : Int32) : UInt64 := if v = 0 then (if z = 0 then FP.l2d v else (9223372036854775808 : UInt64)) else FP.l2d v
def own_max (a b : Int64) : Int64 := if a < b then b else a
def own_min (a b : Int64) : Int64 := if b < a then b else a
def own_ov (a b c d : Int64) : Int32 := if a < d then (if c < b then 1 else 0) else 0
theorem own_nzL (y : UInt64) : FP.dcmp (9223372036854775808 : UInt64) y = FP.dcmp (0 : UInt64) y := by
  have h1 : FP.Core.decode FP.Core.b64 (9223372036854775808 : UInt64).toNat = .fin true 0 FP.Core.b64.qmin := by decide +kernel
  have h2 : FP.Core.decode FP.Core.b64 (0 : UInt64).toNat = .fin false 0 FP.Core.b64.qmin := by decide +kernel
  show FP.Core.order (FP.Core.decode FP.Core.b64 _) _ = FP.Core.order (FP.Core.decode FP.Core.b64 _) _
  rw [h1, h2]
  cases FP.Core.decode FP.Core.b64 y.toNat with
  | nan => rfl
  | inf s => rfl
  | fin s c q =>
    have e : FP.Core.signed true (FP.Core.inUnits 0 FP.Core.b64.qmin (min FP.Core.b64.qmin q)) = FP.Core.signed false (FP.Core.inUnits 0 FP.Core.b64.qmin (min FP.Core.b64.qmin q)) := by
      have e0 : FP.Core.inUnits 0 FP.Core.b64.qmin (min FP.Core.b64.qmin q) = 0 := Nat.zero_mul _
      rw [e0]; rfl
    show some (compare _ _) = some (compare _ _)
    rw [e]
theorem own_nzR (y : UInt64) : FP.dcmp y (9223372036854775808 : UInt64) = FP.dcmp y (0 : UInt64) := by
  have h1 : FP.Core.decode FP.Core.b64 (9223372036854775808 : UInt64).toNat = .fin true 0 FP.Core.b64.qmin := by decide +kernel
  have h2 : FP.Core.decode FP.Core.b64 (0 : UInt64).toNat = .fin false 0 FP.Core.b64.qmin := by decide +kernel
  show FP.Core.order _ (FP.Core.decode FP.Core.b64 _) = FP.Core.order _ (FP.Core.decode FP.Core.b64 _)
  rw [h1, h2]
  cases FP.Core.decode FP.Core.b64 y.toNat with
  | nan => rfl
  | inf s => rfl
  | fin s c q =>
    have e : FP.Core.signed true (FP.Core.inUnits 0 FP.Core.b64.qmin (min q FP.Core.b64.qmin)) = FP.Core.signed false (FP.Core.inUnits 0 FP.Core.b64.qmin (min q FP.Core.b64.qmin)) := by
      have e0 : FP.Core.inUnits 0 FP.Core.b64.qmin (min q FP.Core.b64.qmin) = 0 := Nat.zero_mul _
      rw [e0]; rfl
    show some (compare _ _) = some (compare _ _)
    rw [e]
theorem own_dL (v : Int64) (z : Int32) (y : UInt64) : FP.dcmp (own_d v z) y = FP.dcmp (FP.l2d v) y := by
  unfold own_d
  split
  · rename_i h; subst h
    split
    · rfl
    · rw [own_nzL, l2d_zero]
  · rfl
theorem own_dR (v : Int64) (z : Int32) (y : UInt64) : FP.dcmp y (own_d v z) = FP.dcmp y (FP.l2d v) := by
  unfold own_d
  split
  · rename_i h; subst h
    split
    · rfl
    · rw [own_nzR, l2d_zero]
  · rfl
theorem own_cmp {a b : Int64} (ha : B53 a) (hb : B53 b) (z y : Int32) (o : CmpOp) : cmpValue (FP.dcmp (own_d a z) (own_d b y)) o = lcmpW a b := by
  rw [own_dL, own_dR]; exact dcmpV_w ha hb o
theorem own_ba (a : Int32) : B53 a.toInt64 := by
  have h := c_i2l a; have r := rng32 a; unfold B53; omega
theorem own_bv (a : Int32) (n : Int64) : ((a.toInt64 + (1 : Int64)) + (n &&& (4294967295 : Int64))).toInt = a.toInt + 1 + (n &&& (4294967295 : Int64)).toInt ∧ 0 ≤ (n &&& (4294967295 : Int64)).toInt ∧ (n &&& (4294967295 : Int64)).toInt < 4294967296 := by
  have h := c_i2l a; have r := rng32 a
  have m := c_maskL n 4294967295 32 (by decide) (by decide)
  have e1 : (1 : Int64).toInt = 1 := rfl
  have s1 := c_ladd a.toInt64 1; have s2 := c_ladd (a.toInt64 + 1) (n &&& 4294967295)
  have r1 := rng64 (a.toInt64 + 1); have r2 := rng64 (a.toInt64 + 1 + (n &&& 4294967295))
  omega
theorem own_bb (a : Int32) (n : Int64) : B53 ((a.toInt64 + (1 : Int64)) + (n &&& (4294967295 : Int64))) := by
  have h := own_bv a n; have r := rng32 a; unfold B53; omega
theorem own_lt (a : Int32) (n : Int64) : a.toInt64.toInt < ((a.toInt64 + (1 : Int64)) + (n &&& (4294967295 : Int64))).toInt := by
  have h := own_bv a n; have r := c_i2l a; omega
theorem own_law {a b c d : Int64} (h1 : a.toInt < b.toInt) (h2 : c.toInt < d.toInt) {z : Int32} (hz : (own_max a c < own_min b d) ∧ z = 1 ∨ ¬ (own_max a c < own_min b d) ∧ z = 0) : own_ov a b c d = z ∧ own_ov c d a b = z := by
  unfold own_max own_min at hz
  unfold own_ov
  simp only [Int64.lt_iff_toInt_lt] at hz ⊢
  rcases hz with ⟨h, rfl⟩ | ⟨h, rfl⟩
  · have e1 : a.toInt < d.toInt ∧ c.toInt < b.toInt := by split at h <;> split at h <;> omega
    simp [e1.1, e1.2]
  · have e1 : ¬ (a.toInt < d.toInt ∧ c.toInt < b.toInt) := fun q => h (by split <;> split <;> omega)
    by_cases q : a.toInt < d.toInt
    · have q2 : ¬ c.toInt < b.toInt := fun z => e1 ⟨q, z⟩
      simp [q, q2]
    · simp [q]
def Qd (q : Int64) (z : Int32) (h0 : Heap) (n0 : Nat) (v : Option Value) (h : Heap) (L : List Loc) : Prop := v = some (.double (own_d q z)) ∧ Fr n0 L ∧ h = h0
def Qx (a b : Int64) (h0 : Heap) (n0 : Nat) (v : Option Value) (h : Heap) (L : List Loc) : Prop := v = some (.long (own_max a b)) ∧ Fr n0 L ∧ h = h0
def Qi (a b : Int64) (h0 : Heap) (n0 : Nat) (v : Option Value) (h : Heap) (L : List Loc) : Prop := v = some (.long (own_min a b)) ∧ Fr n0 L ∧ h = h0
def Qo (a b c d : Int64) (h0 : Heap) (n0 : Nat) (v : Option Value) (h : Heap) (L : List Loc) : Prop := v = some (.int (own_ov a b c d)) ∧ Fr n0 L ∧ h = h0
theorem pn_0 : plainName "com/example/corral/corral/streams/KeyRangeOverlapsPinLaw" = true := by first | (simp [plainName, overriddenIn]; done) | decide +kernel
theorem ef_0 (m : MethodId) (x0 : Int64) (x1 : Int32) : entryFrame m #[(.long x0), (.int x1)] 3 = mkF m 0 #[.val (.long x0), .second, .val (.int x1)] [] := by first | (simp [entryFrame, mkF, argsToLocals, Value.category]; done) | rfl
theorem dc0_0 : decode method_3_code 0 = .ok (.lload_n 0, 1) := by decide +kernel
theorem dc0_1 : decode method_3_code 1 = .ok (.lconst 0, 1) := by decide +kernel
theorem dc0_2 : decode method_3_code 2 = .ok (.lcmp, 1) := by decide +kernel
theorem dc0_3 : decode method_3_code 3 = .ok (.ifCond .ne 11, 3) := by decide +kernel
theorem dc0_6 : decode method_3_code 6 = .ok (.iload_n 2, 1) := by decide +kernel
theorem dc0_7 : decode method_3_code 7 = .ok (.ifCond .eq 7, 3) := by decide +kernel
theorem dc0_14 : decode method_3_code 14 = .ok (.lload_n 0, 1) := by decide +kernel
theorem dc0_15 : decode method_3_code 15 = .ok (.l2d, 1) := by decide +kernel
theorem dc0_16 : decode method_3_code 16 = .ok (.dreturn, 1) := by decide +kernel
theorem dc0_10 : decode method_3_code 10 = .ok (.ldc2_w 33, 3) := by decide +kernel
theorem dc0_13 : decode method_3_code 13 = .ok (.dreturn, 1) := by decide +kernel
set_option maxRecDepth 65536 in
set_option maxHeartbeats 40000000 in
theorem rmD (l : Launch) (Z : State) (a0 : Array Value) (hw : ∀ d ∈ tables_1, d.before a0 Z = true) (ws : List Jvm.Cond) (q1 : Int64) (p2 : Int32) (h0 : Heap) (n0 : Nat) (O0 : Old Z n0 h0) :
    MetFree l (⟨"com/example/corral/corral/streams/KeyRangeOverlapsPinLaw", "d", "(JZ)D"⟩ : MethodName) (head1 (Jvm.Cond.code (⟨"com/example/corral/corral/streams/KeyRangeOverlapsPinLaw", "d", "(JZ)D"⟩ : MethodName) method_3_code 3 (some .double) :: ws) ({ frames := 0, cells := 0, slots := 0, locals := 0 } : Room)) (fun a U => a = #[(.long q1), (.int p2)] ∧ Z.Warmed39 U.vm ∧ U.heap = h0) (fun _ _ _ _ _ => True) (fun _ U o U' => ∃ v L, o = .returned v ∧ Qd q1 p2 h0 n0 v U'.heap L ∧ FrameEnd U o U' L ({ frames := 0, cells := 0, slots := 0, locals := 0 } : Room).cells ({ frames := 0, cells := 0, slots := 0, locals := 0 } : Room).slots) := by
  refine MetFree.of_bodySF (plainFor_of_name pn_0) hisR ?_
  intro p e s m args below meth c s₁ Bd hml0 hP hK
  obtain ⟨rfl, hZ, hh⟩ := hP
  have hx := Bd.exec
  have hby := Bd.bytes
  have hml : c.maxLocals = 3 := hml0
  have hown : s.vm.findClass "com/example/corral/corral/streams/KeyRangeOverlapsPinLaw" = some m.cls := findClass_of_methodNamed Bd.named
  have hnm := (name_of_methodNamed Bd.named Bd.method).1
  have X0 : Stand p l e ({ frames := 0, cells := 0, slots := 0, locals := 0 } : Room) s m #[(.long q1), (.int p2)] below meth c s₁ [] 0 0 := Stand.of_body Bd
  have e0 : s₁.heap = h0 := by rw [← hh, Bd.state]; rfl
  have N0 := Fr.nil n0
  have pre0 : ∀ t, Steps p.tables e below (s₁.setTop (mkF m 0 #[.val (.long q1), .second, .val (.int p2)] [])) t → Steps p.tables e below (s₁.setTop (entryFrame m #[(.long q1), (.int p2)] 3)) t := fun t k => castTop (ef_0 m q1 p2) k
  have pre1 : ∀ t, Steps p.tables e below (s₁.setTop (mkF m 3 #[.val (.long q1), .second, .val (.int p2)] [(.int (lcmpW q1 (0 : Int64)))])) t → Steps p.tables e below (s₁.setTop (entryFrame m #[(.long q1), (.int p2)] 3)) t := fun t kt => pre0 t (by
      show Steps p.tables e below (s₁.setTop (mkF m 0 #[.val (.long q1), .second, .val (.int p2)] [])) _
      refine XS.lloadN X0.here hx rfl (hb hby dc0_0) rfl ?_
      show Steps p.tables e below (s₁.setTop (mkF m 1 #[.val (.long q1), .second, .val (.int p2)] [(.long q1)])) _
      refine XS.lconst X0.here hx rfl (hb hby dc0_1) ?_
      show Steps p.tables e below (s₁.setTop (mkF m 2 #[.val (.long q1), .second, .val (.int p2)] [(.long (0 : Int64)), (.long q1)])) _
      refine XS.lcmp X0.here hx rfl (hb hby dc0_2) rfl ?_
      exact kt)
  by_cases hc2 : q1 = (0 : Int64)
  · skip
    have pre3 : ∀ t, Steps p.tables e below (s₁.setTop (mkF m 7 #[.val (.long q1), .second, .val (.int p2)] [(.int p2)])) t → Steps p.tables e below (s₁.setTop (entryFrame m #[(.long q1), (.int p2)] 3)) t := fun t kt => pre1 t (by
        show Steps p.tables e below (s₁.setTop (mkF m 3 #[.val (.long q1), .second, .val (.int p2)] [(.int (lcmpW q1 (0 : Int64)))])) _
        refine XS.ifNo X0.here hx rfl (hb hby dc0_3) rfl ((if0 _ _).trans (teq ((lw_eq _ _).mpr hc2)).2) ?_
        show Steps p.tables e below (s₁.setTop (mkF m 6 #[.val (.long q1), .second, .val (.int p2)] [])) _
        refine XS.iloadN X0.here hx rfl (hb hby dc0_6) rfl ?_
        exact kt)
    by_cases hc4 : p2 = (0 : Int32)
    · skip
      obtain ⟨fs, hr, hrun, hended, hW, hsame⟩ := X0.leave (v := some (.double (FP.l2d q1))) (fun h => by rw [Bd.returns] at h; cases h)
      refine ⟨_, _, pre3 _ ?_, hrun, hended, _, _, rfl, ?_, ⟨_, rfl⟩, hW, hsame.mono (by decide) (by decide)⟩
      · skip
        show Steps p.tables e below (s₁.setTop (mkF m 7 #[.val (.long q1), .second, .val (.int p2)] [(.int p2)])) _
        refine XS.ifYes X0.here hx rfl (pc0 := 7) (pc' := 14) rfl (hb hby dc0_7) rfl ((if0 _ _).trans (teq hc4).1) (by decide) (by decide) ?_
        show Steps p.tables e below (s₁.setTop (mkF m 14 #[.val (.long q1), .second, .val (.int p2)] [])) _
        refine XS.lloadN X0.here hx rfl (hb hby dc0_14) rfl ?_
        show Steps p.tables e below (s₁.setTop (mkF m 15 #[.val (.long q1), .second, .val (.int p2)] [(.long q1)])) _
        refine XS.l2dS X0.here hx rfl (hb hby dc0_15) rfl rfl ?_
        show Steps p.tables e below (s₁.setTop (mkF m 16 #[.val (.long q1), .second, .val (.int p2)] [(.double (FP.l2d q1))])) _
        exact retOut X0 hx (t := .double) Bd.returns rfl (Or.inr (Or.inr (Or.inl ⟨rfl, rfl, _, rfl⟩))) (hb hby dc0_16) hr
      · show Qd q1 p2 h0 n0 _ s₁.heap _
        rw [e0]
        exact ⟨by simp [own_d, hc2, hc4], N0, rfl⟩
    · skip
      obtain ⟨fs, hr, hrun, hended, hW, hsame⟩ := X0.leave (v := some (.double (9223372036854775808 : UInt64))) (fun h => by rw [Bd.returns] at h; cases h)
      refine ⟨_, _, pre3 _ ?_, hrun, hended, _, _, rfl, ?_, ⟨_, rfl⟩, hW, hsame.mono (by decide) (by decide)⟩
      · skip
        show Steps p.tables e below (s₁.setTop (mkF m 7 #[.val (.long q1), .second, .val (.int p2)] [(.int p2)])) _
        refine XS.ifNo X0.here hx rfl (hb hby dc0_7) rfl ((if0 _ _).trans (feq hc4).1) ?_
        show Steps p.tables e below (s₁.setTop (mkF m 10 #[.val (.long q1), .second, .val (.int p2)] [])) _
        refine X0.ldc2DoubleC hx hown (mvT hZ (hw _ (List.mem_of_getElem? (i := 30) rfl))) (g := (mkF m 10 #[.val (.long q1), .second, .val (.int p2)] [])) rfl (hb hby dc0_10) _ ?_
        show Steps p.tables e below (s₁.setTop (mkF m 13 #[.val (.long q1), .second, .val (.int p2)] [(.double (9223372036854775808 : UInt64))])) _
        exact retOut X0 hx (t := .double) Bd.returns rfl (Or.inr (Or.inr (Or.inl ⟨rfl, rfl, _, rfl⟩))) (hb hby dc0_13) hr
      · show Qd q1 p2 h0 n0 _ s₁.heap _
        rw [e0]
        exact ⟨by simp [own_d, hc2, hc4], N0, rfl⟩
  · skip
    obtain ⟨fs, hr, hrun, hended, hW, hsame⟩ := X0.leave (v := some (.double (FP.l2d q1))) (fun h => by rw [Bd.returns] at h; cases h)
    refine ⟨_, _, pre1 _ ?_, hrun, hended, _, _, rfl, ?_, ⟨_, rfl⟩, hW, hsame.mono (by decide) (by decide)⟩
    · skip
      show Steps p.tables e below (s₁.setTop (mkF m 3 #[.val (.long q1), .second, .val (.int p2)] [(.int (lcmpW q1 (0 : Int64)))])) _
      refine XS.ifYes X0.here hx rfl (pc0 := 3) (pc' := 14) rfl (hb hby dc0_3) rfl ((if0 _ _).trans (feq (mt (lw_eq _ _).mp hc2)).2) (by decide) (by decide) ?_
      show Steps p.tables e below (s₁.setTop (mkF m 14 #[.val (.long q1), .second, .val (.int p2)] [])) _
      refine XS.lloadN X0.here hx rfl (hb hby dc0_14) rfl ?_
      show Steps p.tables e below (s₁.setTop (mkF m 15 #[.val (.long q1), .second, .val (.int p2)] [(.long q1)])) _
      refine XS.l2dS X0.here hx rfl (hb hby dc0_15) rfl rfl ?_
      show Steps p.tables e below (s₁.setTop (mkF m 16 #[.val (.long q1), .second, .val (.int p2)] [(.double (FP.l2d q1))])) _
      exact retOut X0 hx (t := .double) Bd.returns rfl (Or.inr (Or.inr (Or.inl ⟨rfl, rfl, _, rfl⟩))) (hb hby dc0_16) hr
    · show Qd q1 p2 h0 n0 _ s₁.heap _
      rw [e0]
      exact ⟨by simp [own_d, hc2], N0, rfl⟩
def Q_rmI (Z : State) (a1 : Addr) (x2 : UInt64) (x3 : UInt64) (h0 : Heap) (n0 : Nat) (v : Option Value) (h : Heap) (L : List Loc) : Prop := v = none ∧ Fr n0 L ∧ Keep h0 h [a1] ∧ Exa Z h a1 "com/example/corral/corral/streams/KeyRange" ∧ Fld Z h a1 "com/example/corral/corral/streams/KeyRange" "start" "D" (.double x2) ∧ Fld Z h a1 "com/example/corral/corral/streams/KeyRange" "end" "D" (.double x3)
theorem pn_1 : plainName "com/example/corral/corral/streams/KeyRange" = true := by first | (simp [plainName, overriddenIn]; done) | decide +kernel
theorem ef_1 (m : MethodId) (x0 : Addr) (x1 : UInt64) (x2 : UInt64) : entryFrame m #[(.ref x0), (.double x1), (.double x2)] 5 = mkF m 0 #[.val (.ref x0), .val (.double x1), .second, .val (.double x2), .second] [] := by first | (simp [entryFrame, mkF, argsToLocals, Value.category]; done) | rfl
theorem dc1_0 : decode prog_55_method_1_code 0 = .ok (.aload_n 0, 1) := by decide +kernel
theorem dc1_1 : decode prog_55_method_1_code 1 = .ok (.invokespecial 1, 3) := by decide +kernel
theorem dc1_4 : decode prog_55_method_1_code 4 = .ok (.aload_n 0, 1) := by decide +kernel
theorem dc1_5 : decode prog_55_method_1_code 5 = .ok (.dload_n 1, 1) := by decide +kernel
theorem dc1_6 : decode prog_55_method_1_code 6 = .ok (.putfield 7, 3) := by decide +kernel
theorem dc1_9 : decode prog_55_method_1_code 9 = .ok (.aload_n 0, 1) := by decide +kernel
theorem dc1_10 : decode prog_55_method_1_code 10 = .ok (.dload_n 3, 1) := by decide +kernel
theorem dc1_11 : decode prog_55_method_1_code 11 = .ok (.putfield 13, 3) := by decide +kernel
theorem dc1_14 : decode prog_55_method_1_code 14 = .ok (.return_, 1) := by decide +kernel
set_option maxRecDepth 65536 in
set_option maxHeartbeats 40000000 in
theorem rmI (l : Launch) (Z : State) (a0 : Array Value) (hw : ∀ d ∈ tables_1, d.before a0 Z = true) (ws : List Jvm.Cond) (a1 : Addr) (x2 : UInt64) (x3 : UInt64) (h0 : Heap) (n0 : Nat) (O0 : Old Z n0 h0) (E1 : Exa Z h0 a1 "com/example/corral/corral/streams/KeyRange") (F_start : Fld Z h0 a1 "com/example/corral/corral/streams/KeyRange" "start" "D" (.double (0 : UInt64))) (F_end : Fld Z h0 a1 "com/example/corral/corral/streams/KeyRange" "end" "D" (.double (0 : UInt64))) (g1 : n0 ≤ a1) :
    MetFree l (⟨"com/example/corral/corral/streams/KeyRange", "<init>", "(DD)V"⟩ : MethodName) (head1 (Jvm.Cond.code (⟨"com/example/corral/corral/streams/KeyRange", "<init>", "(DD)V"⟩ : MethodName) prog_55_method_1_code 5 none :: ws) ({ frames := 1, cells := 0, slots := 0, locals := 12 } : Room)) (fun a U => a = #[(.ref a1), (.double x2), (.double x3)] ∧ Z.Warmed39 U.vm ∧ U.heap = h0) (fun _ _ _ _ _ => True) (fun _ U o U' => ∃ v L, o = .returned v ∧ Q_rmI Z a1 x2 x3 h0 n0 v U'.heap L ∧ FrameEnd U o U' L ({ frames := 1, cells := 0, slots := 0, locals := 12 } : Room).cells ({ frames := 1, cells := 0, slots := 0, locals := 12 } : Room).slots) := by
  refine MetFree.of_bodySF (plainFor_of_name pn_1) hisR ?_
  intro p e s m args below meth c s₁ Bd hml0 hP hK
  obtain ⟨rfl, hZ, hh⟩ := hP
  have hx := Bd.exec
  have hby := Bd.bytes
  have hml : c.maxLocals = 5 := hml0
  have hown : s.vm.findClass "com/example/corral/corral/streams/KeyRange" = some m.cls := findClass_of_methodNamed Bd.named
  have hnm := (name_of_methodNamed Bd.named Bd.method).1
  have X0 : Stand p l e ({ frames := 1, cells := 0, slots := 0, locals := 12 } : Room) s m #[(.ref a1), (.double x2), (.double x3)] below meth c s₁ [] 0 0 := Stand.of_body Bd
  have e0 : s₁.heap = h0 := by rw [← hh, Bd.state]; rfl
  have N0 := Fr.nil n0
  have pre0 : ∀ t, Steps p.tables e below (s₁.setTop (mkF m 0 #[.val (.ref a1), .val (.double x2), .second, .val (.double x3), .second] [])) t → Steps p.tables e below (s₁.setTop (entryFrame m #[(.ref a1), (.double x2), (.double x3)] 5)) t := fun t k => castTop (ef_1 m a1 x2 x3) k
  obtain ⟨T1, X1, e1, st1⟩ := initO X0 hx hZ hown (hw _ (List.mem_of_getElem? (i := 11) rfl)) (hw _ (List.mem_of_getElem? (i := 12) rfl)) (hw _ (List.mem_of_getElem? (i := 13) rfl)) e0 (g := (mkF m 1 #[.val (.ref a1), .val (.double x2), .second, .val (.double x3), .second] [(.ref a1)])) rfl (by rw [hml]; rfl) rfl (hb hby dc1_1) (by decide) (W := 0) (by show 2 * 0 + _ ≤ _; exact Nat.le_of_eq rfl) (by decide)
  obtain ⟨T2, h2, X2, e2, W2, st2⟩ := putF X1 hx hZ hown (host := "") (Or.inl (hw _ (List.mem_of_getElem? (i := 14) rfl))) Via.refl e1 F_start E1 (Or.inr ⟨(hw _ (List.mem_of_getElem? (i := 15) rfl)), rfl, hnm⟩) (hw _ (List.mem_of_getElem? (i := 2) rfl)) (ty := .double) (by decide) rfl rfl (g := (mkF m 6 #[.val (.ref a1), .val (.double x2), .second, .val (.double x3), .second] [(.double x2), (.ref a1)])) rfl rfl (hb hby dc1_6)
  have Fw2 : Fld Z h2 a1 "com/example/corral/corral/streams/KeyRange" "start" "D" (.double x2) := Fld.same W2 F_start
  have N2 := Fr.snoc X2 N0 g1
  have f3 := (E1.wr W2)
  have f4 := (F_end.other W2 (Or.inr (slot_ne (Or.inr (hw _ (List.mem_of_getElem? (i := 17) rfl))) (Or.inr (hw _ (List.mem_of_getElem? (i := 15) rfl))) (by decide) (t := .double) (t' := .double) (by decide) (by decide))))
  obtain ⟨T5, h5, X5, e5, W5, st5⟩ := putF X2 hx hZ hown (host := "") (Or.inl (hw _ (List.mem_of_getElem? (i := 16) rfl))) Via.refl e2 f4 f3 (Or.inr ⟨(hw _ (List.mem_of_getElem? (i := 17) rfl)), rfl, hnm⟩) (hw _ (List.mem_of_getElem? (i := 2) rfl)) (ty := .double) (by decide) rfl rfl (g := (mkF m 11 #[.val (.ref a1), .val (.double x2), .second, .val (.double x3), .second] [(.double x3), (.ref a1)])) rfl rfl (hb hby dc1_11)
  have Fw5 : Fld Z h5 a1 "com/example/corral/corral/streams/KeyRange" "end" "D" (.double x3) := Fld.same W5 f4
  have N5 := Fr.snoc X5 N2 g1
  obtain ⟨fs, hr, hrun, hended, hW, hsame⟩ := X5.leave (v := none) (fun _ => rfl)
  have K6 : Keep h0 h5 [a1] := (Keep.wr (Keep.wr (Keep.refl h0 [a1]) W2 (Or.inl (List.mem_of_getElem? (i := 0) rfl))) W5 (Or.inl (List.mem_of_getElem? (i := 0) rfl)))
  have f7 := (f3.wr W5)
  have f8 := (Fw2.other W5 (Or.inr (slot_ne (Or.inr (hw _ (List.mem_of_getElem? (i := 15) rfl))) (Or.inr (hw _ (List.mem_of_getElem? (i := 17) rfl))) (by decide) (t := .double) (t' := .double) (by decide) (by decide))))
  refine ⟨_, _, pre0 _ ?_, hrun, hended, _, _, rfl, ?_, ⟨_, rfl⟩, hW, hsame.mono (by decide) (by decide)⟩
  · skip
    show Steps p.tables e below (s₁.setTop (mkF m 0 #[.val (.ref a1), .val (.double x2), .second, .val (.double x3), .second] [])) _
    refine XS.aloadN X0.here hx rfl (hb hby dc1_0) rfl rfl ?_
    show Steps p.tables e below (s₁.setTop (mkF m 1 #[.val (.ref a1), .val (.double x2), .second, .val (.double x3), .second] [(.ref a1)])) _
    refine st1 _ ?_
    show Steps p.tables e below (T1.setTop (mkF m 4 #[.val (.ref a1), .val (.double x2), .second, .val (.double x3), .second] [])) _
    refine XS.aloadN X1.here hx rfl (hb hby dc1_4) rfl rfl ?_
    show Steps p.tables e below (T1.setTop (mkF m 5 #[.val (.ref a1), .val (.double x2), .second, .val (.double x3), .second] [(.ref a1)])) _
    refine XS.dloadN X1.here hx rfl (hb hby dc1_5) rfl ?_
    show Steps p.tables e below (T1.setTop (mkF m 6 #[.val (.ref a1), .val (.double x2), .second, .val (.double x3), .second] [(.double x2), (.ref a1)])) _
    refine st2 _ ?_
    show Steps p.tables e below (T2.setTop (mkF m 9 #[.val (.ref a1), .val (.double x2), .second, .val (.double x3), .second] [])) _
    refine XS.aloadN X2.here hx rfl (hb hby dc1_9) rfl rfl ?_
    show Steps p.tables e below (T2.setTop (mkF m 10 #[.val (.ref a1), .val (.double x2), .second, .val (.double x3), .second] [(.ref a1)])) _
    refine XS.dloadN X2.here hx rfl (hb hby dc1_10) rfl ?_
    show Steps p.tables e below (T2.setTop (mkF m 11 #[.val (.ref a1), .val (.double x2), .second, .val (.double x3), .second] [(.double x3), (.ref a1)])) _
    refine st5 _ ?_
    show Steps p.tables e below (T5.setTop (mkF m 14 #[.val (.ref a1), .val (.double x2), .second, .val (.double x3), .second] [])) _
    exact X5.returnOut hx Bd.returns (hb hby dc1_14) hr
  · show Q_rmI Z a1 x2 x3 h0 n0 _ T5.heap _
    rw [e5]
    exact ⟨rfl, N5, K6, f7, f8, Fw5⟩
theorem ef_2 (m : MethodId) (x0 : Int64) (x1 : Int64) : entryFrame m #[(.long x0), (.long x1)] 4 = mkF m 0 #[.val (.long x0), .second, .val (.long x1), .second] [] := by first | (simp [entryFrame, mkF, argsToLocals, Value.category]; done) | rfl
theorem dc2_0 : decode jdk_29_method_66_code 0 = .ok (.lload_n 0, 1) := by decide +kernel
theorem dc2_1 : decode jdk_29_method_66_code 1 = .ok (.lload_n 2, 1) := by decide +kernel
theorem dc2_2 : decode jdk_29_method_66_code 2 = .ok (.lcmp, 1) := by decide +kernel
theorem dc2_3 : decode jdk_29_method_66_code 3 = .ok (.ifCond .lt 7, 3) := by decide +kernel
theorem dc2_10 : decode jdk_29_method_66_code 10 = .ok (.lload_n 2, 1) := by decide +kernel
theorem dc2_11 : decode jdk_29_method_66_code 11 = .ok (.lreturn, 1) := by decide +kernel
theorem dc2_6 : decode jdk_29_method_66_code 6 = .ok (.lload_n 0, 1) := by decide +kernel
theorem dc2_7 : decode jdk_29_method_66_code 7 = .ok (.goto 4, 3) := by decide +kernel
set_option maxRecDepth 65536 in
set_option maxHeartbeats 40000000 in
theorem rmX (l : Launch) (Z : State) (a0 : Array Value) (hw : ∀ d ∈ tables_1, d.before a0 Z = true) (ws : List Jvm.Cond) (q1 q2 : Int64) (h0 : Heap) (n0 : Nat) (O0 : Old Z n0 h0) :
    MetFree l (⟨"java/lang/Math", "max", "(JJ)J"⟩ : MethodName) (head1 (Jvm.Cond.code (⟨"java/lang/Math", "max", "(JJ)J"⟩ : MethodName) jdk_29_method_66_code 4 (some .long) :: ws) ({ frames := 0, cells := 0, slots := 0, locals := 0 } : Room)) (fun a U => a = #[(.long q1), (.long q2)] ∧ Z.Warmed39 U.vm ∧ U.heap = h0) (fun _ _ _ _ _ => True) (fun _ U o U' => ∃ v L, o = .returned v ∧ Qx q1 q2 h0 n0 v U'.heap L ∧ FrameEnd U o U' L ({ frames := 0, cells := 0, slots := 0, locals := 0 } : Room).cells ({ frames := 0, cells := 0, slots := 0, locals := 0 } : Room).slots) := by
  refine MetFree.of_bodySF (Jvm.Free.JP.mathPlain rfl (by decide +kernel)) hisR ?_
  intro p e s m args below meth c s₁ Bd hml0 hP hK
  obtain ⟨rfl, hZ, hh⟩ := hP
  have hx := Bd.exec
  have hby := Bd.bytes
  have hml : c.maxLocals = 4 := hml0
  have hown : s.vm.findClass "java/lang/Math" = some m.cls := findClass_of_methodNamed Bd.named
  have hnm := (name_of_methodNamed Bd.named Bd.method).1
  have X0 : Stand p l e ({ frames := 0, cells := 0, slots := 0, locals := 0 } : Room) s m #[(.long q1), (.long q2)] below meth c s₁ [] 0 0 := Stand.of_body Bd
  have e0 : s₁.heap = h0 := by rw [← hh, Bd.state]; rfl
  have N0 := Fr.nil n0
  have pre0 : ∀ t, Steps p.tables e below (s₁.setTop (mkF m 0 #[.val (.long q1), .second, .val (.long q2), .second] [])) t → Steps p.tables e below (s₁.setTop (entryFrame m #[(.long q1), (.long q2)] 4)) t := fun t k => castTop (ef_2 m q1 q2) k
  have pre1 : ∀ t, Steps p.tables e below (s₁.setTop (mkF m 3 #[.val (.long q1), .second, .val (.long q2), .second] [(.int (lcmpW q1 q2))])) t → Steps p.tables e below (s₁.setTop (entryFrame m #[(.long q1), (.long q2)] 4)) t := fun t kt => pre0 t (by
      show Steps p.tables e below (s₁.setTop (mkF m 0 #[.val (.long q1), .second, .val (.long q2), .second] [])) _
      refine XS.lloadN X0.here hx rfl (hb hby dc2_0) rfl ?_
      show Steps p.tables e below (s₁.setTop (mkF m 1 #[.val (.long q1), .second, .val (.long q2), .second] [(.long q1)])) _
      refine XS.lloadN X0.here hx rfl (hb hby dc2_1) rfl ?_
      show Steps p.tables e below (s₁.setTop (mkF m 2 #[.val (.long q1), .second, .val (.long q2), .second] [(.long q2), (.long q1)])) _
      refine XS.lcmp X0.here hx rfl (hb hby dc2_2) rfl ?_
      exact kt)
  by_cases hc2 : q1 < q2
  · skip
    obtain ⟨fs, hr, hrun, hended, hW, hsame⟩ := X0.leave (v := some (.long q2)) (fun h => by rw [Bd.returns] at h; cases h)
    refine ⟨_, _, pre1 _ ?_, hrun, hended, _, _, rfl, ?_, ⟨_, rfl⟩, hW, hsame.mono (by decide) (by decide)⟩
    · skip
      show Steps p.tables e below (s₁.setTop (mkF m 3 #[.val (.long q1), .second, .val (.long q2), .second] [(.int (lcmpW q1 q2))])) _
      refine XS.ifYes X0.here hx rfl (pc0 := 3) (pc' := 10) rfl (hb hby dc2_3) rfl ((if0 _ _).trans (tlt ((lw_lt _ _).mpr hc2)).1) (by decide) (by decide) ?_
      show Steps p.tables e below (s₁.setTop (mkF m 10 #[.val (.long q1), .second, .val (.long q2), .second] [])) _
      refine XS.lloadN X0.here hx rfl (hb hby dc2_10) rfl ?_
      show Steps p.tables e below (s₁.setTop (mkF m 11 #[.val (.long q1), .second, .val (.long q2), .second] [(.long q2)])) _
      exact retOut X0 hx (t := .long) Bd.returns rfl (Or.inr (Or.inl ⟨rfl, rfl, _, rfl⟩)) (hb hby dc2_11) hr
    · show Qx q1 q2 h0 n0 _ s₁.heap _
      rw [e0]
      exact ⟨by simp [own_max, hc2], N0, rfl⟩
  · skip
    obtain ⟨fs, hr, hrun, hended, hW, hsame⟩ := X0.leave (v := some (.long q1)) (fun h => by rw [Bd.returns] at h; cases h)
    refine ⟨_, _, pre1 _ ?_, hrun, hended, _, _, rfl, ?_, ⟨_, rfl⟩, hW, hsame.mono (by decide) (by decide)⟩
    · skip
      show Steps p.tables e below (s₁.setTop (mkF m 3 #[.val (.long q1), .second, .val (.long q2), .second] [(.int (lcmpW q1 q2))])) _
      refine XS.ifNo X0.here hx rfl (hb hby dc2_3) rfl ((if0 _ _).trans (flt (mt (lw_lt _ _).mp hc2)).1) ?_
      show Steps p.tables e below (s₁.setTop (mkF m 6 #[.val (.long q1), .second, .val (.long q2), .second] [])) _
      refine XS.lloadN X0.here hx rfl (hb hby dc2_6) rfl ?_
      show Steps p.tables e below (s₁.setTop (mkF m 7 #[.val (.long q1), .second, .val (.long q2), .second] [(.long q1)])) _
      refine XS.goto X0.here hx rfl (pc0 := 7) (pc' := 11) rfl (hb hby dc2_7) (by decide) (by decide) ?_
      show Steps p.tables e below (s₁.setTop (mkF m 11 #[.val (.long q1), .second, .val (.long q2), .second] [(.long q1)])) _
      exact retOut X0 hx (t := .long) Bd.returns rfl (Or.inr (Or.inl ⟨rfl, rfl, _, rfl⟩)) (hb hby dc2_11) hr
    · show Qx q1 q2 h0 n0 _ s₁.heap _
      rw [e0]
      exact ⟨by simp [own_max, hc2], N0, rfl⟩
theorem dc3_0 : decode jdk_29_method_70_code 0 = .ok (.lload_n 0, 1) := by decide +kernel
theorem dc3_1 : decode jdk_29_method_70_code 1 = .ok (.lload_n 2, 1) := by decide +kernel
theorem dc3_2 : decode jdk_29_method_70_code 2 = .ok (.lcmp, 1) := by decide +kernel
theorem dc3_3 : decode jdk_29_method_70_code 3 = .ok (.ifCond .gt 7, 3) := by decide +kernel
theorem dc3_10 : decode jdk_29_method_70_code 10 = .ok (.lload_n 2, 1) := by decide +kernel
theorem dc3_11 : decode jdk_29_method_70_code 11 = .ok (.lreturn, 1) := by decide +kernel
theorem dc3_6 : decode jdk_29_method_70_code 6 = .ok (.lload_n 0, 1) := by decide +kernel
theorem dc3_7 : decode jdk_29_method_70_code 7 = .ok (.goto 4, 3) := by decide +kernel
set_option maxRecDepth 65536 in
set_option maxHeartbeats 40000000 in
theorem rmN (l : Launch) (Z : State) (a0 : Array Value) (hw : ∀ d ∈ tables_1, d.before a0 Z = true) (ws : List Jvm.Cond) (q1 q2 : Int64) (h0 : Heap) (n0 : Nat) (O0 : Old Z n0 h0) :
    MetFree l (⟨"java/lang/Math", "min", "(JJ)J"⟩ : MethodName) (head1 (Jvm.Cond.code (⟨"java/lang/Math", "min", "(JJ)J"⟩ : MethodName) jdk_29_method_70_code 4 (some .long) :: ws) ({ frames := 0, cells := 0, slots := 0, locals := 0 } : Room)) (fun a U => a = #[(.long q1), (.long q2)] ∧ Z.Warmed39 U.vm ∧ U.heap = h0) (fun _ _ _ _ _ => True) (fun _ U o U' => ∃ v L, o = .returned v ∧ Qi q1 q2 h0 n0 v U'.heap L ∧ FrameEnd U o U' L ({ frames := 0, cells := 0, slots := 0, locals := 0 } : Room).cells ({ frames := 0, cells := 0, slots := 0, locals := 0 } : Room).slots) := by
  refine MetFree.of_bodySF (Jvm.Free.JP.mathPlain rfl (by decide +kernel)) hisR ?_
  intro p e s m args below meth c s₁ Bd hml0 hP hK
  obtain ⟨rfl, hZ, hh⟩ := hP
  have hx := Bd.exec
  have hby := Bd.bytes
  have hml : c.maxLocals = 4 := hml0
  have hown : s.vm.findClass "java/lang/Math" = some m.cls := findClass_of_methodNamed Bd.named
  have hnm := (name_of_methodNamed Bd.named Bd.method).1
  have X0 : Stand p l e ({ frames := 0, cells := 0, slots := 0, locals := 0 } : Room) s m #[(.long q1), (.long q2)] below meth c s₁ [] 0 0 := Stand.of_body Bd
  have e0 : s₁.heap = h0 := by rw [← hh, Bd.state]; rfl
  have N0 := Fr.nil n0
  have pre0 : ∀ t, Steps p.tables e below (s₁.setTop (mkF m 0 #[.val (.long q1), .second, .val (.long q2), .second] [])) t → Steps p.tables e below (s₁.setTop (entryFrame m #[(.long q1), (.long q2)] 4)) t := fun t k => castTop (ef_2 m q1 q2) k
  have pre1 : ∀ t, Steps p.tables e below (s₁.setTop (mkF m 3 #[.val (.long q1), .second, .val (.long q2), .second] [(.int (lcmpW q1 q2))])) t → Steps p.tables e below (s₁.setTop (entryFrame m #[(.long q1), (.long q2)] 4)) t := fun t kt => pre0 t (by
      show Steps p.tables e below (s₁.setTop (mkF m 0 #[.val (.long q1), .second, .val (.long q2), .second] [])) _
      refine XS.lloadN X0.here hx rfl (hb hby dc3_0) rfl ?_
      show Steps p.tables e below (s₁.setTop (mkF m 1 #[.val (.long q1), .second, .val (.long q2), .second] [(.long q1)])) _
      refine XS.lloadN X0.here hx rfl (hb hby dc3_1) rfl ?_
      show Steps p.tables e below (s₁.setTop (mkF m 2 #[.val (.long q1), .second, .val (.long q2), .second] [(.long q2), (.long q1)])) _
      refine XS.lcmp X0.here hx rfl (hb hby dc3_2) rfl ?_
      exact kt)
  by_cases hc2 : q2 < q1
  · skip
    obtain ⟨fs, hr, hrun, hended, hW, hsame⟩ := X0.leave (v := some (.long q2)) (fun h => by rw [Bd.returns] at h; cases h)
    refine ⟨_, _, pre1 _ ?_, hrun, hended, _, _, rfl, ?_, ⟨_, rfl⟩, hW, hsame.mono (by decide) (by decide)⟩
    · skip
      show Steps p.tables e below (s₁.setTop (mkF m 3 #[.val (.long q1), .second, .val (.long q2), .second] [(.int (lcmpW q1 q2))])) _
      refine XS.ifYes X0.here hx rfl (pc0 := 3) (pc' := 10) rfl (hb hby dc3_3) rfl ((if0 _ _).trans (tlt ((lw_gt _ _).mpr hc2)).2.2.1) (by decide) (by decide) ?_
      show Steps p.tables e below (s₁.setTop (mkF m 10 #[.val (.long q1), .second, .val (.long q2), .second] [])) _
      refine XS.lloadN X0.here hx rfl (hb hby dc3_10) rfl ?_
      show Steps p.tables e below (s₁.setTop (mkF m 11 #[.val (.long q1), .second, .val (.long q2), .second] [(.long q2)])) _
      exact retOut X0 hx (t := .long) Bd.returns rfl (Or.inr (Or.inl ⟨rfl, rfl, _, rfl⟩)) (hb hby dc3_11) hr
    · show Qi q1 q2 h0 n0 _ s₁.heap _
      rw [e0]
      exact ⟨by simp [own_min, hc2], N0, rfl⟩
  · skip
    obtain ⟨fs, hr, hrun, hended, hW, hsame⟩ := X0.leave (v := some (.long q1)) (fun h => by rw [Bd.returns] at h; cases h)
    refine ⟨_, _, pre1 _ ?_, hrun, hended, _, _, rfl, ?_, ⟨_, rfl⟩, hW, hsame.mono (by decide) (by decide)⟩
    · skip
      show Steps p.tables e below (s₁.setTop (mkF m 3 #[.val (.long q1), .second, .val (.long q2), .second] [(.int (lcmpW q1 q2))])) _
      refine XS.ifNo X0.here hx rfl (hb hby dc3_3) rfl ((if0 _ _).trans (flt (mt (lw_gt _ _).mp hc2)).2.2.1) ?_
      show Steps p.tables e below (s₁.setTop (mkF m 6 #[.val (.long q1), .second, .val (.long q2), .second] [])) _
      refine XS.lloadN X0.here hx rfl (hb hby dc3_6) rfl ?_
      show Steps p.tables e below (s₁.setTop (mkF m 7 #[.val (.long q1), .second, .val (.long q2), .second] [(.long q1)])) _
      refine XS.goto X0.here hx rfl (pc0 := 7) (pc' := 11) rfl (hb hby dc3_7) (by decide) (by decide) ?_
      show Steps p.tables e below (s₁.setTop (mkF m 11 #[.val (.long q1), .second, .val (.long q2), .second] [(.long q1)])) _
      exact retOut X0 hx (t := .long) Bd.returns rfl (Or.inr (Or.inl ⟨rfl, rfl, _, rfl⟩)) (hb hby dc3_11) hr
    · show Qi q1 q2 h0 n0 _ s₁.heap _
      rw [e0]
      exact ⟨by simp [own_min, hc2], N0, rfl⟩
theorem ef_3 (m : MethodId) (x0 : Addr) (x1 : Addr) : entryFrame m #[(.ref x0), (.ref x1)] 2 = mkF m 0 #[.val (.ref x0), .val (.ref x1)] [] := by first | (simp [entryFrame, mkF, argsToLocals, Value.category]; done) | rfl
theorem dc4_0 : decode prog_55_method_4_code 0 = .ok (.aload_n 0, 1) := by decide +kernel
theorem dc4_1 : decode prog_55_method_4_code 1 = .ok (.getfield 7, 3) := by decide +kernel
theorem dc4_4 : decode prog_55_method_4_code 4 = .ok (.aload_n 1, 1) := by decide +kernel
theorem dc4_5 : decode prog_55_method_4_code 5 = .ok (.getfield 13, 3) := by decide +kernel
theorem dc4_8 : decode prog_55_method_4_code 8 = .ok (.dcmp .g, 1) := by decide +kernel
theorem dc4_9 : decode prog_55_method_4_code 9 = .ok (.ifCond .ge 19, 3) := by decide +kernel
theorem dc4_12 : decode prog_55_method_4_code 12 = .ok (.aload_n 1, 1) := by decide +kernel
theorem dc4_13 : decode prog_55_method_4_code 13 = .ok (.getfield 7, 3) := by decide +kernel
theorem dc4_16 : decode prog_55_method_4_code 16 = .ok (.aload_n 0, 1) := by decide +kernel
theorem dc4_17 : decode prog_55_method_4_code 17 = .ok (.getfield 13, 3) := by decide +kernel
theorem dc4_20 : decode prog_55_method_4_code 20 = .ok (.dcmp .g, 1) := by decide +kernel
theorem dc4_21 : decode prog_55_method_4_code 21 = .ok (.ifCond .ge 7, 3) := by decide +kernel
theorem dc4_24 : decode prog_55_method_4_code 24 = .ok (.iconst 1, 1) := by decide +kernel
theorem dc4_25 : decode prog_55_method_4_code 25 = .ok (.goto 4, 3) := by decide +kernel
theorem dc4_29 : decode prog_55_method_4_code 29 = .ok (.ireturn, 1) := by decide +kernel
theorem dc4_28 : decode prog_55_method_4_code 28 = .ok (.iconst 0, 1) := by decide +kernel
set_option maxRecDepth 65536 in
set_option maxHeartbeats 40000000 in
theorem rmO (l : Launch) (Z : State) (a0 : Array Value) (hw : ∀ d ∈ tables_1, d.before a0 Z = true) (ws : List Jvm.Cond) (a1 a2 : Addr) (ds1 de1 ds2 de2 : UInt64) (va vb vc vd : Int64) (h0 : Heap) (n0 : Nat) (O0 : Old Z n0 h0) (F1 : Fld Z h0 a1 "com/example/corral/corral/streams/KeyRange" "start" "D" (.double ds1)) (F2 : Fld Z h0 a1 "com/example/corral/corral/streams/KeyRange" "end" "D" (.double de1)) (F3 : Fld Z h0 a2 "com/example/corral/corral/streams/KeyRange" "start" "D" (.double ds2)) (F4 : Fld Z h0 a2 "com/example/corral/corral/streams/KeyRange" "end" "D" (.double de2)) (hA : (cmpValue (FP.dcmp ds1 de2) .g) = (lcmpW va vd)) (hB : (cmpValue (FP.dcmp ds2 de1) .g) = (lcmpW vc vb)) :
    MetFree l (⟨"com/example/corral/corral/streams/KeyRange", "overlaps", "(Lcom/example/corral/corral/streams/KeyRange;)Z"⟩ : MethodName) (head1 (Jvm.Cond.code (⟨"com/example/corral/corral/streams/KeyRange", "overlaps", "(Lcom/example/corral/corral/streams/KeyRange;)Z"⟩ : MethodName) prog_55_method_4_code 2 (some .boolean) :: ws) ({ frames := 0, cells := 0, slots := 0, locals := 0 } : Room)) (fun a U => a = #[(.ref a1), (.ref a2)] ∧ Z.Warmed39 U.vm ∧ U.heap = h0) (fun _ _ _ _ _ => True) (fun _ U o U' => ∃ v L, o = .returned v ∧ Qo va vb vc vd h0 n0 v U'.heap L ∧ FrameEnd U o U' L ({ frames := 0, cells := 0, slots := 0, locals := 0 } : Room).cells ({ frames := 0, cells := 0, slots := 0, locals := 0 } : Room).slots) := by
  refine MetFree.of_bodySF (plainFor_of_name pn_1) hisR ?_
  intro p e s m args below meth c s₁ Bd hml0 hP hK
  obtain ⟨rfl, hZ, hh⟩ := hP
  have hx := Bd.exec
  have hby := Bd.bytes
  have hml : c.maxLocals = 2 := hml0
  have hown : s.vm.findClass "com/example/corral/corral/streams/KeyRange" = some m.cls := findClass_of_methodNamed Bd.named
  have hnm := (name_of_methodNamed Bd.named Bd.method).1
  have X0 : Stand p l e ({ frames := 0, cells := 0, slots := 0, locals := 0 } : Room) s m #[(.ref a1), (.ref a2)] below meth c s₁ [] 0 0 := Stand.of_body Bd
  have e0 : s₁.heap = h0 := by rw [← hh, Bd.state]; rfl
  have N0 := Fr.nil n0
  have pre0 : ∀ t, Steps p.tables e below (s₁.setTop (mkF m 0 #[.val (.ref a1), .val (.ref a2)] [])) t → Steps p.tables e below (s₁.setTop (entryFrame m #[(.ref a1), (.ref a2)] 2)) t := fun t k => castTop (ef_3 m a1 a2) k
  obtain ⟨T1, X1, e1, st1⟩ := getF X0 hx hZ hown (host := "") (Or.inl (hw _ (List.mem_of_getElem? (i := 14) rfl))) Via.refl e0 F1 (g := (mkF m 1 #[.val (.ref a1), .val (.ref a2)] [(.ref a1)])) rfl rfl (hb hby dc4_1)
  obtain ⟨T2, X2, e2, st2⟩ := getF X1 hx hZ hown (host := "") (Or.inl (hw _ (List.mem_of_getElem? (i := 16) rfl))) Via.refl e1 F4 (g := (mkF m 5 #[.val (.ref a1), .val (.ref a2)] [(.ref a2), (.double ds1)])) rfl rfl (hb hby dc4_5)
  have pre3 : ∀ t, Steps p.tables e below (T2.setTop (mkF m 9 #[.val (.ref a1), .val (.ref a2)] [(.int (lcmpW va vd))])) t → Steps p.tables e below (s₁.setTop (entryFrame m #[(.ref a1), (.ref a2)] 2)) t := fun t kt => pre0 t (by
      show Steps p.tables e below (s₁.setTop (mkF m 0 #[.val (.ref a1), .val (.ref a2)] [])) _
      refine XS.aloadN X0.here hx rfl (hb hby dc4_0) rfl rfl ?_
      show Steps p.tables e below (s₁.setTop (mkF m 1 #[.val (.ref a1), .val (.ref a2)] [(.ref a1)])) _
      refine st1 _ ?_
      show Steps p.tables e below (T1.setTop (mkF m 4 #[.val (.ref a1), .val (.ref a2)] [(.double ds1)])) _
      refine XS.aloadN X1.here hx rfl (hb hby dc4_4) rfl rfl ?_
      show Steps p.tables e below (T1.setTop (mkF m 5 #[.val (.ref a1), .val (.ref a2)] [(.ref a2), (.double ds1)])) _
      refine st2 _ ?_
      show Steps p.tables e below (T2.setTop (mkF m 8 #[.val (.ref a1), .val (.ref a2)] [(.double de2), (.double ds1)])) _
      refine XS.dcmpS X2.here hx rfl (hb hby dc4_8) rfl rfl ?_
      show Steps p.tables e below (T2.setTop (mkF m 9 #[.val (.ref a1), .val (.ref a2)] [(.int (cmpValue (FP.dcmp ds1 de2) .g))])) _
      rw [hA]
      exact kt)
  by_cases hc4 : va < vd
  · skip
    obtain ⟨T5, X5, e5, st5⟩ := getF X2 hx hZ hown (host := "") (Or.inl (hw _ (List.mem_of_getElem? (i := 14) rfl))) Via.refl e2 F3 (g := (mkF m 13 #[.val (.ref a1), .val (.ref a2)] [(.ref a2)])) rfl rfl (hb hby dc4_13)
    obtain ⟨T6, X6, e6, st6⟩ := getF X5 hx hZ hown (host := "") (Or.inl (hw _ (List.mem_of_getElem? (i := 16) rfl))) Via.refl e5 F2 (g := (mkF m 17 #[.val (.ref a1), .val (.ref a2)] [(.ref a1), (.double ds2)])) rfl rfl (hb hby dc4_17)
    have pre7 : ∀ t, Steps p.tables e below (T6.setTop (mkF m 21 #[.val (.ref a1), .val (.ref a2)] [(.int (lcmpW vc vb))])) t → Steps p.tables e below (s₁.setTop (entryFrame m #[(.ref a1), (.ref a2)] 2)) t := fun t kt => pre3 t (by
        show Steps p.tables e below (T2.setTop (mkF m 9 #[.val (.ref a1), .val (.ref a2)] [(.int (lcmpW va vd))])) _
        refine XS.ifNo X2.here hx rfl (hb hby dc4_9) rfl ((if0 _ _).trans (tlt ((lw_lt _ _).mpr hc4)).2.1) ?_
        show Steps p.tables e below (T2.setTop (mkF m 12 #[.val (.ref a1), .val (.ref a2)] [])) _
        refine XS.aloadN X2.here hx rfl (hb hby dc4_12) rfl rfl ?_
        show Steps p.tables e below (T2.setTop (mkF m 13 #[.val (.ref a1), .val (.ref a2)] [(.ref a2)])) _
        refine st5 _ ?_
        show Steps p.tables e below (T5.setTop (mkF m 16 #[.val (.ref a1), .val (.ref a2)] [(.double ds2)])) _
        refine XS.aloadN X5.here hx rfl (hb hby dc4_16) rfl rfl ?_
        show Steps p.tables e below (T5.setTop (mkF m 17 #[.val (.ref a1), .val (.ref a2)] [(.ref a1), (.double ds2)])) _
        refine st6 _ ?_
        show Steps p.tables e below (T6.setTop (mkF m 20 #[.val (.ref a1), .val (.ref a2)] [(.double de1), (.double ds2)])) _
        refine XS.dcmpS X6.here hx rfl (hb hby dc4_20) rfl rfl ?_
        show Steps p.tables e below (T6.setTop (mkF m 21 #[.val (.ref a1), .val (.ref a2)] [(.int (cmpValue (FP.dcmp ds2 de1) .g))])) _
        rw [hB]
        exact kt)
    by_cases hc8 : vc < vb
    · skip
      obtain ⟨fs, hr, hrun, hended, hW, hsame⟩ := X6.leave (v := some (.int (1 : Int32))) (fun h => by rw [Bd.returns] at h; cases h)
      refine ⟨_, _, pre7 _ ?_, hrun, hended, _, _, rfl, ?_, ⟨_, rfl⟩, hW, hsame.mono (by decide) (by decide)⟩
      · skip
        show Steps p.tables e below (T6.setTop (mkF m 21 #[.val (.ref a1), .val (.ref a2)] [(.int (lcmpW vc vb))])) _
        refine XS.ifNo X6.here hx rfl (hb hby dc4_21) rfl ((if0 _ _).trans (tlt ((lw_lt _ _).mpr hc8)).2.1) ?_
        show Steps p.tables e below (T6.setTop (mkF m 24 #[.val (.ref a1), .val (.ref a2)] [])) _
        refine XS.iconst X6.here hx rfl (hb hby dc4_24) ?_
        show Steps p.tables e below (T6.setTop (mkF m 25 #[.val (.ref a1), .val (.ref a2)] [(.int (1 : Int32))])) _
        refine XS.goto X6.here hx rfl (pc0 := 25) (pc' := 29) rfl (hb hby dc4_25) (by decide) (by decide) ?_
        show Steps p.tables e below (T6.setTop (mkF m 29 #[.val (.ref a1), .val (.ref a2)] [(.int (1 : Int32))])) _
        exact retN X6 hx (t := .boolean) Bd.returns (by simp) (hb hby dc4_29) hr
      · show Qo va vb vc vd h0 n0 _ T6.heap _
        rw [e6]
        exact ⟨by simp [own_ov, hc4, hc8], N0, rfl⟩
    · skip
      obtain ⟨fs, hr, hrun, hended, hW, hsame⟩ := X6.leave (v := some (.int (0 : Int32))) (fun h => by rw [Bd.returns] at h; cases h)
      refine ⟨_, _, pre7 _ ?_, hrun, hended, _, _, rfl, ?_, ⟨_, rfl⟩, hW, hsame.mono (by decide) (by decide)⟩
      · skip
        show Steps p.tables e below (T6.setTop (mkF m 21 #[.val (.ref a1), .val (.ref a2)] [(.int (lcmpW vc vb))])) _
        refine XS.ifYes X6.here hx rfl (pc0 := 21) (pc' := 28) rfl (hb hby dc4_21) rfl ((if0 _ _).trans (flt (mt (lw_lt _ _).mp hc8)).2.1) (by decide) (by decide) ?_
        show Steps p.tables e below (T6.setTop (mkF m 28 #[.val (.ref a1), .val (.ref a2)] [])) _
        refine XS.iconst X6.here hx rfl (hb hby dc4_28) ?_
        show Steps p.tables e below (T6.setTop (mkF m 29 #[.val (.ref a1), .val (.ref a2)] [(.int (0 : Int32))])) _
        exact retN X6 hx (t := .boolean) Bd.returns (by simp) (hb hby dc4_29) hr
      · show Qo va vb vc vd h0 n0 _ T6.heap _
        rw [e6]
        exact ⟨by simp [own_ov, hc4, hc8], N0, rfl⟩
  · skip
    obtain ⟨fs, hr, hrun, hended, hW, hsame⟩ := X2.leave (v := some (.int (0 : Int32))) (fun h => by rw [Bd.returns] at h; cases h)
    refine ⟨_, _, pre3 _ ?_, hrun, hended, _, _, rfl, ?_, ⟨_, rfl⟩, hW, hsame.mono (by decide) (by decide)⟩
    · skip
      show Steps p.tables e below (T2.setTop (mkF m 9 #[.val (.ref a1), .val (.ref a2)] [(.int (lcmpW va vd))])) _
      refine XS.ifYes X2.here hx rfl (pc0 := 9) (pc' := 28) rfl (hb hby dc4_9) rfl ((if0 _ _).trans (flt (mt (lw_lt _ _).mp hc4)).2.1) (by decide) (by decide) ?_
      show Steps p.tables e below (T2.setTop (mkF m 28 #[.val (.ref a1), .val (.ref a2)] [])) _
      refine XS.iconst X2.here hx rfl (hb hby dc4_28) ?_
      show Steps p.tables e below (T2.setTop (mkF m 29 #[.val (.ref a1), .val (.ref a2)] [(.int (0 : Int32))])) _
      exact retN X2 hx (t := .boolean) Bd.returns (by simp) (hb hby dc4_29) hr
    · show Qo va vb vc vd h0 n0 _ T2.heap _
      rw [e2]
      exact ⟨by simp [own_ov, hc4], N0, rfl⟩
theorem ef_4 (m : MethodId) (x0 : Int32) (x1 : Int64) (x2 : Int32) (x3 : Int64) (x4 : Int32) : entryFrame m #[(.int x0), (.long x1), (.int x2), (.long x3), (.int x4)] maxLocals = mkF m 0 #[.val (.int x0), .val (.long x1), .second, .val (.int x2), .val (.long x3), .second, .val (.int x4), .unset, .unset, .unset, .unset, .unset, .unset, .unset, .unset, .unset, .unset, .unset] [] := by first | (simp [entryFrame, mkF, argsToLocals, Value.category, maxLocals]; done) | rfl
theorem pd_0 : parseMethodDescriptor "(JZ)D" = some ⟨[.long, .boolean], some .double⟩ := by decide +kernel
theorem pd_1 : parseMethodDescriptor "(DD)V" = some ⟨[.double, .double], none⟩ := by decide +kernel
theorem pd_2 : parseMethodDescriptor "(JJ)J" = some ⟨[.long, .long], some .long⟩ := by decide +kernel
theorem pd_3 : parseMethodDescriptor "(Lcom/example/corral/corral/streams/KeyRange;)Z" = some ⟨[(.object "com/example/corral/corral/streams/KeyRange")], some .boolean⟩ := by decide +kernel
set_option maxRecDepth 65536 in
set_option maxHeartbeats 40000000 in
theorem rm0 (l : Launch) (Z : State) (a0 : Array Value) (hw : ∀ d ∈ tables_1, d.before a0 Z = true) (ws : List Jvm.Cond) (i0 : Int32) (i1 : Int64) (i2 : Int32) (i3 : Int64) (i4 : Int32) (h0 : Heap) (n0 : Nat) (O0 : Old Z n0 h0) :
    MetFree l x (head1 (Jvm.Cond.code x code maxLocals ret :: ws) room_1) (fun a U => a = #[(.int i0), (.long i1), (.int i2), (.long i3), (.int i4)] ∧ Z.Warmed39 U.vm ∧ U.heap = h0) (fun _ _ _ _ _ => True) (fun _ U o U' => ∃ v L, o = .returned v ∧ QL n0 v U'.heap L ∧ FrameEnd U o U' L room_1.cells room_1.slots) := by
  refine MetFree.of_bodySF (plainFor_of_name pn_0) hisR ?_
  intro p e s m args below meth c s₁ Bd hml0 hP hK
  obtain ⟨rfl, hZ, hh⟩ := hP
  have hx := Bd.exec
  have hby := Bd.bytes
  have hml : c.maxLocals = 18 := hml0
  have hown : s.vm.findClass "com/example/corral/corral/streams/KeyRangeOverlapsPinLaw" = some m.cls := findClass_of_methodNamed Bd.named
  have hnm := (name_of_methodNamed Bd.named Bd.method).1
  have X0 : Stand p l e room_1 s m #[(.int i0), (.long i1), (.int i2), (.long i3), (.int i4)] below meth c s₁ [] 0 0 := Stand.of_body Bd
  have e0 : s₁.heap = h0 := by rw [← hh, Bd.state]; rfl
  have N0 := Fr.nil n0
  have pre0 : ∀ t, Steps p.tables e below (s₁.setTop (mkF m 0 #[.val (.int i0), .val (.long i1), .second, .val (.int i2), .val (.long i3), .second, .val (.int i4), .unset, .unset, .unset, .unset, .unset, .unset, .unset, .unset, .unset, .unset, .unset] [])) t → Steps p.tables e below (s₁.setTop (entryFrame m #[(.int i0), (.long i1), (.int i2), (.long i3), (.int i4)] maxLocals)) t := fun t k => castTop (ef_4 m i0 i1 i2 i3 i4) k
  obtain ⟨T1, h1, X1, e1, E1, A1, D1, -, st1⟩ := newO X0 hx hZ hown (hw _ (List.mem_of_getElem? (i := 1) rfl)) (hw _ (List.mem_of_getElem? (i := 2) rfl)) (hw _ (List.mem_of_getElem? (i := 3) rfl)) e0 (g := (mkF m 33 #[.val (.int i0), .val (.long i1), .second, .val (.int i2), .val (.long i3), .second, .val (.int i4), .val (.long (i0.toInt64)), .second, .val (.long (((i0.toInt64) + (1 : Int64)) + (i1 &&& (4294967295 : Int64)))), .second, .val (.long (i2.toInt64)), .second, .val (.long (((i2.toInt64) + (1 : Int64)) + (i3 &&& (4294967295 : Int64)))), .second, .unset, .unset, .unset] [])) rfl (hb hby at_33) (by decide) (by decide)
  obtain ⟨b1, g1⟩ : ∃ z, z = h0.size := ⟨_, rfl⟩
  rw [← g1] at A1 D1 st1
  have gb1 : n0 ≤ b1 := by rw [g1, ← O0.1]; exact O0.2.1
  have F1_start : Fld Z h1 b1 "com/example/corral/corral/streams/KeyRange" "start" "D" (.double (0 : UInt64)) := D1 (Or.inr (hw _ (List.mem_of_getElem? (i := 15) rfl))) (ty := .double) (by decide)
  have F1_end : Fld Z h1 b1 "com/example/corral/corral/streams/KeyRange" "end" "D" (.double (0 : UInt64)) := D1 (Or.inr (hw _ (List.mem_of_getElem? (i := 17) rfl))) (ty := .double) (by decide)
  have jn2 : ∃ z2 : Int32, (((i4 &&& (1 : Int32)) = (0 : Int32)) ∧ z2 = (0 : Int32) ∨ ¬ ((i4 &&& (1 : Int32)) = (0 : Int32)) ∧ z2 = (1 : Int32)) ∧ ∀ t, Steps p.tables e below (T1.setTop (mkF m 51 #[.val (.int i0), .val (.long i1), .second, .val (.int i2), .val (.long i3), .second, .val (.int i4), .val (.long (i0.toInt64)), .second, .val (.long (((i0.toInt64) + (1 : Int64)) + (i1 &&& (4294967295 : Int64)))), .second, .val (.long (i2.toInt64)), .second, .val (.long (((i2.toInt64) + (1 : Int64)) + (i3 &&& (4294967295 : Int64)))), .second, .unset, .unset, .unset] [(.int z2), (.long (i0.toInt64)), (.ref b1), (.ref b1)])) t → Steps p.tables e below (s₁.setTop (entryFrame m #[(.int i0), (.long i1), (.int i2), (.long i3), (.int i4)] maxLocals)) t := by
    by_cases hc2 : (i4 &&& (1 : Int32)) = (0 : Int32)
    · refine ⟨(0 : Int32), Or.inl ⟨hc2, rfl⟩, fun t kt => pre0 t ?_⟩
      show Steps p.tables e below (s₁.setTop (mkF m 0 #[.val (.int i0), .val (.long i1), .second, .val (.int i2), .val (.long i3), .second, .val (.int i4), .unset, .unset, .unset, .unset, .unset, .unset, .unset, .unset, .unset, .unset, .unset] [])) _
      refine XS.iloadN X0.here hx rfl (hb hby at_0) rfl ?_
      show Steps p.tables e below (s₁.setTop (mkF m 1 #[.val (.int i0), .val (.long i1), .second, .val (.int i2), .val (.long i3), .second, .val (.int i4), .unset, .unset, .unset, .unset, .unset, .unset, .unset, .unset, .unset, .unset, .unset] [(.int i0)])) _
      refine XS.i2l X0.here hx rfl (hb hby at_1) rfl ?_
      show Steps p.tables e below (s₁.setTop (mkF m 2 #[.val (.int i0), .val (.long i1), .second, .val (.int i2), .val (.long i3), .second, .val (.int i4), .unset, .unset, .unset, .unset, .unset, .unset, .unset, .unset, .unset, .unset, .unset] [(.long (i0.toInt64))])) _
      refine XS.lstore X0.here hx rfl (hb hby at_2) rfl (l' := #[.val (.int i0), .val (.long i1), .second, .val (.int i2), .val (.long i3), .second, .val (.int i4), .val (.long (i0.toInt64)), .second, .unset, .unset, .unset, .unset, .unset, .unset, .unset, .unset, .unset]) rfl ?_
      show Steps p.tables e below (s₁.setTop (mkF m 4 #[.val (.int i0), .val (.long i1), .second, .val (.int i2), .val (.long i3), .second, .val (.int i4), .val (.long (i0.toInt64)), .second, .unset, .unset, .unset, .unset, .unset, .unset, .unset, .unset, .unset] [])) _
      refine XS.lload X0.here hx rfl (hb hby at_4) rfl ?_
      show Steps p.tables e below (s₁.setTop (mkF m 6 #[.val (.int i0), .val (.long i1), .second, .val (.int i2), .val (.long i3), .second, .val (.int i4), .val (.long (i0.toInt64)), .second, .unset, .unset, .unset, .unset, .unset, .unset, .unset, .unset, .unset] [(.long (i0.toInt64))])) _
      refine XS.lconst X0.here hx rfl (hb hby at_6) ?_
      show Steps p.tables e below (s₁.setTop (mkF m 7 #[.val (.int i0), .val (.long i1), .second, .val (.int i2), .val (.long i3), .second, .val (.int i4), .val (.long (i0.toInt64)), .second, .unset, .unset, .unset, .unset, .unset, .unset, .unset, .unset, .unset] [(.long (1 : Int64)), (.long (i0.toInt64))])) _
      refine XS.ladd X0.here hx rfl (hb hby at_7) rfl ?_
      show Steps p.tables e below (s₁.setTop (mkF m 8 #[.val (.int i0), .val (.long i1), .second, .val (.int i2), .val (.long i3), .second, .val (.int i4), .val (.long (i0.toInt64)), .second, .unset, .unset, .unset, .unset, .unset, .unset, .unset, .unset, .unset] [(.long ((i0.toInt64) + (1 : Int64)))])) _
      refine XS.lloadN X0.here hx rfl (hb hby at_8) rfl ?_
      show Steps p.tables e below (s₁.setTop (mkF m 9 #[.val (.int i0), .val (.long i1), .second, .val (.int i2), .val (.long i3), .second, .val (.int i4), .val (.long (i0.toInt64)), .second, .unset, .unset, .unset, .unset, .unset, .unset, .unset, .unset, .unset] [(.long i1), (.long ((i0.toInt64) + (1 : Int64)))])) _
      refine X0.ldc2Long hx hown (mvT hZ (hw _ (List.mem_of_getElem? (i := 0) rfl))) (g := (mkF m 9 #[.val (.int i0), .val (.long i1), .second, .val (.int i2), .val (.long i3), .second, .val (.int i4), .val (.long (i0.toInt64)), .second, .unset, .unset, .unset, .unset, .unset, .unset, .unset, .unset, .unset] [(.long i1), (.long ((i0.toInt64) + (1 : Int64)))])) rfl (hb hby at_9) _ ?_
      show Steps p.tables e below (s₁.setTop (mkF m 12 #[.val (.int i0), .val (.long i1), .second, .val (.int i2), .val (.long i3), .second, .val (.int i4), .val (.long (i0.toInt64)), .second, .unset, .unset, .unset, .unset, .unset, .unset, .unset, .unset, .unset] [(.long (4294967295 : Int64)), (.long i1), (.long ((i0.toInt64) + (1 : Int64)))])) _
      refine XS.land X0.here hx rfl (hb hby at_12) rfl ?_
      show Steps p.tables e below (s₁.setTop (mkF m 13 #[.val (.int i0), .val (.long i1), .second, .val (.int i2), .val (.long i3), .second, .val (.int i4), .val (.long (i0.toInt64)), .second, .unset, .unset, .unset, .unset, .unset, .unset, .unset, .unset, .unset] [(.long (i1 &&& (4294967295 : Int64))), (.long ((i0.toInt64) + (1 : Int64)))])) _
      refine XS.ladd X0.here hx rfl (hb hby at_13) rfl ?_
      show Steps p.tables e below (s₁.setTop (mkF m 14 #[.val (.int i0), .val (.long i1), .second, .val (.int i2), .val (.long i3), .second, .val (.int i4), .val (.long (i0.toInt64)), .second, .unset, .unset, .unset, .unset, .unset, .unset, .unset, .unset, .unset] [(.long (((i0.toInt64) + (1 : Int64)) + (i1 &&& (4294967295 : Int64))))])) _
      refine XS.lstore X0.here hx rfl (hb hby at_14) rfl (l' := #[.val (.int i0), .val (.long i1), .second, .val (.int i2), .val (.long i3), .second, .val (.int i4), .val (.long (i0.toInt64)), .second, .val (.long (((i0.toInt64) + (1 : Int64)) + (i1 &&& (4294967295 : Int64)))), .second, .unset, .unset, .unset, .unset, .unset, .unset, .unset]) rfl ?_
      show Steps p.tables e below (s₁.setTop (mkF m 16 #[.val (.int i0), .val (.long i1), .second, .val (.int i2), .val (.long i3), .second, .val (.int i4), .val (.long (i0.toInt64)), .second, .val (.long (((i0.toInt64) + (1 : Int64)) + (i1 &&& (4294967295 : Int64)))), .second, .unset, .unset, .unset, .unset, .unset, .unset, .unset] [])) _
      refine XS.iloadN X0.here hx rfl (hb hby at_16) rfl ?_
      show Steps p.tables e below (s₁.setTop (mkF m 17 #[.val (.int i0), .val (.long i1), .second, .val (.int i2), .val (.long i3), .second, .val (.int i4), .val (.long (i0.toInt64)), .second, .val (.long (((i0.toInt64) + (1 : Int64)) + (i1 &&& (4294967295 : Int64)))), .second, .unset, .unset, .unset, .unset, .unset, .unset, .unset] [(.int i2)])) _
      refine XS.i2l X0.here hx rfl (hb hby at_17) rfl ?_
      show Steps p.tables e below (s₁.setTop (mkF m 18 #[.val (.int i0), .val (.long i1), .second, .val (.int i2), .val (.long i3), .second, .val (.int i4), .val (.long (i0.toInt64)), .second, .val (.long (((i0.toInt64) + (1 : Int64)) + (i1 &&& (4294967295 : Int64)))), .second, .unset, .unset, .unset, .unset, .unset, .unset, .unset] [(.long (i2.toInt64))])) _
      refine XS.lstore X0.here hx rfl (hb hby at_18) rfl (l' := #[.val (.int i0), .val (.long i1), .second, .val (.int i2), .val (.long i3), .second, .val (.int i4), .val (.long (i0.toInt64)), .second, .val (.long (((i0.toInt64) + (1 : Int64)) + (i1 &&& (4294967295 : Int64)))), .second, .val (.long (i2.toInt64)), .second, .unset, .unset, .unset, .unset, .unset]) rfl ?_
      show Steps p.tables e below (s₁.setTop (mkF m 20 #[.val (.int i0), .val (.long i1), .second, .val (.int i2), .val (.long i3), .second, .val (.int i4), .val (.long (i0.toInt64)), .second, .val (.long (((i0.toInt64) + (1 : Int64)) + (i1 &&& (4294967295 : Int64)))), .second, .val (.long (i2.toInt64)), .second, .unset, .unset, .unset, .unset, .unset] [])) _
      refine XS.lload X0.here hx rfl (hb hby at_20) rfl ?_
      show Steps p.tables e below (s₁.setTop (mkF m 22 #[.val (.int i0), .val (.long i1), .second, .val (.int i2), .val (.long i3), .second, .val (.int i4), .val (.long (i0.toInt64)), .second, .val (.long (((i0.toInt64) + (1 : Int64)) + (i1 &&& (4294967295 : Int64)))), .second, .val (.long (i2.toInt64)), .second, .unset, .unset, .unset, .unset, .unset] [(.long (i2.toInt64))])) _
      refine XS.lconst X0.here hx rfl (hb hby at_22) ?_
      show Steps p.tables e below (s₁.setTop (mkF m 23 #[.val (.int i0), .val (.long i1), .second, .val (.int i2), .val (.long i3), .second, .val (.int i4), .val (.long (i0.toInt64)), .second, .val (.long (((i0.toInt64) + (1 : Int64)) + (i1 &&& (4294967295 : Int64)))), .second, .val (.long (i2.toInt64)), .second, .unset, .unset, .unset, .unset, .unset] [(.long (1 : Int64)), (.long (i2.toInt64))])) _
      refine XS.ladd X0.here hx rfl (hb hby at_23) rfl ?_
      show Steps p.tables e below (s₁.setTop (mkF m 24 #[.val (.int i0), .val (.long i1), .second, .val (.int i2), .val (.long i3), .second, .val (.int i4), .val (.long (i0.toInt64)), .second, .val (.long (((i0.toInt64) + (1 : Int64)) + (i1 &&& (4294967295 : Int64)))), .second, .val (.long (i2.toInt64)), .second, .unset, .unset, .unset, .unset, .unset] [(.long ((i2.toInt64) + (1 : Int64)))])) _
      refine XS.lload X0.here hx rfl (hb hby at_24) rfl ?_
      show Steps p.tables e below (s₁.setTop (mkF m 26 #[.val (.int i0), .val (.long i1), .second, .val (.int i2), .val (.long i3), .second, .val (.int i4), .val (.long (i0.toInt64)), .second, .val (.long (((i0.toInt64) + (1 : Int64)) + (i1 &&& (4294967295 : Int64)))), .second, .val (.long (i2.toInt64)), .second, .unset, .unset, .unset, .unset, .unset] [(.long i3), (.long ((i2.toInt64) + (1 : Int64)))])) _
      refine X0.ldc2Long hx hown (mvT hZ (hw _ (List.mem_of_getElem? (i := 0) rfl))) (g := (mkF m 26 #[.val (.int i0), .val (.long i1), .second, .val (.int i2), .val (.long i3), .second, .val (.int i4), .val (.long (i0.toInt64)), .second, .val (.long (((i0.toInt64) + (1 : Int64)) + (i1 &&& (4294967295 : Int64)))), .second, .val (.long (i2.toInt64)), .second, .unset, .unset, .unset, .unset, .unset] [(.long i3), (.long ((i2.toInt64) + (1 : Int64)))])) rfl (hb hby at_26) _ ?_
      show Steps p.tables e below (s₁.setTop (mkF m 29 #[.val (.int i0), .val (.long i1), .second, .val (.int i2), .val (.long i3), .second, .val (.int i4), .val (.long (i0.toInt64)), .second, .val (.long (((i0.toInt64) + (1 : Int64)) + (i1 &&& (4294967295 : Int64)))), .second, .val (.long (i2.toInt64)), .second, .unset, .unset, .unset, .unset, .unset] [(.long (4294967295 : Int64)), (.long i3), (.long ((i2.toInt64) + (1 : Int64)))])) _
      refine XS.land X0.here hx rfl (hb hby at_29) rfl ?_
      show Steps p.tables e below (s₁.setTop (mkF m 30 #[.val (.int i0), .val (.long i1), .second, .val (.int i2), .val (.long i3), .second, .val (.int i4), .val (.long (i0.toInt64)), .second, .val (.long (((i0.toInt64) + (1 : Int64)) + (i1 &&& (4294967295 : Int64)))), .second, .val (.long (i2.toInt64)), .second, .unset, .unset, .unset, .unset, .unset] [(.long (i3 &&& (4294967295 : Int64))), (.long ((i2.toInt64) + (1 : Int64)))])) _
      refine XS.ladd X0.here hx rfl (hb hby at_30) rfl ?_
      show Steps p.tables e below (s₁.setTop (mkF m 31 #[.val (.int i0), .val (.long i1), .second, .val (.int i2), .val (.long i3), .second, .val (.int i4), .val (.long (i0.toInt64)), .second, .val (.long (((i0.toInt64) + (1 : Int64)) + (i1 &&& (4294967295 : Int64)))), .second, .val (.long (i2.toInt64)), .second, .unset, .unset, .unset, .unset, .unset] [(.long (((i2.toInt64) + (1 : Int64)) + (i3 &&& (4294967295 : Int64))))])) _
      refine XS.lstore X0.here hx rfl (hb hby at_31) rfl (l' := #[.val (.int i0), .val (.long i1), .second, .val (.int i2), .val (.long i3), .second, .val (.int i4), .val (.long (i0.toInt64)), .second, .val (.long (((i0.toInt64) + (1 : Int64)) + (i1 &&& (4294967295 : Int64)))), .second, .val (.long (i2.toInt64)), .second, .val (.long (((i2.toInt64) + (1 : Int64)) + (i3 &&& (4294967295 : Int64)))), .second, .unset, .unset, .unset]) rfl ?_
      show Steps p.tables e below (s₁.setTop (mkF m 33 #[.val (.int i0), .val (.long i1), .second, .val (.int i2), .val (.long i3), .second, .val (.int i4), .val (.long (i0.toInt64)), .second, .val (.long (((i0.toInt64) + (1 : Int64)) + (i1 &&& (4294967295 : Int64)))), .second, .val (.long (i2.toInt64)), .second, .val (.long (((i2.toInt64) + (1 : Int64)) + (i3 &&& (4294967295 : Int64)))), .second, .unset, .unset, .unset] [])) _
      refine st1 _ ?_
      show Steps p.tables e below (T1.setTop (mkF m 36 #[.val (.int i0), .val (.long i1), .second, .val (.int i2), .val (.long i3), .second, .val (.int i4), .val (.long (i0.toInt64)), .second, .val (.long (((i0.toInt64) + (1 : Int64)) + (i1 &&& (4294967295 : Int64)))), .second, .val (.long (i2.toInt64)), .second, .val (.long (((i2.toInt64) + (1 : Int64)) + (i3 &&& (4294967295 : Int64)))), .second, .unset, .unset, .unset] [(.ref b1)])) _
      refine XS.dup X1.here hx rfl (hb hby at_36) rfl rfl ?_
      show Steps p.tables e below (T1.setTop (mkF m 37 #[.val (.int i0), .val (.long i1), .second, .val (.int i2), .val (.long i3), .second, .val (.int i4), .val (.long (i0.toInt64)), .second, .val (.long (((i0.toInt64) + (1 : Int64)) + (i1 &&& (4294967295 : Int64)))), .second, .val (.long (i2.toInt64)), .second, .val (.long (((i2.toInt64) + (1 : Int64)) + (i3 &&& (4294967295 : Int64)))), .second, .unset, .unset, .unset] [(.ref b1), (.ref b1)])) _
      refine XS.lload X1.here hx rfl (hb hby at_37) rfl ?_
      show Steps p.tables e below (T1.setTop (mkF m 39 #[.val (.int i0), .val (.long i1), .second, .val (.int i2), .val (.long i3), .second, .val (.int i4), .val (.long (i0.toInt64)), .second, .val (.long (((i0.toInt64) + (1 : Int64)) + (i1 &&& (4294967295 : Int64)))), .second, .val (.long (i2.toInt64)), .second, .val (.long (((i2.toInt64) + (1 : Int64)) + (i3 &&& (4294967295 : Int64)))), .second, .unset, .unset, .unset] [(.long (i0.toInt64)), (.ref b1), (.ref b1)])) _
      refine XS.iload X1.here hx rfl (hb hby at_39) rfl ?_
      show Steps p.tables e below (T1.setTop (mkF m 41 #[.val (.int i0), .val (.long i1), .second, .val (.int i2), .val (.long i3), .second, .val (.int i4), .val (.long (i0.toInt64)), .second, .val (.long (((i0.toInt64) + (1 : Int64)) + (i1 &&& (4294967295 : Int64)))), .second, .val (.long (i2.toInt64)), .second, .val (.long (((i2.toInt64) + (1 : Int64)) + (i3 &&& (4294967295 : Int64)))), .second, .unset, .unset, .unset] [(.int i4), (.long (i0.toInt64)), (.ref b1), (.ref b1)])) _
      refine XS.iconst X1.here hx rfl (hb hby at_41) ?_
      show Steps p.tables e below (T1.setTop (mkF m 42 #[.val (.int i0), .val (.long i1), .second, .val (.int i2), .val (.long i3), .second, .val (.int i4), .val (.long (i0.toInt64)), .second, .val (.long (((i0.toInt64) + (1 : Int64)) + (i1 &&& (4294967295 : Int64)))), .second, .val (.long (i2.toInt64)), .second, .val (.long (((i2.toInt64) + (1 : Int64)) + (i3 &&& (4294967295 : Int64)))), .second, .unset, .unset, .unset] [(.int (1 : Int32)), (.int i4), (.long (i0.toInt64)), (.ref b1), (.ref b1)])) _
      refine XS.iand X1.here hx rfl (hb hby at_42) rfl ?_
      show Steps p.tables e below (T1.setTop (mkF m 43 #[.val (.int i0), .val (.long i1), .second, .val (.int i2), .val (.long i3), .second, .val (.int i4), .val (.long (i0.toInt64)), .second, .val (.long (((i0.toInt64) + (1 : Int64)) + (i1 &&& (4294967295 : Int64)))), .second, .val (.long (i2.toInt64)), .second, .val (.long (((i2.toInt64) + (1 : Int64)) + (i3 &&& (4294967295 : Int64)))), .second, .unset, .unset, .unset] [(.int (i4 &&& (1 : Int32))), (.long (i0.toInt64)), (.ref b1), (.ref b1)])) _
      refine XS.ifYes X1.here hx rfl (pc0 := 43) (pc' := 50) rfl (hb hby at_43) rfl ((if0 _ _).trans (teq hc2).1) (by decide) (by decide) ?_
      show Steps p.tables e below (T1.setTop (mkF m 50 #[.val (.int i0), .val (.long i1), .second, .val (.int i2), .val (.long i3), .second, .val (.int i4), .val (.long (i0.toInt64)), .second, .val (.long (((i0.toInt64) + (1 : Int64)) + (i1 &&& (4294967295 : Int64)))), .second, .val (.long (i2.toInt64)), .second, .val (.long (((i2.toInt64) + (1 : Int64)) + (i3 &&& (4294967295 : Int64)))), .second, .unset, .unset, .unset] [(.long (i0.toInt64)), (.ref b1), (.ref b1)])) _
      refine XS.iconst X1.here hx rfl (hb hby at_50) ?_
      exact kt
    · refine ⟨(1 : Int32), Or.inr ⟨hc2, rfl⟩, fun t kt => pre0 t ?_⟩
      show Steps p.tables e below (s₁.setTop (mkF m 0 #[.val (.int i0), .val (.long i1), .second, .val (.int i2), .val (.long i3), .second, .val (.int i4), .unset, .unset, .unset, .unset, .unset, .unset, .unset, .unset, .unset, .unset, .unset] [])) _
      refine XS.iloadN X0.here hx rfl (hb hby at_0) rfl ?_
      show Steps p.tables e below (s₁.setTop (mkF m 1 #[.val (.int i0), .val (.long i1), .second, .val (.int i2), .val (.long i3), .second, .val (.int i4), .unset, .unset, .unset, .unset, .unset, .unset, .unset, .unset, .unset, .unset, .unset] [(.int i0)])) _
      refine XS.i2l X0.here hx rfl (hb hby at_1) rfl ?_
      show Steps p.tables e below (s₁.setTop (mkF m 2 #[.val (.int i0), .val (.long i1), .second, .val (.int i2), .val (.long i3), .second, .val (.int i4), .unset, .unset, .unset, .unset, .unset, .unset, .unset, .unset, .unset, .unset, .unset] [(.long (i0.toInt64))])) _
      refine XS.lstore X0.here hx rfl (hb hby at_2) rfl (l' := #[.val (.int i0), .val (.long i1), .second, .val (.int i2), .val (.long i3), .second, .val (.int i4), .val (.long (i0.toInt64)), .second, .unset, .unset, .unset, .unset, .unset, .unset, .unset, .unset, .unset]) rfl ?_
      show Steps p.tables e below (s₁.setTop (mkF m 4 #[.val (.int i0), .val (.long i1), .second, .val (.int i2), .val (.long i3), .second, .val (.int i4), .val (.long (i0.toInt64)), .second, .unset, .unset, .unset, .unset, .unset, .unset, .unset, .unset, .unset] [])) _
      refine XS.lload X0.here hx rfl (hb hby at_4) rfl ?_
      show Steps p.tables e below (s₁.setTop (mkF m 6 #[.val (.int i0), .val (.long i1), .second, .val (.int i2), .val (.long i3), .second, .val (.int i4), .val (.long (i0.toInt64)), .second, .unset, .unset, .unset, .unset, .unset, .unset, .unset, .unset, .unset] [(.long (i0.toInt64))])) _
      refine XS.lconst X0.here hx rfl (hb hby at_6) ?_
      show Steps p.tables e below (s₁.setTop (mkF m 7 #[.val (.int i0), .val (.long i1), .second, .val (.int i2), .val (.long i3), .second, .val (.int i4), .val (.long (i0.toInt64)), .second, .unset, .unset, .unset, .unset, .unset, .unset, .unset, .unset, .unset] [(.long (1 : Int64)), (.long (i0.toInt64))])) _
      refine XS.ladd X0.here hx rfl (hb hby at_7) rfl ?_
      show Steps p.tables e below (s₁.setTop (mkF m 8 #[.val (.int i0), .val (.long i1), .second, .val (.int i2), .val (.long i3), .second, .val (.int i4), .val (.long (i0.toInt64)), .second, .unset, .unset, .unset, .unset, .unset, .unset, .unset, .unset, .unset] [(.long ((i0.toInt64) + (1 : Int64)))])) _
      refine XS.lloadN X0.here hx rfl (hb hby at_8) rfl ?_
      show Steps p.tables e below (s₁.setTop (mkF m 9 #[.val (.int i0), .val (.long i1), .second, .val (.int i2), .val (.long i3), .second, .val (.int i4), .val (.long (i0.toInt64)), .second, .unset, .unset, .unset, .unset, .unset, .unset, .unset, .unset, .unset] [(.long i1), (.long ((i0.toInt64) + (1 : Int64)))])) _
      refine X0.ldc2Long hx hown (mvT hZ (hw _ (List.mem_of_getElem? (i := 0) rfl))) (g := (mkF m 9 #[.val (.int i0), .val (.long i1), .second, .val (.int i2), .val (.long i3), .second, .val (.int i4), .val (.long (i0.toInt64)), .second, .unset, .unset, .unset, .unset, .unset, .unset, .unset, .unset, .unset] [(.long i1), (.long ((i0.toInt64) + (1 : Int64)))])) rfl (hb hby at_9) _ ?_
      show Steps p.tables e below (s₁.setTop (mkF m 12 #[.val (.int i0), .val (.long i1), .second, .val (.int i2), .val (.long i3), .second, .val (.int i4), .val (.long (i0.toInt64)), .second, .unset, .unset, .unset, .unset, .unset, .unset, .unset, .unset, .unset] [(.long (4294967295 : Int64)), (.long i1), (.long ((i0.toInt64) + (1 : Int64)))])) _
      refine XS.land X0.here hx rfl (hb hby at_12) rfl ?_
      show Steps p.tables e below (s₁.setTop (mkF m 13 #[.val (.int i0), .val (.long i1), .second, .val (.int i2), .val (.long i3), .second, .val (.int i4), .val (.long (i0.toInt64)), .second, .unset, .unset, .unset, .unset, .unset, .unset, .unset, .unset, .unset] [(.long (i1 &&& (4294967295 : Int64))), (.long ((i0.toInt64) + (1 : Int64)))])) _
      refine XS.ladd X0.here hx rfl (hb hby at_13) rfl ?_
      show Steps p.tables e below (s₁.setTop (mkF m 14 #[.val (.int i0), .val (.long i1), .second, .val (.int i2), .val (.long i3), .second, .val (.int i4), .val (.long (i0.toInt64)), .second, .unset, .unset, .unset, .unset, .unset, .unset, .unset, .unset, .unset] [(.long (((i0.toInt64) + (1 : Int64)) + (i1 &&& (4294967295 : Int64))))])) _
      refine XS.lstore X0.here hx rfl (hb hby at_14) rfl (l' := #[.val (.int i0), .val (.long i1), .second, .val (.int i2), .val (.long i3), .second, .val (.int i4), .val (.long (i0.toInt64)), .second, .val (.long (((i0.toInt64) + (1 : Int64)) + (i1 &&& (4294967295 : Int64)))), .second, .unset, .unset, .unset, .unset, .unset, .unset, .unset]) rfl ?_
      show Steps p.tables e below (s₁.setTop (mkF m 16 #[.val (.int i0), .val (.long i1), .second, .val (.int i2), .val (.long i3), .second, .val (.int i4), .val (.long (i0.toInt64)), .second, .val (.long (((i0.toInt64) + (1 : Int64)) + (i1 &&& (4294967295 : Int64)))), .second, .unset, .unset, .unset, .unset, .unset, .unset, .unset] [])) _
      refine XS.iloadN X0.here hx rfl (hb hby at_16) rfl ?_
      show Steps p.tables e below (s₁.setTop (mkF m 17 #[.val (.int i0), .val (.long i1), .second, .val (.int i2), .val (.long i3), .second, .val (.int i4), .val (.long (i0.toInt64)), .second, .val (.long (((i0.toInt64) + (1 : Int64)) + (i1 &&& (4294967295 : Int64)))), .second, .unset, .unset, .unset, .unset, .unset, .unset, .unset] [(.int i2)])) _
      refine XS.i2l X0.here hx rfl (hb hby at_17) rfl ?_
      show Steps p.tables e below (s₁.setTop (mkF m 18 #[.val (.int i0), .val (.long i1), .second, .val (.int i2), .val (.long i3), .second, .val (.int i4), .val (.long (i0.toInt64)), .second, .val (.long (((i0.toInt64) + (1 : Int64)) + (i1 &&& (4294967295 : Int64)))), .second, .unset, .unset, .unset, .unset, .unset, .unset, .unset] [(.long (i2.toInt64))])) _
      refine XS.lstore X0.here hx rfl (hb hby at_18) rfl (l' := #[.val (.int i0), .val (.long i1), .second, .val (.int i2), .val (.long i3), .second, .val (.int i4), .val (.long (i0.toInt64)), .second, .val (.long (((i0.toInt64) + (1 : Int64)) + (i1 &&& (4294967295 : Int64)))), .second, .val (.long (i2.toInt64)), .second, .unset, .unset, .unset, .unset, .unset]) rfl ?_
      show Steps p.tables e below (s₁.setTop (mkF m 20 #[.val (.int i0), .val (.long i1), .second, .val (.int i2), .val (.long i3), .second, .val (.int i4), .val (.long (i0.toInt64)), .second, .val (.long (((i0.toInt64) + (1 : Int64)) + (i1 &&& (4294967295 : Int64)))), .second, .val (.long (i2.toInt64)), .second, .unset, .unset, .unset, .unset, .unset] [])) _
      refine XS.lload X0.here hx rfl (hb hby at_20) rfl ?_
      show Steps p.tables e below (s₁.setTop (mkF m 22 #[.val (.int i0), .val (.long i1), .second, .val (.int i2), .val (.long i3), .second, .val (.int i4), .val (.long (i0.toInt64)), .second, .val (.long (((i0.toInt64) + (1 : Int64)) + (i1 &&& (4294967295 : Int64)))), .second, .val (.long (i2.toInt64)), .second, .unset, .unset, .unset, .unset, .unset] [(.long (i2.toInt64))])) _
      refine XS.lconst X0.here hx rfl (hb hby at_22) ?_
      show Steps p.tables e below (s₁.setTop (mkF m 23 #[.val (.int i0), .val (.long i1), .second, .val (.int i2), .val (.long i3), .second, .val (.int i4), .val (.long (i0.toInt64)), .second, .val (.long (((i0.toInt64) + (1 : Int64)) + (i1 &&& (4294967295 : Int64)))), .second, .val (.long (i2.toInt64)), .second, .unset, .unset, .unset, .unset, .unset] [(.long (1 : Int64)), (.long (i2.toInt64))])) _
      refine XS.ladd X0.here hx rfl (hb hby at_23) rfl ?_
      show Steps p.tables e below (s₁.setTop (mkF m 24 #[.val (.int i0), .val (.long i1), .second, .val (.int i2), .val (.long i3), .second, .val (.int i4), .val (.long (i0.toInt64)), .second, .val (.long (((i0.toInt64) + (1 : Int64)) + (i1 &&& (4294967295 : Int64)))), .second, .val (.long (i2.toInt64)), .second, .unset, .unset, .unset, .unset, .unset] [(.long ((i2.toInt64) + (1 : Int64)))])) _
      refine XS.lload X0.here hx rfl (hb hby at_24) rfl ?_
      show Steps p.tables e below (s₁.setTop (mkF m 26 #[.val (.int i0), .val (.long i1), .second, .val (.int i2), .val (.long i3), .second, .val (.int i4), .val (.long (i0.toInt64)), .second, .val (.long (((i0.toInt64) + (1 : Int64)) + (i1 &&& (4294967295 : Int64)))), .second, .val (.long (i2.toInt64)), .second, .unset, .unset, .unset, .unset, .unset] [(.long i3), (.long ((i2.toInt64) + (1 : Int64)))])) _
      refine X0.ldc2Long hx hown (mvT hZ (hw _ (List.mem_of_getElem? (i := 0) rfl))) (g := (mkF m 26 #[.val (.int i0), .val (.long i1), .second, .val (.int i2), .val (.long i3), .second, .val (.int i4), .val (.long (i0.toInt64)), .second, .val (.long (((i0.toInt64) + (1 : Int64)) + (i1 &&& (4294967295 : Int64)))), .second, .val (.long (i2.toInt64)), .second, .unset, .unset, .unset, .unset, .unset] [(.long i3), (.long ((i2.toInt64) + (1 : Int64)))])) rfl (hb hby at_26) _ ?_
      show Steps p.tables e below (s₁.setTop (mkF m 29 #[.val (.int i0), .val (.long i1), .second, .val (.int i2), .val (.long i3), .second, .val (.int i4), .val (.long (i0.toInt64)), .second, .val (.long (((i0.toInt64) + (1 : Int64)) + (i1 &&& (4294967295 : Int64)))), .second, .val (.long (i2.toInt64)), .second, .unset, .unset, .unset, .unset, .unset] [(.long (4294967295 : Int64)), (.long i3), (.long ((i2.toInt64) + (1 : Int64)))])) _
      refine XS.land X0.here hx rfl (hb hby at_29) rfl ?_
      show Steps p.tables e below (s₁.setTop (mkF m 30 #[.val (.int i0), .val (.long i1), .second, .val (.int i2), .val (.long i3), .second, .val (.int i4), .val (.long (i0.toInt64)), .second, .val (.long (((i0.toInt64) + (1 : Int64)) + (i1 &&& (4294967295 : Int64)))), .second, .val (.long (i2.toInt64)), .second, .unset, .unset, .unset, .unset, .unset] [(.long (i3 &&& (4294967295 : Int64))), (.long ((i2.toInt64) + (1 : Int64)))])) _
      refine XS.ladd X0.here hx rfl (hb hby at_30) rfl ?_
      show Steps p.tables e below (s₁.setTop (mkF m 31 #[.val (.int i0), .val (.long i1), .second, .val (.int i2), .val (.long i3), .second, .val (.int i4), .val (.long (i0.toInt64)), .second, .val (.long (((i0.toInt64) + (1 : Int64)) + (i1 &&& (4294967295 : Int64)))), .second, .val (.long (i2.toInt64)), .second, .unset, .unset, .unset, .unset, .unset] [(.long (((i2.toInt64) + (1 : Int64)) + (i3 &&& (4294967295 : Int64))))])) _
      refine XS.lstore X0.here hx rfl (hb hby at_31) rfl (l' := #[.val (.int i0), .val (.long i1), .second, .val (.int i2), .val (.long i3), .second, .val (.int i4), .val (.long (i0.toInt64)), .second, .val (.long (((i0.toInt64) + (1 : Int64)) + (i1 &&& (4294967295 : Int64)))), .second, .val (.long (i2.toInt64)), .second, .val (.long (((i2.toInt64) + (1 : Int64)) + (i3 &&& (4294967295 : Int64)))), .second, .unset, .unset, .unset]) rfl ?_
      show Steps p.tables e below (s₁.setTop (mkF m 33 #[.val (.int i0), .val (.long i1), .second, .val (.int i2), .val (.long i3), .second, .val (.int i4), .val (.long (i0.toInt64)), .second, .val (.long (((i0.toInt64) + (1 : Int64)) + (i1 &&& (4294967295 : Int64)))), .second, .val (.long (i2.toInt64)), .second, .val (.long (((i2.toInt64) + (1 : Int64)) + (i3 &&& (4294967295 : Int64)))), .second, .unset, .unset, .unset] [])) _
      refine st1 _ ?_
      show Steps p.tables e below (T1.setTop (mkF m 36 #[.val (.int i0), .val (.long i1), .second, .val (.int i2), .val (.long i3), .second, .val (.int i4), .val (.long (i0.toInt64)), .second, .val (.long (((i0.toInt64) + (1 : Int64)) + (i1 &&& (4294967295 : Int64)))), .second, .val (.long (i2.toInt64)), .second, .val (.long (((i2.toInt64) + (1 : Int64)) + (i3 &&& (4294967295 : Int64)))), .second, .unset, .unset, .unset] [(.ref b1)])) _
      refine XS.dup X1.here hx rfl (hb hby at_36) rfl rfl ?_
      show Steps p.tables e below (T1.setTop (mkF m 37 #[.val (.int i0), .val (.long i1), .second, .val (.int i2), .val (.long i3), .second, .val (.int i4), .val (.long (i0.toInt64)), .second, .val (.long (((i0.toInt64) + (1 : Int64)) + (i1 &&& (4294967295 : Int64)))), .second, .val (.long (i2.toInt64)), .second, .val (.long (((i2.toInt64) + (1 : Int64)) + (i3 &&& (4294967295 : Int64)))), .second, .unset, .unset, .unset] [(.ref b1), (.ref b1)])) _
      refine XS.lload X1.here hx rfl (hb hby at_37) rfl ?_
      show Steps p.tables e below (T1.setTop (mkF m 39 #[.val (.int i0), .val (.long i1), .second, .val (.int i2), .val (.long i3), .second, .val (.int i4), .val (.long (i0.toInt64)), .second, .val (.long (((i0.toInt64) + (1 : Int64)) + (i1 &&& (4294967295 : Int64)))), .second, .val (.long (i2.toInt64)), .second, .val (.long (((i2.toInt64) + (1 : Int64)) + (i3 &&& (4294967295 : Int64)))), .second, .unset, .unset, .unset] [(.long (i0.toInt64)), (.ref b1), (.ref b1)])) _
      refine XS.iload X1.here hx rfl (hb hby at_39) rfl ?_
      show Steps p.tables e below (T1.setTop (mkF m 41 #[.val (.int i0), .val (.long i1), .second, .val (.int i2), .val (.long i3), .second, .val (.int i4), .val (.long (i0.toInt64)), .second, .val (.long (((i0.toInt64) + (1 : Int64)) + (i1 &&& (4294967295 : Int64)))), .second, .val (.long (i2.toInt64)), .second, .val (.long (((i2.toInt64) + (1 : Int64)) + (i3 &&& (4294967295 : Int64)))), .second, .unset, .unset, .unset] [(.int i4), (.long (i0.toInt64)), (.ref b1), (.ref b1)])) _
      refine XS.iconst X1.here hx rfl (hb hby at_41) ?_
      show Steps p.tables e below (T1.setTop (mkF m 42 #[.val (.int i0), .val (.long i1), .second, .val (.int i2), .val (.long i3), .second, .val (.int i4), .val (.long (i0.toInt64)), .second, .val (.long (((i0.toInt64) + (1 : Int64)) + (i1 &&& (4294967295 : Int64)))), .second, .val (.long (i2.toInt64)), .second, .val (.long (((i2.toInt64) + (1 : Int64)) + (i3 &&& (4294967295 : Int64)))), .second, .unset, .unset, .unset] [(.int (1 : Int32)), (.int i4), (.long (i0.toInt64)), (.ref b1), (.ref b1)])) _
      refine XS.iand X1.here hx rfl (hb hby at_42) rfl ?_
      show Steps p.tables e below (T1.setTop (mkF m 43 #[.val (.int i0), .val (.long i1), .second, .val (.int i2), .val (.long i3), .second, .val (.int i4), .val (.long (i0.toInt64)), .second, .val (.long (((i0.toInt64) + (1 : Int64)) + (i1 &&& (4294967295 : Int64)))), .second, .val (.long (i2.toInt64)), .second, .val (.long (((i2.toInt64) + (1 : Int64)) + (i3 &&& (4294967295 : Int64)))), .second, .unset, .unset, .unset] [(.int (i4 &&& (1 : Int32))), (.long (i0.toInt64)), (.ref b1), (.ref b1)])) _
      refine XS.ifNo X1.here hx rfl (hb hby at_43) rfl ((if0 _ _).trans (feq hc2).1) ?_
      show Steps p.tables e below (T1.setTop (mkF m 46 #[.val (.int i0), .val (.long i1), .second, .val (.int i2), .val (.long i3), .second, .val (.int i4), .val (.long (i0.toInt64)), .second, .val (.long (((i0.toInt64) + (1 : Int64)) + (i1 &&& (4294967295 : Int64)))), .second, .val (.long (i2.toInt64)), .second, .val (.long (((i2.toInt64) + (1 : Int64)) + (i3 &&& (4294967295 : Int64)))), .second, .unset, .unset, .unset] [(.long (i0.toInt64)), (.ref b1), (.ref b1)])) _
      refine XS.iconst X1.here hx rfl (hb hby at_46) ?_
      show Steps p.tables e below (T1.setTop (mkF m 47 #[.val (.int i0), .val (.long i1), .second, .val (.int i2), .val (.long i3), .second, .val (.int i4), .val (.long (i0.toInt64)), .second, .val (.long (((i0.toInt64) + (1 : Int64)) + (i1 &&& (4294967295 : Int64)))), .second, .val (.long (i2.toInt64)), .second, .val (.long (((i2.toInt64) + (1 : Int64)) + (i3 &&& (4294967295 : Int64)))), .second, .unset, .unset, .unset] [(.int (1 : Int32)), (.long (i0.toInt64)), (.ref b1), (.ref b1)])) _
      refine XS.goto X1.here hx rfl (pc0 := 47) (pc' := 51) rfl (hb hby at_47) (by decide) (by decide) ?_
      exact kt
  obtain ⟨z2, hz2, pre2⟩ := jn2
  have O3 : Old Z n0 h1 := (O0.ext E1)
  obtain ⟨_, _, ⟨T4, L4, k4, n4⟩, -, X4, ⟨Lc4, hQ4, l4, y4, z4⟩, st4⟩ := Jvm.LawKit.callS X1 hx (y := (⟨"com/example/corral/corral/streams/KeyRangeOverlapsPinLaw", "d", "(JZ)D"⟩ : MethodName)) hown (mvT hZ (hw _ (List.mem_of_getElem? (i := 4) rfl))) (mvT hZ (hw _ (List.mem_of_getElem? (i := 5) rfl))) (mvT hZ (hw _ (List.mem_of_getElem? (i := 6) rfl))) (mvT hZ (hw _ (List.mem_of_getElem? (i := 7) rfl))) (by decide) (backOf (W := 2) (rmD l Z a0 hw [] (i0.toInt64) z2 h1 n0 O3) hZ (hw _ (List.mem_of_getElem? (i := 7) rfl)) (hw _ (List.mem_of_getElem? (i := 6) rfl)) (by decide) (by decide)) (g := (mkF m 51 #[.val (.int i0), .val (.long i1), .second, .val (.int i2), .val (.long i3), .second, .val (.int i4), .val (.long (i0.toInt64)), .second, .val (.long (((i0.toInt64) + (1 : Int64)) + (i1 &&& (4294967295 : Int64)))), .second, .val (.long (i2.toInt64)), .second, .val (.long (((i2.toInt64) + (1 : Int64)) + (i3 &&& (4294967295 : Int64)))), .second, .unset, .unset, .unset] [(.int z2), (.long (i0.toInt64)), (.ref b1), (.ref b1)])) rfl (by rw [hml]; rfl) (argsL := [(.long (i0.toInt64)), (.int z2)]) (rest := [(.ref b1), (.ref b1)]) (lenOf pd_0 rfl) rfl (by show 2 * 0 + _ ≤ _; exact Nat.le_of_eq rfl) (hb hby at_51) (fun _ _ => ⟨rfl, e1, (by decide : 1 + 0 ≤ _), (by decide : 2 + 0 ≤ _)⟩)
  dsimp only [Pt.U, Pt.locs, Pt.cells, Pt.slots] at X4 l4 y4 z4 st4 hQ4
  subst l4 y4 z4
  obtain ⟨rfl, N4q, hh4⟩ := hQ4
  have N4 := Fr.app N0 N4q
  have jn5 : ∃ z5 : Int32, (((i4 &&& (2 : Int32)) = (0 : Int32)) ∧ z5 = (0 : Int32) ∨ ¬ ((i4 &&& (2 : Int32)) = (0 : Int32)) ∧ z5 = (1 : Int32)) ∧ ∀ t, Steps p.tables e below (T4.setTop (mkF m 68 #[.val (.int i0), .val (.long i1), .second, .val (.int i2), .val (.long i3), .second, .val (.int i4), .val (.long (i0.toInt64)), .second, .val (.long (((i0.toInt64) + (1 : Int64)) + (i1 &&& (4294967295 : Int64)))), .second, .val (.long (i2.toInt64)), .second, .val (.long (((i2.toInt64) + (1 : Int64)) + (i3 &&& (4294967295 : Int64)))), .second, .unset, .unset, .unset] [(.int z5), (.long (((i0.toInt64) + (1 : Int64)) + (i1 &&& (4294967295 : Int64)))), (.double (own_d (i0.toInt64) z2)), (.ref b1), (.ref b1)])) t → Steps p.tables e below (s₁.setTop (entryFrame m #[(.int i0), (.long i1), (.int i2), (.long i3), (.int i4)] maxLocals)) t := by
    by_cases hc5 : (i4 &&& (2 : Int32)) = (0 : Int32)
    · refine ⟨(0 : Int32), Or.inl ⟨hc5, rfl⟩, fun t kt => pre2 t ?_⟩
      show Steps p.tables e below (T1.setTop (mkF m 51 #[.val (.int i0), .val (.long i1), .second, .val (.int i2), .val (.long i3), .second, .val (.int i4), .val (.long (i0.toInt64)), .second, .val (.long (((i0.toInt64) + (1 : Int64)) + (i1 &&& (4294967295 : Int64)))), .second, .val (.long (i2.toInt64)), .second, .val (.long (((i2.toInt64) + (1 : Int64)) + (i3 &&& (4294967295 : Int64)))), .second, .unset, .unset, .unset] [(.int z2), (.long (i0.toInt64)), (.ref b1), (.ref b1)])) _
      refine st4 _ ?_
      show Steps p.tables e below (T4.setTop (mkF m 54 #[.val (.int i0), .val (.long i1), .second, .val (.int i2), .val (.long i3), .second, .val (.int i4), .val (.long (i0.toInt64)), .second, .val (.long (((i0.toInt64) + (1 : Int64)) + (i1 &&& (4294967295 : Int64)))), .second, .val (.long (i2.toInt64)), .second, .val (.long (((i2.toInt64) + (1 : Int64)) + (i3 &&& (4294967295 : Int64)))), .second, .unset, .unset, .unset] [(.double (own_d (i0.toInt64) z2)), (.ref b1), (.ref b1)])) _
      refine XS.lload X4.here hx rfl (hb hby at_54) rfl ?_
      show Steps p.tables e below (T4.setTop (mkF m 56 #[.val (.int i0), .val (.long i1), .second, .val (.int i2), .val (.long i3), .second, .val (.int i4), .val (.long (i0.toInt64)), .second, .val (.long (((i0.toInt64) + (1 : Int64)) + (i1 &&& (4294967295 : Int64)))), .second, .val (.long (i2.toInt64)), .second, .val (.long (((i2.toInt64) + (1 : Int64)) + (i3 &&& (4294967295 : Int64)))), .second, .unset, .unset, .unset] [(.long (((i0.toInt64) + (1 : Int64)) + (i1 &&& (4294967295 : Int64)))), (.double (own_d (i0.toInt64) z2)), (.ref b1), (.ref b1)])) _
      refine XS.iload X4.here hx rfl (hb hby at_56) rfl ?_
      show Steps p.tables e below (T4.setTop (mkF m 58 #[.val (.int i0), .val (.long i1), .second, .val (.int i2), .val (.long i3), .second, .val (.int i4), .val (.long (i0.toInt64)), .second, .val (.long (((i0.toInt64) + (1 : Int64)) + (i1 &&& (4294967295 : Int64)))), .second, .val (.long (i2.toInt64)), .second, .val (.long (((i2.toInt64) + (1 : Int64)) + (i3 &&& (4294967295 : Int64)))), .second, .unset, .unset, .unset] [(.int i4), (.long (((i0.toInt64) + (1 : Int64)) + (i1 &&& (4294967295 : Int64)))), (.double (own_d (i0.toInt64) z2)), (.ref b1), (.ref b1)])) _
      refine XS.iconst X4.here hx rfl (hb hby at_58) ?_
      show Steps p.tables e below (T4.setTop (mkF m 59 #[.val (.int i0), .val (.long i1), .second, .val (.int i2), .val (.long i3), .second, .val (.int i4), .val (.long (i0.toInt64)), .second, .val (.long (((i0.toInt64) + (1 : Int64)) + (i1 &&& (4294967295 : Int64)))), .second, .val (.long (i2.toInt64)), .second, .val (.long (((i2.toInt64) + (1 : Int64)) + (i3 &&& (4294967295 : Int64)))), .second, .unset, .unset, .unset] [(.int (2 : Int32)), (.int i4), (.long (((i0.toInt64) + (1 : Int64)) + (i1 &&& (4294967295 : Int64)))), (.double (own_d (i0.toInt64) z2)), (.ref b1), (.ref b1)])) _
      refine XS.iand X4.here hx rfl (hb hby at_59) rfl ?_
      show Steps p.tables e below (T4.setTop (mkF m 60 #[.val (.int i0), .val (.long i1), .second, .val (.int i2), .val (.long i3), .second, .val (.int i4), .val (.long (i0.toInt64)), .second, .val (.long (((i0.toInt64) + (1 : Int64)) + (i1 &&& (4294967295 : Int64)))), .second, .val (.long (i2.toInt64)), .second, .val (.long (((i2.toInt64) + (1 : Int64)) + (i3 &&& (4294967295 : Int64)))), .second, .unset, .unset, .unset] [(.int (i4 &&& (2 : Int32))), (.long (((i0.toInt64) + (1 : Int64)) + (i1 &&& (4294967295 : Int64)))), (.double (own_d (i0.toInt64) z2)), (.ref b1), (.ref b1)])) _
      refine XS.ifYes X4.here hx rfl (pc0 := 60) (pc' := 67) rfl (hb hby at_60) rfl ((if0 _ _).trans (teq hc5).1) (by decide) (by decide) ?_
      show Steps p.tables e below (T4.setTop (mkF m 67 #[.val (.int i0), .val (.long i1), .second, .val (.int i2), .val (.long i3), .second, .val (.int i4), .val (.long (i0.toInt64)), .second, .val (.long (((i0.toInt64) + (1 : Int64)) + (i1 &&& (4294967295 : Int64)))), .second, .val (.long (i2.toInt64)), .second, .val (.long (((i2.toInt64) + (1 : Int64)) + (i3 &&& (4294967295 : Int64)))), .second, .unset, .unset, .unset] [(.long (((i0.toInt64) + (1 : Int64)) + (i1 &&& (4294967295 : Int64)))), (.double (own_d (i0.toInt64) z2)), (.ref b1), (.ref b1)])) _
      refine XS.iconst X4.here hx rfl (hb hby at_67) ?_
      exact kt
    · refine ⟨(1 : Int32), Or.inr ⟨hc5, rfl⟩, fun t kt => pre2 t ?_⟩
      show Steps p.tables e below (T1.setTop (mkF m 51 #[.val (.int i0), .val (.long i1), .second, .val (.int i2), .val (.long i3), .second, .val (.int i4), .val (.long (i0.toInt64)), .second, .val (.long (((i0.toInt64) + (1 : Int64)) + (i1 &&& (4294967295 : Int64)))), .second, .val (.long (i2.toInt64)), .second, .val (.long (((i2.toInt64) + (1 : Int64)) + (i3 &&& (4294967295 : Int64)))), .second, .unset, .unset, .unset] [(.int z2), (.long (i0.toInt64)), (.ref b1), (.ref b1)])) _
      refine st4 _ ?_
      show Steps p.tables e below (T4.setTop (mkF m 54 #[.val (.int i0), .val (.long i1), .second, .val (.int i2), .val (.long i3), .second, .val (.int i4), .val (.long (i0.toInt64)), .second, .val (.long (((i0.toInt64) + (1 : Int64)) + (i1 &&& (4294967295 : Int64)))), .second, .val (.long (i2.toInt64)), .second, .val (.long (((i2.toInt64) + (1 : Int64)) + (i3 &&& (4294967295 : Int64)))), .second, .unset, .unset, .unset] [(.double (own_d (i0.toInt64) z2)), (.ref b1), (.ref b1)])) _
      refine XS.lload X4.here hx rfl (hb hby at_54) rfl ?_
      show Steps p.tables e below (T4.setTop (mkF m 56 #[.val (.int i0), .val (.long i1), .second, .val (.int i2), .val (.long i3), .second, .val (.int i4), .val (.long (i0.toInt64)), .second, .val (.long (((i0.toInt64) + (1 : Int64)) + (i1 &&& (4294967295 : Int64)))), .second, .val (.long (i2.toInt64)), .second, .val (.long (((i2.toInt64) + (1 : Int64)) + (i3 &&& (4294967295 : Int64)))), .second, .unset, .unset, .unset] [(.long (((i0.toInt64) + (1 : Int64)) + (i1 &&& (4294967295 : Int64)))), (.double (own_d (i0.toInt64) z2)), (.ref b1), (.ref b1)])) _
      refine XS.iload X4.here hx rfl (hb hby at_56) rfl ?_
      show Steps p.tables e below (T4.setTop (mkF m 58 #[.val (.int i0), .val (.long i1), .second, .val (.int i2), .val (.long i3), .second, .val (.int i4), .val (.long (i0.toInt64)), .second, .val (.long (((i0.toInt64) + (1 : Int64)) + (i1 &&& (4294967295 : Int64)))), .second, .val (.long (i2.toInt64)), .second, .val (.long (((i2.toInt64) + (1 : Int64)) + (i3 &&& (4294967295 : Int64)))), .second, .unset, .unset, .unset] [(.int i4), (.long (((i0.toInt64) + (1 : Int64)) + (i1 &&& (4294967295 : Int64)))), (.double (own_d (i0.toInt64) z2)), (.ref b1), (.ref b1)])) _
      refine XS.iconst X4.here hx rfl (hb hby at_58) ?_
      show Steps p.tables e below (T4.setTop (mkF m 59 #[.val (.int i0), .val (.long i1), .second, .val (.int i2), .val (.long i3), .second, .val (.int i4), .val (.long (i0.toInt64)), .second, .val (.long (((i0.toInt64) + (1 : Int64)) + (i1 &&& (4294967295 : Int64)))), .second, .val (.long (i2.toInt64)), .second, .val (.long (((i2.toInt64) + (1 : Int64)) + (i3 &&& (4294967295 : Int64)))), .second, .unset, .unset, .unset] [(.int (2 : Int32)), (.int i4), (.long (((i0.toInt64) + (1 : Int64)) + (i1 &&& (4294967295 : Int64)))), (.double (own_d (i0.toInt64) z2)), (.ref b1), (.ref b1)])) _
      refine XS.iand X4.here hx rfl (hb hby at_59) rfl ?_
      show Steps p.tables e below (T4.setTop (mkF m 60 #[.val (.int i0), .val (.long i1), .second, .val (.int i2), .val (.long i3), .second, .val (.int i4), .val (.long (i0.toInt64)), .second, .val (.long (((i0.toInt64) + (1 : Int64)) + (i1 &&& (4294967295 : Int64)))), .second, .val (.long (i2.toInt64)), .second, .val (.long (((i2.toInt64) + (1 : Int64)) + (i3 &&& (4294967295 : Int64)))), .second, .unset, .unset, .unset] [(.int (i4 &&& (2 : Int32))), (.long (((i0.toInt64) + (1 : Int64)) + (i1 &&& (4294967295 : Int64)))), (.double (own_d (i0.toInt64) z2)), (.ref b1), (.ref b1)])) _
      refine XS.ifNo X4.here hx rfl (hb hby at_60) rfl ((if0 _ _).trans (feq hc5).1) ?_
      show Steps p.tables e below (T4.setTop (mkF m 63 #[.val (.int i0), .val (.long i1), .second, .val (.int i2), .val (.long i3), .second, .val (.int i4), .val (.long (i0.toInt64)), .second, .val (.long (((i0.toInt64) + (1 : Int64)) + (i1 &&& (4294967295 : Int64)))), .second, .val (.long (i2.toInt64)), .second, .val (.long (((i2.toInt64) + (1 : Int64)) + (i3 &&& (4294967295 : Int64)))), .second, .unset, .unset, .unset] [(.long (((i0.toInt64) + (1 : Int64)) + (i1 &&& (4294967295 : Int64)))), (.double (own_d (i0.toInt64) z2)), (.ref b1), (.ref b1)])) _
      refine XS.iconst X4.here hx rfl (hb hby at_63) ?_
      show Steps p.tables e below (T4.setTop (mkF m 64 #[.val (.int i0), .val (.long i1), .second, .val (.int i2), .val (.long i3), .second, .val (.int i4), .val (.long (i0.toInt64)), .second, .val (.long (((i0.toInt64) + (1 : Int64)) + (i1 &&& (4294967295 : Int64)))), .second, .val (.long (i2.toInt64)), .second, .val (.long (((i2.toInt64) + (1 : Int64)) + (i3 &&& (4294967295 : Int64)))), .second, .unset, .unset, .unset] [(.int (1 : Int32)), (.long (((i0.toInt64) + (1 : Int64)) + (i1 &&& (4294967295 : Int64)))), (.double (own_d (i0.toInt64) z2)), (.ref b1), (.ref b1)])) _
      refine XS.goto X4.here hx rfl (pc0 := 64) (pc' := 68) rfl (hb hby at_64) (by decide) (by decide) ?_
      exact kt
  obtain ⟨z5, hz5, pre5⟩ := jn5
  obtain ⟨_, _, ⟨T6, L6, k6, n6⟩, -, X6, ⟨Lc6, hQ6, l6, y6, z6⟩, st6⟩ := Jvm.LawKit.callS X4 hx (y := (⟨"com/example/corral/corral/streams/KeyRangeOverlapsPinLaw", "d", "(JZ)D"⟩ : MethodName)) hown (mvT hZ (hw _ (List.mem_of_getElem? (i := 4) rfl))) (mvT hZ (hw _ (List.mem_of_getElem? (i := 5) rfl))) (mvT hZ (hw _ (List.mem_of_getElem? (i := 6) rfl))) (mvT hZ (hw _ (List.mem_of_getElem? (i := 7) rfl))) (by decide) (backOf (W := 4) (rmD l Z a0 hw [] (((i0.toInt64) + (1 : Int64)) + (i1 &&& (4294967295 : Int64))) z5 h1 n0 O3) hZ (hw _ (List.mem_of_getElem? (i := 7) rfl)) (hw _ (List.mem_of_getElem? (i := 6) rfl)) (by decide) (by decide)) (g := (mkF m 68 #[.val (.int i0), .val (.long i1), .second, .val (.int i2), .val (.long i3), .second, .val (.int i4), .val (.long (i0.toInt64)), .second, .val (.long (((i0.toInt64) + (1 : Int64)) + (i1 &&& (4294967295 : Int64)))), .second, .val (.long (i2.toInt64)), .second, .val (.long (((i2.toInt64) + (1 : Int64)) + (i3 &&& (4294967295 : Int64)))), .second, .unset, .unset, .unset] [(.int z5), (.long (((i0.toInt64) + (1 : Int64)) + (i1 &&& (4294967295 : Int64)))), (.double (own_d (i0.toInt64) z2)), (.ref b1), (.ref b1)])) rfl (by rw [hml]; rfl) (argsL := [(.long (((i0.toInt64) + (1 : Int64)) + (i1 &&& (4294967295 : Int64)))), (.int z5)]) (rest := [(.double (own_d (i0.toInt64) z2)), (.ref b1), (.ref b1)]) (lenOf pd_0 rfl) rfl (by show 2 * 0 + _ ≤ _; exact Nat.le_of_eq rfl) (hb hby at_68) (fun _ _ => ⟨rfl, hh4, (by decide : 1 + 0 ≤ _), (by decide : 2 + 0 ≤ _)⟩)
  dsimp only [Pt.U, Pt.locs, Pt.cells, Pt.slots] at X6 l6 y6 z6 st6 hQ6
  subst l6 y6 z6
  obtain ⟨rfl, N6q, hh6⟩ := hQ6
  have N6 := Fr.app N4 N6q
  obtain ⟨_, _, ⟨T7, L7, k7, n7⟩, -, X7, ⟨Lc7, hQ7, l7, y7, z7⟩, st7⟩ := X6.specialBack hx (y := (⟨"com/example/corral/corral/streams/KeyRange", "<init>", "(DD)V"⟩ : MethodName)) rfl hown (mvT hZ (hw _ (List.mem_of_getElem? (i := 8) rfl))) (mvT hZ (hw _ (List.mem_of_getElem? (i := 9) rfl))) (mvT hZ (hw _ (List.mem_of_getElem? (i := 10) rfl))) (by decide) (backOf (W := 1) (rmI l Z a0 hw [] b1 (own_d (i0.toInt64) z2) (own_d (((i0.toInt64) + (1 : Int64)) + (i1 &&& (4294967295 : Int64))) z5) h1 n0 O3 A1 F1_start F1_end gb1) hZ (hw _ (List.mem_of_getElem? (i := 10) rfl)) (hw _ (List.mem_of_getElem? (i := 3) rfl)) (by decide) (by decide)) (g := (mkF m 71 #[.val (.int i0), .val (.long i1), .second, .val (.int i2), .val (.long i3), .second, .val (.int i4), .val (.long (i0.toInt64)), .second, .val (.long (((i0.toInt64) + (1 : Int64)) + (i1 &&& (4294967295 : Int64)))), .second, .val (.long (i2.toInt64)), .second, .val (.long (((i2.toInt64) + (1 : Int64)) + (i3 &&& (4294967295 : Int64)))), .second, .unset, .unset, .unset] [(.double (own_d (((i0.toInt64) + (1 : Int64)) + (i1 &&& (4294967295 : Int64))) z5)), (.double (own_d (i0.toInt64) z2)), (.ref b1), (.ref b1)])) rfl (by rw [hml]; rfl) (Steps.refl _) (a := b1) (argsL := [(.double (own_d (i0.toInt64) z2)), (.double (own_d (((i0.toInt64) + (1 : Int64)) + (i1 &&& (4294967295 : Int64))) z5))]) (rest := [(.ref b1)]) (lenOf pd_1 rfl) rfl (by show 2 * 0 + _ ≤ _; exact Nat.le_of_eq rfl) (hb hby at_71) (fun _ _ => ⟨rfl, hh6, (by decide : 1 + 0 ≤ _), (by decide : 2 + 0 ≤ _)⟩)
  dsimp only [Pt.U, Pt.locs, Pt.cells, Pt.slots] at X7 l7 y7 z7 st7 hQ7
  subst l7 y7 z7
  obtain ⟨rfl, N7q, K7, Ex7, F7_start, F7_end⟩ := hQ7
  have N7 := Fr.app N6 N7q
  have O8 : Old Z n0 T7.heap := (O3.keep K7 (allS gb1 all0))
  obtain ⟨T9, h9, X9, e9, E9, A9, D9, -, st9⟩ := newO X7 hx hZ hown (hw _ (List.mem_of_getElem? (i := 1) rfl)) (hw _ (List.mem_of_getElem? (i := 2) rfl)) (hw _ (List.mem_of_getElem? (i := 3) rfl)) rfl (g := (mkF m 76 #[.val (.int i0), .val (.long i1), .second, .val (.int i2), .val (.long i3), .second, .val (.int i4), .val (.long (i0.toInt64)), .second, .val (.long (((i0.toInt64) + (1 : Int64)) + (i1 &&& (4294967295 : Int64)))), .second, .val (.long (i2.toInt64)), .second, .val (.long (((i2.toInt64) + (1 : Int64)) + (i3 &&& (4294967295 : Int64)))), .second, .val (.ref b1), .unset, .unset] [])) rfl (hb hby at_76) (by decide) (by decide)
  obtain ⟨b9, g9⟩ : ∃ z, z = T7.heap.size := ⟨_, rfl⟩
  rw [← g9] at A9 D9 st9
  have gb9 : n0 ≤ b9 := by rw [g9, ← O8.1]; exact O8.2.1
  have ne9_b1 : b1 ≠ b9 := by rw [g9]; exact Nat.ne_of_lt (Ex7).lt
  have F9_start : Fld Z h9 b9 "com/example/corral/corral/streams/KeyRange" "start" "D" (.double (0 : UInt64)) := D9 (Or.inr (hw _ (List.mem_of_getElem? (i := 15) rfl))) (ty := .double) (by decide)
  have F9_end : Fld Z h9 b9 "com/example/corral/corral/streams/KeyRange" "end" "D" (.double (0 : UInt64)) := D9 (Or.inr (hw _ (List.mem_of_getElem? (i := 17) rfl))) (ty := .double) (by decide)
  have jn10 : ∃ z10 : Int32, (((i4 &&& (4 : Int32)) = (0 : Int32)) ∧ z10 = (0 : Int32) ∨ ¬ ((i4 &&& (4 : Int32)) = (0 : Int32)) ∧ z10 = (1 : Int32)) ∧ ∀ t, Steps p.tables e below (T9.setTop (mkF m 94 #[.val (.int i0), .val (.long i1), .second, .val (.int i2), .val (.long i3), .second, .val (.int i4), .val (.long (i0.toInt64)), .second, .val (.long (((i0.toInt64) + (1 : Int64)) + (i1 &&& (4294967295 : Int64)))), .second, .val (.long (i2.toInt64)), .second, .val (.long (((i2.toInt64) + (1 : Int64)) + (i3 &&& (4294967295 : Int64)))), .second, .val (.ref b1), .unset, .unset] [(.int z10), (.long (i2.toInt64)), (.ref b9), (.ref b9)])) t → Steps p.tables e below (s₁.setTop (entryFrame m #[(.int i0), (.long i1), (.int i2), (.long i3), (.int i4)] maxLocals)) t := by
    by_cases hc10 : (i4 &&& (4 : Int32)) = (0 : Int32)
    · refine ⟨(0 : Int32), Or.inl ⟨hc10, rfl⟩, fun t kt => pre5 t ?_⟩
      show Steps p.tables e below (T4.setTop (mkF m 68 #[.val (.int i0), .val (.long i1), .second, .val (.int i2), .val (.long i3), .second, .val (.int i4), .val (.long (i0.toInt64)), .second, .val (.long (((i0.toInt64) + (1 : Int64)) + (i1 &&& (4294967295 : Int64)))), .second, .val (.long (i2.toInt64)), .second, .val (.long (((i2.toInt64) + (1 : Int64)) + (i3 &&& (4294967295 : Int64)))), .second, .unset, .unset, .unset] [(.int z5), (.long (((i0.toInt64) + (1 : Int64)) + (i1 &&& (4294967295 : Int64)))), (.double (own_d (i0.toInt64) z2)), (.ref b1), (.ref b1)])) _
      refine st6 _ ?_
      show Steps p.tables e below (T6.setTop (mkF m 71 #[.val (.int i0), .val (.long i1), .second, .val (.int i2), .val (.long i3), .second, .val (.int i4), .val (.long (i0.toInt64)), .second, .val (.long (((i0.toInt64) + (1 : Int64)) + (i1 &&& (4294967295 : Int64)))), .second, .val (.long (i2.toInt64)), .second, .val (.long (((i2.toInt64) + (1 : Int64)) + (i3 &&& (4294967295 : Int64)))), .second, .unset, .unset, .unset] [(.double (own_d (((i0.toInt64) + (1 : Int64)) + (i1 &&& (4294967295 : Int64))) z5)), (.double (own_d (i0.toInt64) z2)), (.ref b1), (.ref b1)])) _
      refine st7.trans ?_
      show Steps p.tables e below (T7.setTop (mkF m 74 #[.val (.int i0), .val (.long i1), .second, .val (.int i2), .val (.long i3), .second, .val (.int i4), .val (.long (i0.toInt64)), .second, .val (.long (((i0.toInt64) + (1 : Int64)) + (i1 &&& (4294967295 : Int64)))), .second, .val (.long (i2.toInt64)), .second, .val (.long (((i2.toInt64) + (1 : Int64)) + (i3 &&& (4294967295 : Int64)))), .second, .unset, .unset, .unset] [(.ref b1)])) _
      refine XS.astore X7.here hx rfl (hb hby at_74) rfl rfl (l' := #[.val (.int i0), .val (.long i1), .second, .val (.int i2), .val (.long i3), .second, .val (.int i4), .val (.long (i0.toInt64)), .second, .val (.long (((i0.toInt64) + (1 : Int64)) + (i1 &&& (4294967295 : Int64)))), .second, .val (.long (i2.toInt64)), .second, .val (.long (((i2.toInt64) + (1 : Int64)) + (i3 &&& (4294967295 : Int64)))), .second, .val (.ref b1), .unset, .unset]) rfl ?_
      show Steps p.tables e below (T7.setTop (mkF m 76 #[.val (.int i0), .val (.long i1), .second, .val (.int i2), .val (.long i3), .second, .val (.int i4), .val (.long (i0.toInt64)), .second, .val (.long (((i0.toInt64) + (1 : Int64)) + (i1 &&& (4294967295 : Int64)))), .second, .val (.long (i2.toInt64)), .second, .val (.long (((i2.toInt64) + (1 : Int64)) + (i3 &&& (4294967295 : Int64)))), .second, .val (.ref b1), .unset, .unset] [])) _
      refine st9 _ ?_
      show Steps p.tables e below (T9.setTop (mkF m 79 #[.val (.int i0), .val (.long i1), .second, .val (.int i2), .val (.long i3), .second, .val (.int i4), .val (.long (i0.toInt64)), .second, .val (.long (((i0.toInt64) + (1 : Int64)) + (i1 &&& (4294967295 : Int64)))), .second, .val (.long (i2.toInt64)), .second, .val (.long (((i2.toInt64) + (1 : Int64)) + (i3 &&& (4294967295 : Int64)))), .second, .val (.ref b1), .unset, .unset] [(.ref b9)])) _
      refine XS.dup X9.here hx rfl (hb hby at_79) rfl rfl ?_
      show Steps p.tables e below (T9.setTop (mkF m 80 #[.val (.int i0), .val (.long i1), .second, .val (.int i2), .val (.long i3), .second, .val (.int i4), .val (.long (i0.toInt64)), .second, .val (.long (((i0.toInt64) + (1 : Int64)) + (i1 &&& (4294967295 : Int64)))), .second, .val (.long (i2.toInt64)), .second, .val (.long (((i2.toInt64) + (1 : Int64)) + (i3 &&& (4294967295 : Int64)))), .second, .val (.ref b1), .unset, .unset] [(.ref b9), (.ref b9)])) _
      refine XS.lload X9.here hx rfl (hb hby at_80) rfl ?_
      show Steps p.tables e below (T9.setTop (mkF m 82 #[.val (.int i0), .val (.long i1), .second, .val (.int i2), .val (.long i3), .second, .val (.int i4), .val (.long (i0.toInt64)), .second, .val (.long (((i0.toInt64) + (1 : Int64)) + (i1 &&& (4294967295 : Int64)))), .second, .val (.long (i2.toInt64)), .second, .val (.long (((i2.toInt64) + (1 : Int64)) + (i3 &&& (4294967295 : Int64)))), .second, .val (.ref b1), .unset, .unset] [(.long (i2.toInt64)), (.ref b9), (.ref b9)])) _
      refine XS.iload X9.here hx rfl (hb hby at_82) rfl ?_
      show Steps p.tables e below (T9.setTop (mkF m 84 #[.val (.int i0), .val (.long i1), .second, .val (.int i2), .val (.long i3), .second, .val (.int i4), .val (.long (i0.toInt64)), .second, .val (.long (((i0.toInt64) + (1 : Int64)) + (i1 &&& (4294967295 : Int64)))), .second, .val (.long (i2.toInt64)), .second, .val (.long (((i2.toInt64) + (1 : Int64)) + (i3 &&& (4294967295 : Int64)))), .second, .val (.ref b1), .unset, .unset] [(.int i4), (.long (i2.toInt64)), (.ref b9), (.ref b9)])) _
      refine XS.iconst X9.here hx rfl (hb hby at_84) ?_
      show Steps p.tables e below (T9.setTop (mkF m 85 #[.val (.int i0), .val (.long i1), .second, .val (.int i2), .val (.long i3), .second, .val (.int i4), .val (.long (i0.toInt64)), .second, .val (.long (((i0.toInt64) + (1 : Int64)) + (i1 &&& (4294967295 : Int64)))), .second, .val (.long (i2.toInt64)), .second, .val (.long (((i2.toInt64) + (1 : Int64)) + (i3 &&& (4294967295 : Int64)))), .second, .val (.ref b1), .unset, .unset] [(.int (4 : Int32)), (.int i4), (.long (i2.toInt64)), (.ref b9), (.ref b9)])) _
      refine XS.iand X9.here hx rfl (hb hby at_85) rfl ?_
      show Steps p.tables e below (T9.setTop (mkF m 86 #[.val (.int i0), .val (.long i1), .second, .val (.int i2), .val (.long i3), .second, .val (.int i4), .val (.long (i0.toInt64)), .second, .val (.long (((i0.toInt64) + (1 : Int64)) + (i1 &&& (4294967295 : Int64)))), .second, .val (.long (i2.toInt64)), .second, .val (.long (((i2.toInt64) + (1 : Int64)) + (i3 &&& (4294967295 : Int64)))), .second, .val (.ref b1), .unset, .unset] [(.int (i4 &&& (4 : Int32))), (.long (i2.toInt64)), (.ref b9), (.ref b9)])) _
      refine XS.ifYes X9.here hx rfl (pc0 := 86) (pc' := 93) rfl (hb hby at_86) rfl ((if0 _ _).trans (teq hc10).1) (by decide) (by decide) ?_
      show Steps p.tables e below (T9.setTop (mkF m 93 #[.val (.int i0), .val (.long i1), .second, .val (.int i2), .val (.long i3), .second, .val (.int i4), .val (.long (i0.toInt64)), .second, .val (.long (((i0.toInt64) + (1 : Int64)) + (i1 &&& (4294967295 : Int64)))), .second, .val (.long (i2.toInt64)), .second, .val (.long (((i2.toInt64) + (1 : Int64)) + (i3 &&& (4294967295 : Int64)))), .second, .val (.ref b1), .unset, .unset] [(.long (i2.toInt64)), (.ref b9), (.ref b9)])) _
      refine XS.iconst X9.here hx rfl (hb hby at_93) ?_
      exact kt
    · refine ⟨(1 : Int32), Or.inr ⟨hc10, rfl⟩, fun t kt => pre5 t ?_⟩
      show Steps p.tables e below (T4.setTop (mkF m 68 #[.val (.int i0), .val (.long i1), .second, .val (.int i2), .val (.long i3), .second, .val (.int i4), .val (.long (i0.toInt64)), .second, .val (.long (((i0.toInt64) + (1 : Int64)) + (i1 &&& (4294967295 : Int64)))), .second, .val (.long (i2.toInt64)), .second, .val (.long (((i2.toInt64) + (1 : Int64)) + (i3 &&& (4294967295 : Int64)))), .second, .unset, .unset, .unset] [(.int z5), (.long (((i0.toInt64) + (1 : Int64)) + (i1 &&& (4294967295 : Int64)))), (.double (own_d (i0.toInt64) z2)), (.ref b1), (.ref b1)])) _
      refine st6 _ ?_
      show Steps p.tables e below (T6.setTop (mkF m 71 #[.val (.int i0), .val (.long i1), .second, .val (.int i2), .val (.long i3), .second, .val (.int i4), .val (.long (i0.toInt64)), .second, .val (.long (((i0.toInt64) + (1 : Int64)) + (i1 &&& (4294967295 : Int64)))), .second, .val (.long (i2.toInt64)), .second, .val (.long (((i2.toInt64) + (1 : Int64)) + (i3 &&& (4294967295 : Int64)))), .second, .unset, .unset, .unset] [(.double (own_d (((i0.toInt64) + (1 : Int64)) + (i1 &&& (4294967295 : Int64))) z5)), (.double (own_d (i0.toInt64) z2)), (.ref b1), (.ref b1)])) _
      refine st7.trans ?_
      show Steps p.tables e below (T7.setTop (mkF m 74 #[.val (.int i0), .val (.long i1), .second, .val (.int i2), .val (.long i3), .second, .val (.int i4), .val (.long (i0.toInt64)), .second, .val (.long (((i0.toInt64) + (1 : Int64)) + (i1 &&& (4294967295 : Int64)))), .second, .val (.long (i2.toInt64)), .second, .val (.long (((i2.toInt64) + (1 : Int64)) + (i3 &&& (4294967295 : Int64)))), .second, .unset, .unset, .unset] [(.ref b1)])) _
      refine XS.astore X7.here hx rfl (hb hby at_74) rfl rfl (l' := #[.val (.int i0), .val (.long i1), .second, .val (.int i2), .val (.long i3), .second, .val (.int i4), .val (.long (i0.toInt64)), .second, .val (.long (((i0.toInt64) + (1 : Int64)) + (i1 &&& (4294967295 : Int64)))), .second, .val (.long (i2.toInt64)), .second, .val (.long (((i2.toInt64) + (1 : Int64)) + (i3 &&& (4294967295 : Int64)))), .second, .val (.ref b1), .unset, .unset]) rfl ?_
      show Steps p.tables e below (T7.setTop (mkF m 76 #[.val (.int i0), .val (.long i1), .second, .val (.int i2), .val (.long i3), .second, .val (.int i4), .val (.long (i0.toInt64)), .second, .val (.long (((i0.toInt64) + (1 : Int64)) + (i1 &&& (4294967295 : Int64)))), .second, .val (.long (i2.toInt64)), .second, .val (.long (((i2.toInt64) + (1 : Int64)) + (i3 &&& (4294967295 : Int64)))), .second, .val (.ref b1), .unset, .unset] [])) _
      refine st9 _ ?_
      show Steps p.tables e below (T9.setTop (mkF m 79 #[.val (.int i0), .val (.long i1), .second, .val (.int i2), .val (.long i3), .second, .val (.int i4), .val (.long (i0.toInt64)), .second, .val (.long (((i0.toInt64) + (1 : Int64)) + (i1 &&& (4294967295 : Int64)))), .second, .val (.long (i2.toInt64)), .second, .val (.long (((i2.toInt64) + (1 : Int64)) + (i3 &&& (4294967295 : Int64)))), .second, .val (.ref b1), .unset, .unset] [(.ref b9)])) _
      refine XS.dup X9.here hx rfl (hb hby at_79) rfl rfl ?_
      show Steps p.tables e below (T9.setTop (mkF m 80 #[.val (.int i0), .val (.long i1), .second, .val (.int i2), .val (.long i3), .second, .val (.int i4), .val (.long (i0.toInt64)), .second, .val (.long (((i0.toInt64) + (1 : Int64)) + (i1 &&& (4294967295 : Int64)))), .second, .val (.long (i2.toInt64)), .second, .val (.long (((i2.toInt64) + (1 : Int64)) + (i3 &&& (4294967295 : Int64)))), .second, .val (.ref b1), .unset, .unset] [(.ref b9), (.ref b9)])) _
      refine XS.lload X9.here hx rfl (hb hby at_80) rfl ?_
      show Steps p.tables e below (T9.setTop (mkF m 82 #[.val (.int i0), .val (.long i1), .second, .val (.int i2), .val (.long i3), .second, .val (.int i4), .val (.long (i0.toInt64)), .second, .val (.long (((i0.toInt64) + (1 : Int64)) + (i1 &&& (4294967295 : Int64)))), .second, .val (.long (i2.toInt64)), .second, .val (.long (((i2.toInt64) + (1 : Int64)) + (i3 &&& (4294967295 : Int64)))), .second, .val (.ref b1), .unset, .unset] [(.long (i2.toInt64)), (.ref b9), (.ref b9)])) _
      refine XS.iload X9.here hx rfl (hb hby at_82) rfl ?_
      show Steps p.tables e below (T9.setTop (mkF m 84 #[.val (.int i0), .val (.long i1), .second, .val (.int i2), .val (.long i3), .second, .val (.int i4), .val (.long (i0.toInt64)), .second, .val (.long (((i0.toInt64) + (1 : Int64)) + (i1 &&& (4294967295 : Int64)))), .second, .val (.long (i2.toInt64)), .second, .val (.long (((i2.toInt64) + (1 : Int64)) + (i3 &&& (4294967295 : Int64)))), .second, .val (.ref b1), .unset, .unset] [(.int i4), (.long (i2.toInt64)), (.ref b9), (.ref b9)])) _
      refine XS.iconst X9.here hx rfl (hb hby at_84) ?_
      show Steps p.tables e below (T9.setTop (mkF m 85 #[.val (.int i0), .val (.long i1), .second, .val (.int i2), .val (.long i3), .second, .val (.int i4), .val (.long (i0.toInt64)), .second, .val (.long (((i0.toInt64) + (1 : Int64)) + (i1 &&& (4294967295 : Int64)))), .second, .val (.long (i2.toInt64)), .second, .val (.long (((i2.toInt64) + (1 : Int64)) + (i3 &&& (4294967295 : Int64)))), .second, .val (.ref b1), .unset, .unset] [(.int (4 : Int32)), (.int i4), (.long (i2.toInt64)), (.ref b9), (.ref b9)])) _
      refine XS.iand X9.here hx rfl (hb hby at_85) rfl ?_
      show Steps p.tables e below (T9.setTop (mkF m 86 #[.val (.int i0), .val (.long i1), .second, .val (.int i2), .val (.long i3), .second, .val (.int i4), .val (.long (i0.toInt64)), .second, .val (.long (((i0.toInt64) + (1 : Int64)) + (i1 &&& (4294967295 : Int64)))), .second, .val (.long (i2.toInt64)), .second, .val (.long (((i2.toInt64) + (1 : Int64)) + (i3 &&& (4294967295 : Int64)))), .second, .val (.ref b1), .unset, .unset] [(.int (i4 &&& (4 : Int32))), (.long (i2.toInt64)), (.ref b9), (.ref b9)])) _
      refine XS.ifNo X9.here hx rfl (hb hby at_86) rfl ((if0 _ _).trans (feq hc10).1) ?_
      show Steps p.tables e below (T9.setTop (mkF m 89 #[.val (.int i0), .val (.long i1), .second, .val (.int i2), .val (.long i3), .second, .val (.int i4), .val (.long (i0.toInt64)), .second, .val (.long (((i0.toInt64) + (1 : Int64)) + (i1 &&& (4294967295 : Int64)))), .second, .val (.long (i2.toInt64)), .second, .val (.long (((i2.toInt64) + (1 : Int64)) + (i3 &&& (4294967295 : Int64)))), .second, .val (.ref b1), .unset, .unset] [(.long (i2.toInt64)), (.ref b9), (.ref b9)])) _
      refine XS.iconst X9.here hx rfl (hb hby at_89) ?_
      show Steps p.tables e below (T9.setTop (mkF m 90 #[.val (.int i0), .val (.long i1), .second, .val (.int i2), .val (.long i3), .second, .val (.int i4), .val (.long (i0.toInt64)), .second, .val (.long (((i0.toInt64) + (1 : Int64)) + (i1 &&& (4294967295 : Int64)))), .second, .val (.long (i2.toInt64)), .second, .val (.long (((i2.toInt64) + (1 : Int64)) + (i3 &&& (4294967295 : Int64)))), .second, .val (.ref b1), .unset, .unset] [(.int (1 : Int32)), (.long (i2.toInt64)), (.ref b9), (.ref b9)])) _
      refine XS.goto X9.here hx rfl (pc0 := 90) (pc' := 94) rfl (hb hby at_90) (by decide) (by decide) ?_
      exact kt
  obtain ⟨z10, hz10, pre10⟩ := jn10
  have O11 : Old Z n0 h9 := (O8.ext E9)
  obtain ⟨_, _, ⟨T12, L12, k12, n12⟩, -, X12, ⟨Lc12, hQ12, l12, y12, z12⟩, st12⟩ := Jvm.LawKit.callS X9 hx (y := (⟨"com/example/corral/corral/streams/KeyRangeOverlapsPinLaw", "d", "(JZ)D"⟩ : MethodName)) hown (mvT hZ (hw _ (List.mem_of_getElem? (i := 4) rfl))) (mvT hZ (hw _ (List.mem_of_getElem? (i := 5) rfl))) (mvT hZ (hw _ (List.mem_of_getElem? (i := 6) rfl))) (mvT hZ (hw _ (List.mem_of_getElem? (i := 7) rfl))) (by decide) (backOf (W := 2) (rmD l Z a0 hw [] (i2.toInt64) z10 h9 n0 O11) hZ (hw _ (List.mem_of_getElem? (i := 7) rfl)) (hw _ (List.mem_of_getElem? (i := 6) rfl)) (by decide) (by decide)) (g := (mkF m 94 #[.val (.int i0), .val (.long i1), .second, .val (.int i2), .val (.long i3), .second, .val (.int i4), .val (.long (i0.toInt64)), .second, .val (.long (((i0.toInt64) + (1 : Int64)) + (i1 &&& (4294967295 : Int64)))), .second, .val (.long (i2.toInt64)), .second, .val (.long (((i2.toInt64) + (1 : Int64)) + (i3 &&& (4294967295 : Int64)))), .second, .val (.ref b1), .unset, .unset] [(.int z10), (.long (i2.toInt64)), (.ref b9), (.ref b9)])) rfl (by rw [hml]; rfl) (argsL := [(.long (i2.toInt64)), (.int z10)]) (rest := [(.ref b9), (.ref b9)]) (lenOf pd_0 rfl) rfl (by show 2 * 0 + _ ≤ _; exact Nat.le_of_eq rfl) (hb hby at_94) (fun _ _ => ⟨rfl, e9, (by decide : 2 + 0 ≤ _), (by decide : 4 + 0 ≤ _)⟩)
  dsimp only [Pt.U, Pt.locs, Pt.cells, Pt.slots] at X12 l12 y12 z12 st12 hQ12
  subst l12 y12 z12
  obtain ⟨rfl, N12q, hh12⟩ := hQ12
  have N12 := Fr.app N7 N12q
  have jn13 : ∃ z13 : Int32, (((i4 &&& (8 : Int32)) = (0 : Int32)) ∧ z13 = (0 : Int32) ∨ ¬ ((i4 &&& (8 : Int32)) = (0 : Int32)) ∧ z13 = (1 : Int32)) ∧ ∀ t, Steps p.tables e below (T12.setTop (mkF m 112 #[.val (.int i0), .val (.long i1), .second, .val (.int i2), .val (.long i3), .second, .val (.int i4), .val (.long (i0.toInt64)), .second, .val (.long (((i0.toInt64) + (1 : Int64)) + (i1 &&& (4294967295 : Int64)))), .second, .val (.long (i2.toInt64)), .second, .val (.long (((i2.toInt64) + (1 : Int64)) + (i3 &&& (4294967295 : Int64)))), .second, .val (.ref b1), .unset, .unset] [(.int z13), (.long (((i2.toInt64) + (1 : Int64)) + (i3 &&& (4294967295 : Int64)))), (.double (own_d (i2.toInt64) z10)), (.ref b9), (.ref b9)])) t → Steps p.tables e below (s₁.setTop (entryFrame m #[(.int i0), (.long i1), (.int i2), (.long i3), (.int i4)] maxLocals)) t := by
    by_cases hc13 : (i4 &&& (8 : Int32)) = (0 : Int32)
    · refine ⟨(0 : Int32), Or.inl ⟨hc13, rfl⟩, fun t kt => pre10 t ?_⟩
      show Steps p.tables e below (T9.setTop (mkF m 94 #[.val (.int i0), .val (.long i1), .second, .val (.int i2), .val (.long i3), .second, .val (.int i4), .val (.long (i0.toInt64)), .second, .val (.long (((i0.toInt64) + (1 : Int64)) + (i1 &&& (4294967295 : Int64)))), .second, .val (.long (i2.toInt64)), .second, .val (.long (((i2.toInt64) + (1 : Int64)) + (i3 &&& (4294967295 : Int64)))), .second, .val (.ref b1), .unset, .unset] [(.int z10), (.long (i2.toInt64)), (.ref b9), (.ref b9)])) _
      refine st12 _ ?_
      show Steps p.tables e below (T12.setTop (mkF m 97 #[.val (.int i0), .val (.long i1), .second, .val (.int i2), .val (.long i3), .second, .val (.int i4), .val (.long (i0.toInt64)), .second, .val (.long (((i0.toInt64) + (1 : Int64)) + (i1 &&& (4294967295 : Int64)))), .second, .val (.long (i2.toInt64)), .second, .val (.long (((i2.toInt64) + (1 : Int64)) + (i3 &&& (4294967295 : Int64)))), .second, .val (.ref b1), .unset, .unset] [(.double (own_d (i2.toInt64) z10)), (.ref b9), (.ref b9)])) _
      refine XS.lload X12.here hx rfl (hb hby at_97) rfl ?_
      show Steps p.tables e below (T12.setTop (mkF m 99 #[.val (.int i0), .val (.long i1), .second, .val (.int i2), .val (.long i3), .second, .val (.int i4), .val (.long (i0.toInt64)), .second, .val (.long (((i0.toInt64) + (1 : Int64)) + (i1 &&& (4294967295 : Int64)))), .second, .val (.long (i2.toInt64)), .second, .val (.long (((i2.toInt64) + (1 : Int64)) + (i3 &&& (4294967295 : Int64)))), .second, .val (.ref b1), .unset, .unset] [(.long (((i2.toInt64) + (1 : Int64)) + (i3 &&& (4294967295 : Int64)))), (.double (own_d (i2.toInt64) z10)), (.ref b9), (.ref b9)])) _
      refine XS.iload X12.here hx rfl (hb hby at_99) rfl ?_
      show Steps p.tables e below (T12.setTop (mkF m 101 #[.val (.int i0), .val (.long i1), .second, .val (.int i2), .val (.long i3), .second, .val (.int i4), .val (.long (i0.toInt64)), .second, .val (.long (((i0.toInt64) + (1 : Int64)) + (i1 &&& (4294967295 : Int64)))), .second, .val (.long (i2.toInt64)), .second, .val (.long (((i2.toInt64) + (1 : Int64)) + (i3 &&& (4294967295 : Int64)))), .second, .val (.ref b1), .unset, .unset] [(.int i4), (.long (((i2.toInt64) + (1 : Int64)) + (i3 &&& (4294967295 : Int64)))), (.double (own_d (i2.toInt64) z10)), (.ref b9), (.ref b9)])) _
      refine XS.bipush X12.here hx rfl (hb hby at_101) ?_
      show Steps p.tables e below (T12.setTop (mkF m 103 #[.val (.int i0), .val (.long i1), .second, .val (.int i2), .val (.long i3), .second, .val (.int i4), .val (.long (i0.toInt64)), .second, .val (.long (((i0.toInt64) + (1 : Int64)) + (i1 &&& (4294967295 : Int64)))), .second, .val (.long (i2.toInt64)), .second, .val (.long (((i2.toInt64) + (1 : Int64)) + (i3 &&& (4294967295 : Int64)))), .second, .val (.ref b1), .unset, .unset] [(.int (8 : Int32)), (.int i4), (.long (((i2.toInt64) + (1 : Int64)) + (i3 &&& (4294967295 : Int64)))), (.double (own_d (i2.toInt64) z10)), (.ref b9), (.ref b9)])) _
      refine XS.iand X12.here hx rfl (hb hby at_103) rfl ?_
      show Steps p.tables e below (T12.setTop (mkF m 104 #[.val (.int i0), .val (.long i1), .second, .val (.int i2), .val (.long i3), .second, .val (.int i4), .val (.long (i0.toInt64)), .second, .val (.long (((i0.toInt64) + (1 : Int64)) + (i1 &&& (4294967295 : Int64)))), .second, .val (.long (i2.toInt64)), .second, .val (.long (((i2.toInt64) + (1 : Int64)) + (i3 &&& (4294967295 : Int64)))), .second, .val (.ref b1), .unset, .unset] [(.int (i4 &&& (8 : Int32))), (.long (((i2.toInt64) + (1 : Int64)) + (i3 &&& (4294967295 : Int64)))), (.double (own_d (i2.toInt64) z10)), (.ref b9), (.ref b9)])) _
      refine XS.ifYes X12.here hx rfl (pc0 := 104) (pc' := 111) rfl (hb hby at_104) rfl ((if0 _ _).trans (teq hc13).1) (by decide) (by decide) ?_
      show Steps p.tables e below (T12.setTop (mkF m 111 #[.val (.int i0), .val (.long i1), .second, .val (.int i2), .val (.long i3), .second, .val (.int i4), .val (.long (i0.toInt64)), .second, .val (.long (((i0.toInt64) + (1 : Int64)) + (i1 &&& (4294967295 : Int64)))), .second, .val (.long (i2.toInt64)), .second, .val (.long (((i2.toInt64) + (1 : Int64)) + (i3 &&& (4294967295 : Int64)))), .second, .val (.ref b1), .unset, .unset] [(.long (((i2.toInt64) + (1 : Int64)) + (i3 &&& (4294967295 : Int64)))), (.double (own_d (i2.toInt64) z10)), (.ref b9), (.ref b9)])) _
      refine XS.iconst X12.here hx rfl (hb hby at_111) ?_
      exact kt
    · refine ⟨(1 : Int32), Or.inr ⟨hc13, rfl⟩, fun t kt => pre10 t ?_⟩
      show Steps p.tables e below (T9.setTop (mkF m 94 #[.val (.int i0), .val (.long i1), .second, .val (.int i2), .val (.long i3), .second, .val (.int i4), .val (.long (i0.toInt64)), .second, .val (.long (((i0.toInt64) + (1 : Int64)) + (i1 &&& (4294967295 : Int64)))), .second, .val (.long (i2.toInt64)), .second, .val (.long (((i2.toInt64) + (1 : Int64)) + (i3 &&& (4294967295 : Int64)))), .second, .val (.ref b1), .unset, .unset] [(.int z10), (.long (i2.toInt64)), (.ref b9), (.ref b9)])) _
      refine st12 _ ?_
      show Steps p.tables e below (T12.setTop (mkF m 97 #[.val (.int i0), .val (.long i1), .second, .val (.int i2), .val (.long i3), .second, .val (.int i4), .val (.long (i0.toInt64)), .second, .val (.long (((i0.toInt64) + (1 : Int64)) + (i1 &&& (4294967295 : Int64)))), .second, .val (.long (i2.toInt64)), .second, .val (.long (((i2.toInt64) + (1 : Int64)) + (i3 &&& (4294967295 : Int64)))), .second, .val (.ref b1), .unset, .unset] [(.double (own_d (i2.toInt64) z10)), (.ref b9), (.ref b9)])) _
      refine XS.lload X12.here hx rfl (hb hby at_97) rfl ?_
      show Steps p.tables e below (T12.setTop (mkF m 99 #[.val (.int i0), .val (.long i1), .second, .val (.int i2), .val (.long i3), .second, .val (.int i4), .val (.long (i0.toInt64)), .second, .val (.long (((i0.toInt64) + (1 : Int64)) + (i1 &&& (4294967295 : Int64)))), .second, .val (.long (i2.toInt64)), .second, .val (.long (((i2.toInt64) + (1 : Int64)) + (i3 &&& (4294967295 : Int64)))), .second, .val (.ref b1), .unset, .unset] [(.long (((i2.toInt64) + (1 : Int64)) + (i3 &&& (4294967295 : Int64)))), (.double (own_d (i2.toInt64) z10)), (.ref b9), (.ref b9)])) _
      refine XS.iload X12.here hx rfl (hb hby at_99) rfl ?_
      show Steps p.tables e below (T12.setTop (mkF m 101 #[.val (.int i0), .val (.long i1), .second, .val (.int i2), .val (.long i3), .second, .val (.int i4), .val (.long (i0.toInt64)), .second, .val (.long (((i0.toInt64) + (1 : Int64)) + (i1 &&& (4294967295 : Int64)))), .second, .val (.long (i2.toInt64)), .second, .val (.long (((i2.toInt64) + (1 : Int64)) + (i3 &&& (4294967295 : Int64)))), .second, .val (.ref b1), .unset, .unset] [(.int i4), (.long (((i2.toInt64) + (1 : Int64)) + (i3 &&& (4294967295 : Int64)))), (.double (own_d (i2.toInt64) z10)), (.ref b9), (.ref b9)])) _
      refine XS.bipush X12.here hx rfl (hb hby at_101) ?_
      show Steps p.tables e below (T12.setTop (mkF m 103 #[.val (.int i0), .val (.long i1), .second, .val (.int i2), .val (.long i3), .second, .val (.int i4), .val (.long (i0.toInt64)), .second, .val (.long (((i0.toInt64) + (1 : Int64)) + (i1 &&& (4294967295 : Int64)))), .second, .val (.long (i2.toInt64)), .second, .val (.long (((i2.toInt64) + (1 : Int64)) + (i3 &&& (4294967295 : Int64)))), .second, .val (.ref b1), .unset, .unset] [(.int (8 : Int32)), (.int i4), (.long (((i2.toInt64) + (1 : Int64)) + (i3 &&& (4294967295 : Int64)))), (.double (own_d (i2.toInt64) z10)), (.ref b9), (.ref b9)])) _
      refine XS.iand X12.here hx rfl (hb hby at_103) rfl ?_
      show Steps p.tables e below (T12.setTop (mkF m 104 #[.val (.int i0), .val (.long i1), .second, .val (.int i2), .val (.long i3), .second, .val (.int i4), .val (.long (i0.toInt64)), .second, .val (.long (((i0.toInt64) + (1 : Int64)) + (i1 &&& (4294967295 : Int64)))), .second, .val (.long (i2.toInt64)), .second, .val (.long (((i2.toInt64) + (1 : Int64)) + (i3 &&& (4294967295 : Int64)))), .second, .val (.ref b1), .unset, .unset] [(.int (i4 &&& (8 : Int32))), (.long (((i2.toInt64) + (1 : Int64)) + (i3 &&& (4294967295 : Int64)))), (.double (own_d (i2.toInt64) z10)), (.ref b9), (.ref b9)])) _
      refine XS.ifNo X12.here hx rfl (hb hby at_104) rfl ((if0 _ _).trans (feq hc13).1) ?_
      show Steps p.tables e below (T12.setTop (mkF m 107 #[.val (.int i0), .val (.long i1), .second, .val (.int i2), .val (.long i3), .second, .val (.int i4), .val (.long (i0.toInt64)), .second, .val (.long (((i0.toInt64) + (1 : Int64)) + (i1 &&& (4294967295 : Int64)))), .second, .val (.long (i2.toInt64)), .second, .val (.long (((i2.toInt64) + (1 : Int64)) + (i3 &&& (4294967295 : Int64)))), .second, .val (.ref b1), .unset, .unset] [(.long (((i2.toInt64) + (1 : Int64)) + (i3 &&& (4294967295 : Int64)))), (.double (own_d (i2.toInt64) z10)), (.ref b9), (.ref b9)])) _
      refine XS.iconst X12.here hx rfl (hb hby at_107) ?_
      show Steps p.tables e below (T12.setTop (mkF m 108 #[.val (.int i0), .val (.long i1), .second, .val (.int i2), .val (.long i3), .second, .val (.int i4), .val (.long (i0.toInt64)), .second, .val (.long (((i0.toInt64) + (1 : Int64)) + (i1 &&& (4294967295 : Int64)))), .second, .val (.long (i2.toInt64)), .second, .val (.long (((i2.toInt64) + (1 : Int64)) + (i3 &&& (4294967295 : Int64)))), .second, .val (.ref b1), .unset, .unset] [(.int (1 : Int32)), (.long (((i2.toInt64) + (1 : Int64)) + (i3 &&& (4294967295 : Int64)))), (.double (own_d (i2.toInt64) z10)), (.ref b9), (.ref b9)])) _
      refine XS.goto X12.here hx rfl (pc0 := 108) (pc' := 112) rfl (hb hby at_108) (by decide) (by decide) ?_
      exact kt
  obtain ⟨z13, hz13, pre13⟩ := jn13
  obtain ⟨_, _, ⟨T14, L14, k14, n14⟩, -, X14, ⟨Lc14, hQ14, l14, y14, z14⟩, st14⟩ := Jvm.LawKit.callS X12 hx (y := (⟨"com/example/corral/corral/streams/KeyRangeOverlapsPinLaw", "d", "(JZ)D"⟩ : MethodName)) hown (mvT hZ (hw _ (List.mem_of_getElem? (i := 4) rfl))) (mvT hZ (hw _ (List.mem_of_getElem? (i := 5) rfl))) (mvT hZ (hw _ (List.mem_of_getElem? (i := 6) rfl))) (mvT hZ (hw _ (List.mem_of_getElem? (i := 7) rfl))) (by decide) (backOf (W := 4) (rmD l Z a0 hw [] (((i2.toInt64) + (1 : Int64)) + (i3 &&& (4294967295 : Int64))) z13 h9 n0 O11) hZ (hw _ (List.mem_of_getElem? (i := 7) rfl)) (hw _ (List.mem_of_getElem? (i := 6) rfl)) (by decide) (by decide)) (g := (mkF m 112 #[.val (.int i0), .val (.long i1), .second, .val (.int i2), .val (.long i3), .second, .val (.int i4), .val (.long (i0.toInt64)), .second, .val (.long (((i0.toInt64) + (1 : Int64)) + (i1 &&& (4294967295 : Int64)))), .second, .val (.long (i2.toInt64)), .second, .val (.long (((i2.toInt64) + (1 : Int64)) + (i3 &&& (4294967295 : Int64)))), .second, .val (.ref b1), .unset, .unset] [(.int z13), (.long (((i2.toInt64) + (1 : Int64)) + (i3 &&& (4294967295 : Int64)))), (.double (own_d (i2.toInt64) z10)), (.ref b9), (.ref b9)])) rfl (by rw [hml]; rfl) (argsL := [(.long (((i2.toInt64) + (1 : Int64)) + (i3 &&& (4294967295 : Int64)))), (.int z13)]) (rest := [(.double (own_d (i2.toInt64) z10)), (.ref b9), (.ref b9)]) (lenOf pd_0 rfl) rfl (by show 2 * 0 + _ ≤ _; exact Nat.le_of_eq rfl) (hb hby at_112) (fun _ _ => ⟨rfl, hh12, (by decide : 2 + 0 ≤ _), (by decide : 4 + 0 ≤ _)⟩)
  dsimp only [Pt.U, Pt.locs, Pt.cells, Pt.slots] at X14 l14 y14 z14 st14 hQ14
  subst l14 y14 z14
  obtain ⟨rfl, N14q, hh14⟩ := hQ14
  have N14 := Fr.app N12 N14q
  obtain ⟨_, _, ⟨T15, L15, k15, n15⟩, -, X15, ⟨Lc15, hQ15, l15, y15, z15⟩, st15⟩ := X14.specialBack hx (y := (⟨"com/example/corral/corral/streams/KeyRange", "<init>", "(DD)V"⟩ : MethodName)) rfl hown (mvT hZ (hw _ (List.mem_of_getElem? (i := 8) rfl))) (mvT hZ (hw _ (List.mem_of_getElem? (i := 9) rfl))) (mvT hZ (hw _ (List.mem_of_getElem? (i := 10) rfl))) (by decide) (backOf (W := 1) (rmI l Z a0 hw [] b9 (own_d (i2.toInt64) z10) (own_d (((i2.toInt64) + (1 : Int64)) + (i3 &&& (4294967295 : Int64))) z13) h9 n0 O11 A9 F9_start F9_end gb9) hZ (hw _ (List.mem_of_getElem? (i := 10) rfl)) (hw _ (List.mem_of_getElem? (i := 3) rfl)) (by decide) (by decide)) (g := (mkF m 115 #[.val (.int i0), .val (.long i1), .second, .val (.int i2), .val (.long i3), .second, .val (.int i4), .val (.long (i0.toInt64)), .second, .val (.long (((i0.toInt64) + (1 : Int64)) + (i1 &&& (4294967295 : Int64)))), .second, .val (.long (i2.toInt64)), .second, .val (.long (((i2.toInt64) + (1 : Int64)) + (i3 &&& (4294967295 : Int64)))), .second, .val (.ref b1), .unset, .unset] [(.double (own_d (((i2.toInt64) + (1 : Int64)) + (i3 &&& (4294967295 : Int64))) z13)), (.double (own_d (i2.toInt64) z10)), (.ref b9), (.ref b9)])) rfl (by rw [hml]; rfl) (Steps.refl _) (a := b9) (argsL := [(.double (own_d (i2.toInt64) z10)), (.double (own_d (((i2.toInt64) + (1 : Int64)) + (i3 &&& (4294967295 : Int64))) z13))]) (rest := [(.ref b9)]) (lenOf pd_1 rfl) rfl (by show 2 * 0 + _ ≤ _; exact Nat.le_of_eq rfl) (hb hby at_115) (fun _ _ => ⟨rfl, hh14, (by decide : 2 + 0 ≤ _), (by decide : 4 + 0 ≤ _)⟩)
  dsimp only [Pt.U, Pt.locs, Pt.cells, Pt.slots] at X15 l15 y15 z15 st15 hQ15
  subst l15 y15 z15
  obtain ⟨rfl, N15q, K15, Ex15, F15_start, F15_end⟩ := hQ15
  have N15 := Fr.app N14 N15q
  have O16 : Old Z n0 T15.heap := (O11.keep K15 (allS gb9 all0))
  obtain ⟨_, _, ⟨T17, L17, k17, n17⟩, -, X17, ⟨Lc17, hQ17, l17, y17, z17⟩, st17⟩ := Jvm.LawKit.callS X15 hx (y := (⟨"java/lang/Math", "max", "(JJ)J"⟩ : MethodName)) hown (mvT hZ (hw _ (List.mem_of_getElem? (i := 18) rfl))) (mvT hZ (hw _ (List.mem_of_getElem? (i := 19) rfl))) (mvT hZ (hw _ (List.mem_of_getElem? (i := 20) rfl))) (mvT hZ (hw _ (List.mem_of_getElem? (i := 21) rfl))) (by decide) (backOf (W := 0) (rmX l Z a0 hw [] (i0.toInt64) (i2.toInt64) T15.heap n0 O16) hZ (hw _ (List.mem_of_getElem? (i := 21) rfl)) (hw _ (List.mem_of_getElem? (i := 20) rfl)) (by decide) (by decide)) (g := (mkF m 124 #[.val (.int i0), .val (.long i1), .second, .val (.int i2), .val (.long i3), .second, .val (.int i4), .val (.long (i0.toInt64)), .second, .val (.long (((i0.toInt64) + (1 : Int64)) + (i1 &&& (4294967295 : Int64)))), .second, .val (.long (i2.toInt64)), .second, .val (.long (((i2.toInt64) + (1 : Int64)) + (i3 &&& (4294967295 : Int64)))), .second, .val (.ref b1), .val (.ref b9), .unset] [(.long (i2.toInt64)), (.long (i0.toInt64))])) rfl (by rw [hml]; rfl) (argsL := [(.long (i0.toInt64)), (.long (i2.toInt64))]) (rest := []) (lenOf pd_2 rfl) rfl (by show 2 * 0 + _ ≤ _; exact Nat.le_of_eq rfl) (hb hby at_124) (fun _ _ => ⟨rfl, rfl, (by decide : 2 + 0 ≤ _), (by decide : 4 + 0 ≤ _)⟩)
  dsimp only [Pt.U, Pt.locs, Pt.cells, Pt.slots] at X17 l17 y17 z17 st17 hQ17
  subst l17 y17 z17
  obtain ⟨rfl, N17q, hh17⟩ := hQ17
  have N17 := Fr.app N15 N17q
  obtain ⟨_, _, ⟨T18, L18, k18, n18⟩, -, X18, ⟨Lc18, hQ18, l18, y18, z18⟩, st18⟩ := Jvm.LawKit.callS X17 hx (y := (⟨"java/lang/Math", "min", "(JJ)J"⟩ : MethodName)) hown (mvT hZ (hw _ (List.mem_of_getElem? (i := 22) rfl))) (mvT hZ (hw _ (List.mem_of_getElem? (i := 23) rfl))) (mvT hZ (hw _ (List.mem_of_getElem? (i := 20) rfl))) (mvT hZ (hw _ (List.mem_of_getElem? (i := 24) rfl))) (by decide) (backOf (W := 2) (rmN l Z a0 hw [] (((i0.toInt64) + (1 : Int64)) + (i1 &&& (4294967295 : Int64))) (((i2.toInt64) + (1 : Int64)) + (i3 &&& (4294967295 : Int64))) T15.heap n0 O16) hZ (hw _ (List.mem_of_getElem? (i := 24) rfl)) (hw _ (List.mem_of_getElem? (i := 20) rfl)) (by decide) (by decide)) (g := (mkF m 131 #[.val (.int i0), .val (.long i1), .second, .val (.int i2), .val (.long i3), .second, .val (.int i4), .val (.long (i0.toInt64)), .second, .val (.long (((i0.toInt64) + (1 : Int64)) + (i1 &&& (4294967295 : Int64)))), .second, .val (.long (i2.toInt64)), .second, .val (.long (((i2.toInt64) + (1 : Int64)) + (i3 &&& (4294967295 : Int64)))), .second, .val (.ref b1), .val (.ref b9), .unset] [(.long (((i2.toInt64) + (1 : Int64)) + (i3 &&& (4294967295 : Int64)))), (.long (((i0.toInt64) + (1 : Int64)) + (i1 &&& (4294967295 : Int64)))), (.long (own_max (i0.toInt64) (i2.toInt64)))])) rfl (by rw [hml]; rfl) (argsL := [(.long (((i0.toInt64) + (1 : Int64)) + (i1 &&& (4294967295 : Int64)))), (.long (((i2.toInt64) + (1 : Int64)) + (i3 &&& (4294967295 : Int64))))]) (rest := [(.long (own_max (i0.toInt64) (i2.toInt64)))]) (lenOf pd_2 rfl) rfl (by show 2 * 0 + _ ≤ _; exact Nat.le_of_eq rfl) (hb hby at_131) (fun _ _ => ⟨rfl, hh17, (by decide : 2 + 0 ≤ _), (by decide : 4 + 0 ≤ _)⟩)
  dsimp only [Pt.U, Pt.locs, Pt.cells, Pt.slots] at X18 l18 y18 z18 st18 hQ18
  subst l18 y18 z18
  obtain ⟨rfl, N18q, hh18⟩ := hQ18
  have N18 := Fr.app N17 N18q
  have jn19 : ∃ z19 : Int32, (((own_max (i0.toInt64) (i2.toInt64)) < (own_min (((i0.toInt64) + (1 : Int64)) + (i1 &&& (4294967295 : Int64))) (((i2.toInt64) + (1 : Int64)) + (i3 &&& (4294967295 : Int64))))) ∧ z19 = (1 : Int32) ∨ ¬ ((own_max (i0.toInt64) (i2.toInt64)) < (own_min (((i0.toInt64) + (1 : Int64)) + (i1 &&& (4294967295 : Int64))) (((i2.toInt64) + (1 : Int64)) + (i3 &&& (4294967295 : Int64))))) ∧ z19 = (0 : Int32)) ∧ ∀ t, Steps p.tables e below (T18.setTop (mkF m 143 #[.val (.int i0), .val (.long i1), .second, .val (.int i2), .val (.long i3), .second, .val (.int i4), .val (.long (i0.toInt64)), .second, .val (.long (((i0.toInt64) + (1 : Int64)) + (i1 &&& (4294967295 : Int64)))), .second, .val (.long (i2.toInt64)), .second, .val (.long (((i2.toInt64) + (1 : Int64)) + (i3 &&& (4294967295 : Int64)))), .second, .val (.ref b1), .val (.ref b9), .unset] [(.int z19)])) t → Steps p.tables e below (s₁.setTop (entryFrame m #[(.int i0), (.long i1), (.int i2), (.long i3), (.int i4)] maxLocals)) t := by
    by_cases hc19 : (own_max (i0.toInt64) (i2.toInt64)) < (own_min (((i0.toInt64) + (1 : Int64)) + (i1 &&& (4294967295 : Int64))) (((i2.toInt64) + (1 : Int64)) + (i3 &&& (4294967295 : Int64))))
    · refine ⟨(1 : Int32), Or.inl ⟨hc19, rfl⟩, fun t kt => pre13 t ?_⟩
      show Steps p.tables e below (T12.setTop (mkF m 112 #[.val (.int i0), .val (.long i1), .second, .val (.int i2), .val (.long i3), .second, .val (.int i4), .val (.long (i0.toInt64)), .second, .val (.long (((i0.toInt64) + (1 : Int64)) + (i1 &&& (4294967295 : Int64)))), .second, .val (.long (i2.toInt64)), .second, .val (.long (((i2.toInt64) + (1 : Int64)) + (i3 &&& (4294967295 : Int64)))), .second, .val (.ref b1), .unset, .unset] [(.int z13), (.long (((i2.toInt64) + (1 : Int64)) + (i3 &&& (4294967295 : Int64)))), (.double (own_d (i2.toInt64) z10)), (.ref b9), (.ref b9)])) _
      refine st14 _ ?_
      show Steps p.tables e below (T14.setTop (mkF m 115 #[.val (.int i0), .val (.long i1), .second, .val (.int i2), .val (.long i3), .second, .val (.int i4), .val (.long (i0.toInt64)), .second, .val (.long (((i0.toInt64) + (1 : Int64)) + (i1 &&& (4294967295 : Int64)))), .second, .val (.long (i2.toInt64)), .second, .val (.long (((i2.toInt64) + (1 : Int64)) + (i3 &&& (4294967295 : Int64)))), .second, .val (.ref b1), .unset, .unset] [(.double (own_d (((i2.toInt64) + (1 : Int64)) + (i3 &&& (4294967295 : Int64))) z13)), (.double (own_d (i2.toInt64) z10)), (.ref b9), (.ref b9)])) _
      refine st15.trans ?_
      show Steps p.tables e below (T15.setTop (mkF m 118 #[.val (.int i0), .val (.long i1), .second, .val (.int i2), .val (.long i3), .second, .val (.int i4), .val (.long (i0.toInt64)), .second, .val (.long (((i0.toInt64) + (1 : Int64)) + (i1 &&& (4294967295 : Int64)))), .second, .val (.long (i2.toInt64)), .second, .val (.long (((i2.toInt64) + (1 : Int64)) + (i3 &&& (4294967295 : Int64)))), .second, .val (.ref b1), .unset, .unset] [(.ref b9)])) _
      refine XS.astore X15.here hx rfl (hb hby at_118) rfl rfl (l' := #[.val (.int i0), .val (.long i1), .second, .val (.int i2), .val (.long i3), .second, .val (.int i4), .val (.long (i0.toInt64)), .second, .val (.long (((i0.toInt64) + (1 : Int64)) + (i1 &&& (4294967295 : Int64)))), .second, .val (.long (i2.toInt64)), .second, .val (.long (((i2.toInt64) + (1 : Int64)) + (i3 &&& (4294967295 : Int64)))), .second, .val (.ref b1), .val (.ref b9), .unset]) rfl ?_
      show Steps p.tables e below (T15.setTop (mkF m 120 #[.val (.int i0), .val (.long i1), .second, .val (.int i2), .val (.long i3), .second, .val (.int i4), .val (.long (i0.toInt64)), .second, .val (.long (((i0.toInt64) + (1 : Int64)) + (i1 &&& (4294967295 : Int64)))), .second, .val (.long (i2.toInt64)), .second, .val (.long (((i2.toInt64) + (1 : Int64)) + (i3 &&& (4294967295 : Int64)))), .second, .val (.ref b1), .val (.ref b9), .unset] [])) _
      refine XS.lload X15.here hx rfl (hb hby at_120) rfl ?_
      show Steps p.tables e below (T15.setTop (mkF m 122 #[.val (.int i0), .val (.long i1), .second, .val (.int i2), .val (.long i3), .second, .val (.int i4), .val (.long (i0.toInt64)), .second, .val (.long (((i0.toInt64) + (1 : Int64)) + (i1 &&& (4294967295 : Int64)))), .second, .val (.long (i2.toInt64)), .second, .val (.long (((i2.toInt64) + (1 : Int64)) + (i3 &&& (4294967295 : Int64)))), .second, .val (.ref b1), .val (.ref b9), .unset] [(.long (i0.toInt64))])) _
      refine XS.lload X15.here hx rfl (hb hby at_122) rfl ?_
      show Steps p.tables e below (T15.setTop (mkF m 124 #[.val (.int i0), .val (.long i1), .second, .val (.int i2), .val (.long i3), .second, .val (.int i4), .val (.long (i0.toInt64)), .second, .val (.long (((i0.toInt64) + (1 : Int64)) + (i1 &&& (4294967295 : Int64)))), .second, .val (.long (i2.toInt64)), .second, .val (.long (((i2.toInt64) + (1 : Int64)) + (i3 &&& (4294967295 : Int64)))), .second, .val (.ref b1), .val (.ref b9), .unset] [(.long (i2.toInt64)), (.long (i0.toInt64))])) _
      refine st17 _ ?_
      show Steps p.tables e below (T17.setTop (mkF m 127 #[.val (.int i0), .val (.long i1), .second, .val (.int i2), .val (.long i3), .second, .val (.int i4), .val (.long (i0.toInt64)), .second, .val (.long (((i0.toInt64) + (1 : Int64)) + (i1 &&& (4294967295 : Int64)))), .second, .val (.long (i2.toInt64)), .second, .val (.long (((i2.toInt64) + (1 : Int64)) + (i3 &&& (4294967295 : Int64)))), .second, .val (.ref b1), .val (.ref b9), .unset] [(.long (own_max (i0.toInt64) (i2.toInt64)))])) _
      refine XS.lload X17.here hx rfl (hb hby at_127) rfl ?_
      show Steps p.tables e below (T17.setTop (mkF m 129 #[.val (.int i0), .val (.long i1), .second, .val (.int i2), .val (.long i3), .second, .val (.int i4), .val (.long (i0.toInt64)), .second, .val (.long (((i0.toInt64) + (1 : Int64)) + (i1 &&& (4294967295 : Int64)))), .second, .val (.long (i2.toInt64)), .second, .val (.long (((i2.toInt64) + (1 : Int64)) + (i3 &&& (4294967295 : Int64)))), .second, .val (.ref b1), .val (.ref b9), .unset] [(.long (((i0.toInt64) + (1 : Int64)) + (i1 &&& (4294967295 : Int64)))), (.long (own_max (i0.toInt64) (i2.toInt64)))])) _
      refine XS.lload X17.here hx rfl (hb hby at_129) rfl ?_
      show Steps p.tables e below (T17.setTop (mkF m 131 #[.val (.int i0), .val (.long i1), .second, .val (.int i2), .val (.long i3), .second, .val (.int i4), .val (.long (i0.toInt64)), .second, .val (.long (((i0.toInt64) + (1 : Int64)) + (i1 &&& (4294967295 : Int64)))), .second, .val (.long (i2.toInt64)), .second, .val (.long (((i2.toInt64) + (1 : Int64)) + (i3 &&& (4294967295 : Int64)))), .second, .val (.ref b1), .val (.ref b9), .unset] [(.long (((i2.toInt64) + (1 : Int64)) + (i3 &&& (4294967295 : Int64)))), (.long (((i0.toInt64) + (1 : Int64)) + (i1 &&& (4294967295 : Int64)))), (.long (own_max (i0.toInt64) (i2.toInt64)))])) _
      refine st18 _ ?_
      show Steps p.tables e below (T18.setTop (mkF m 134 #[.val (.int i0), .val (.long i1), .second, .val (.int i2), .val (.long i3), .second, .val (.int i4), .val (.long (i0.toInt64)), .second, .val (.long (((i0.toInt64) + (1 : Int64)) + (i1 &&& (4294967295 : Int64)))), .second, .val (.long (i2.toInt64)), .second, .val (.long (((i2.toInt64) + (1 : Int64)) + (i3 &&& (4294967295 : Int64)))), .second, .val (.ref b1), .val (.ref b9), .unset] [(.long (own_min (((i0.toInt64) + (1 : Int64)) + (i1 &&& (4294967295 : Int64))) (((i2.toInt64) + (1 : Int64)) + (i3 &&& (4294967295 : Int64))))), (.long (own_max (i0.toInt64) (i2.toInt64)))])) _
      refine XS.lcmp X18.here hx rfl (hb hby at_134) rfl ?_
      show Steps p.tables e below (T18.setTop (mkF m 135 #[.val (.int i0), .val (.long i1), .second, .val (.int i2), .val (.long i3), .second, .val (.int i4), .val (.long (i0.toInt64)), .second, .val (.long (((i0.toInt64) + (1 : Int64)) + (i1 &&& (4294967295 : Int64)))), .second, .val (.long (i2.toInt64)), .second, .val (.long (((i2.toInt64) + (1 : Int64)) + (i3 &&& (4294967295 : Int64)))), .second, .val (.ref b1), .val (.ref b9), .unset] [(.int (lcmpW (own_max (i0.toInt64) (i2.toInt64)) (own_min (((i0.toInt64) + (1 : Int64)) + (i1 &&& (4294967295 : Int64))) (((i2.toInt64) + (1 : Int64)) + (i3 &&& (4294967295 : Int64))))))])) _
      refine XS.ifNo X18.here hx rfl (hb hby at_135) rfl ((if0 _ _).trans (tlt ((lw_lt _ _).mpr hc19)).2.1) ?_
      show Steps p.tables e below (T18.setTop (mkF m 138 #[.val (.int i0), .val (.long i1), .second, .val (.int i2), .val (.long i3), .second, .val (.int i4), .val (.long (i0.toInt64)), .second, .val (.long (((i0.toInt64) + (1 : Int64)) + (i1 &&& (4294967295 : Int64)))), .second, .val (.long (i2.toInt64)), .second, .val (.long (((i2.toInt64) + (1 : Int64)) + (i3 &&& (4294967295 : Int64)))), .second, .val (.ref b1), .val (.ref b9), .unset] [])) _
      refine XS.iconst X18.here hx rfl (hb hby at_138) ?_
      show Steps p.tables e below (T18.setTop (mkF m 139 #[.val (.int i0), .val (.long i1), .second, .val (.int i2), .val (.long i3), .second, .val (.int i4), .val (.long (i0.toInt64)), .second, .val (.long (((i0.toInt64) + (1 : Int64)) + (i1 &&& (4294967295 : Int64)))), .second, .val (.long (i2.toInt64)), .second, .val (.long (((i2.toInt64) + (1 : Int64)) + (i3 &&& (4294967295 : Int64)))), .second, .val (.ref b1), .val (.ref b9), .unset] [(.int (1 : Int32))])) _
      refine XS.goto X18.here hx rfl (pc0 := 139) (pc' := 143) rfl (hb hby at_139) (by decide) (by decide) ?_
      exact kt
    · refine ⟨(0 : Int32), Or.inr ⟨hc19, rfl⟩, fun t kt => pre13 t ?_⟩
      show Steps p.tables e below (T12.setTop (mkF m 112 #[.val (.int i0), .val (.long i1), .second, .val (.int i2), .val (.long i3), .second, .val (.int i4), .val (.long (i0.toInt64)), .second, .val (.long (((i0.toInt64) + (1 : Int64)) + (i1 &&& (4294967295 : Int64)))), .second, .val (.long (i2.toInt64)), .second, .val (.long (((i2.toInt64) + (1 : Int64)) + (i3 &&& (4294967295 : Int64)))), .second, .val (.ref b1), .unset, .unset] [(.int z13), (.long (((i2.toInt64) + (1 : Int64)) + (i3 &&& (4294967295 : Int64)))), (.double (own_d (i2.toInt64) z10)), (.ref b9), (.ref b9)])) _
      refine st14 _ ?_
      show Steps p.tables e below (T14.setTop (mkF m 115 #[.val (.int i0), .val (.long i1), .second, .val (.int i2), .val (.long i3), .second, .val (.int i4), .val (.long (i0.toInt64)), .second, .val (.long (((i0.toInt64) + (1 : Int64)) + (i1 &&& (4294967295 : Int64)))), .second, .val (.long (i2.toInt64)), .second, .val (.long (((i2.toInt64) + (1 : Int64)) + (i3 &&& (4294967295 : Int64)))), .second, .val (.ref b1), .unset, .unset] [(.double (own_d (((i2.toInt64) + (1 : Int64)) + (i3 &&& (4294967295 : Int64))) z13)), (.double (own_d (i2.toInt64) z10)), (.ref b9), (.ref b9)])) _
      refine st15.trans ?_
      show Steps p.tables e below (T15.setTop (mkF m 118 #[.val (.int i0), .val (.long i1), .second, .val (.int i2), .val (.long i3), .second, .val (.int i4), .val (.long (i0.toInt64)), .second, .val (.long (((i0.toInt64) + (1 : Int64)) + (i1 &&& (4294967295 : Int64)))), .second, .val (.long (i2.toInt64)), .second, .val (.long (((i2.toInt64) + (1 : Int64)) + (i3 &&& (4294967295 : Int64)))), .second, .val (.ref b1), .unset, .unset] [(.ref b9)])) _
      refine XS.astore X15.here hx rfl (hb hby at_118) rfl rfl (l' := #[.val (.int i0), .val (.long i1), .second, .val (.int i2), .val (.long i3), .second, .val (.int i4), .val (.long (i0.toInt64)), .second, .val (.long (((i0.toInt64) + (1 : Int64)) + (i1 &&& (4294967295 : Int64)))), .second, .val (.long (i2.toInt64)), .second, .val (.long (((i2.toInt64) + (1 : Int64)) + (i3 &&& (4294967295 : Int64)))), .second, .val (.ref b1), .val (.ref b9), .unset]) rfl ?_
      show Steps p.tables e below (T15.setTop (mkF m 120 #[.val (.int i0), .val (.long i1), .second, .val (.int i2), .val (.long i3), .second, .val (.int i4), .val (.long (i0.toInt64)), .second, .val (.long (((i0.toInt64) + (1 : Int64)) + (i1 &&& (4294967295 : Int64)))), .second, .val (.long (i2.toInt64)), .second, .val (.long (((i2.toInt64) + (1 : Int64)) + (i3 &&& (4294967295 : Int64)))), .second, .val (.ref b1), .val (.ref b9), .unset] [])) _
      refine XS.lload X15.here hx rfl (hb hby at_120) rfl ?_
      show Steps p.tables e below (T15.setTop (mkF m 122 #[.val (.int i0), .val (.long i1), .second, .val (.int i2), .val (.long i3), .second, .val (.int i4), .val (.long (i0.toInt64)), .second, .val (.long (((i0.toInt64) + (1 : Int64)) + (i1 &&& (4294967295 : Int64)))), .second, .val (.long (i2.toInt64)), .second, .val (.long (((i2.toInt64) + (1 : Int64)) + (i3 &&& (4294967295 : Int64)))), .second, .val (.ref b1), .val (.ref b9), .unset] [(.long (i0.toInt64))])) _
      refine XS.lload X15.here hx rfl (hb hby at_122) rfl ?_
      show Steps p.tables e below (T15.setTop (mkF m 124 #[.val (.int i0), .val (.long i1), .second, .val (.int i2), .val (.long i3), .second, .val (.int i4), .val (.long (i0.toInt64)), .second, .val (.long (((i0.toInt64) + (1 : Int64)) + (i1 &&& (4294967295 : Int64)))), .second, .val (.long (i2.toInt64)), .second, .val (.long (((i2.toInt64) + (1 : Int64)) + (i3 &&& (4294967295 : Int64)))), .second, .val (.ref b1), .val (.ref b9), .unset] [(.long (i2.toInt64)), (.long (i0.toInt64))])) _
      refine st17 _ ?_
      show Steps p.tables e below (T17.setTop (mkF m 127 #[.val (.int i0), .val (.long i1), .second, .val (.int i2), .val (.long i3), .second, .val (.int i4), .val (.long (i0.toInt64)), .second, .val (.long (((i0.toInt64) + (1 : Int64)) + (i1 &&& (4294967295 : Int64)))), .second, .val (.long (i2.toInt64)), .second, .val (.long (((i2.toInt64) + (1 : Int64)) + (i3 &&& (4294967295 : Int64)))), .second, .val (.ref b1), .val (.ref b9), .unset] [(.long (own_max (i0.toInt64) (i2.toInt64)))])) _
      refine XS.lload X17.here hx rfl (hb hby at_127) rfl ?_
      show Steps p.tables e below (T17.setTop (mkF m 129 #[.val (.int i0), .val (.long i1), .second, .val (.int i2), .val (.long i3), .second, .val (.int i4), .val (.long (i0.toInt64)), .second, .val (.long (((i0.toInt64) + (1 : Int64)) + (i1 &&& (4294967295 : Int64)))), .second, .val (.long (i2.toInt64)), .second, .val (.long (((i2.toInt64) + (1 : Int64)) + (i3 &&& (4294967295 : Int64)))), .second, .val (.ref b1), .val (.ref b9), .unset] [(.long (((i0.toInt64) + (1 : Int64)) + (i1 &&& (4294967295 : Int64)))), (.long (own_max (i0.toInt64) (i2.toInt64)))])) _
      refine XS.lload X17.here hx rfl (hb hby at_129) rfl ?_
      show Steps p.tables e below (T17.setTop (mkF m 131 #[.val (.int i0), .val (.long i1), .second, .val (.int i2), .val (.long i3), .second, .val (.int i4), .val (.long (i0.toInt64)), .second, .val (.long (((i0.toInt64) + (1 : Int64)) + (i1 &&& (4294967295 : Int64)))), .second, .val (.long (i2.toInt64)), .second, .val (.long (((i2.toInt64) + (1 : Int64)) + (i3 &&& (4294967295 : Int64)))), .second, .val (.ref b1), .val (.ref b9), .unset] [(.long (((i2.toInt64) + (1 : Int64)) + (i3 &&& (4294967295 : Int64)))), (.long (((i0.toInt64) + (1 : Int64)) + (i1 &&& (4294967295 : Int64)))), (.long (own_max (i0.toInt64) (i2.toInt64)))])) _
      refine st18 _ ?_
      show Steps p.tables e below (T18.setTop (mkF m 134 #[.val (.int i0), .val (.long i1), .second, .val (.int i2), .val (.long i3), .second, .val (.int i4), .val (.long (i0.toInt64)), .second, .val (.long (((i0.toInt64) + (1 : Int64)) + (i1 &&& (4294967295 : Int64)))), .second, .val (.long (i2.toInt64)), .second, .val (.long (((i2.toInt64) + (1 : Int64)) + (i3 &&& (4294967295 : Int64)))), .second, .val (.ref b1), .val (.ref b9), .unset] [(.long (own_min (((i0.toInt64) + (1 : Int64)) + (i1 &&& (4294967295 : Int64))) (((i2.toInt64) + (1 : Int64)) + (i3 &&& (4294967295 : Int64))))), (.long (own_max (i0.toInt64) (i2.toInt64)))])) _
      refine XS.lcmp X18.here hx rfl (hb hby at_134) rfl ?_
      show Steps p.tables e below (T18.setTop (mkF m 135 #[.val (.int i0), .val (.long i1), .second, .val (.int i2), .val (.long i3), .second, .val (.int i4), .val (.long (i0.toInt64)), .second, .val (.long (((i0.toInt64) + (1 : Int64)) + (i1 &&& (4294967295 : Int64)))), .second, .val (.long (i2.toInt64)), .second, .val (.long (((i2.toInt64) + (1 : Int64)) + (i3 &&& (4294967295 : Int64)))), .second, .val (.ref b1), .val (.ref b9), .unset] [(.int (lcmpW (own_max (i0.toInt64) (i2.toInt64)) (own_min (((i0.toInt64) + (1 : Int64)) + (i1 &&& (4294967295 : Int64))) (((i2.toInt64) + (1 : Int64)) + (i3 &&& (4294967295 : Int64))))))])) _
      refine XS.ifYes X18.here hx rfl (pc0 := 135) (pc' := 142) rfl (hb hby at_135) rfl ((if0 _ _).trans (flt (mt (lw_lt _ _).mp hc19)).2.1) (by decide) (by decide) ?_
      show Steps p.tables e below (T18.setTop (mkF m 142 #[.val (.int i0), .val (.long i1), .second, .val (.int i2), .val (.long i3), .second, .val (.int i4), .val (.long (i0.toInt64)), .second, .val (.long (((i0.toInt64) + (1 : Int64)) + (i1 &&& (4294967295 : Int64)))), .second, .val (.long (i2.toInt64)), .second, .val (.long (((i2.toInt64) + (1 : Int64)) + (i3 &&& (4294967295 : Int64)))), .second, .val (.ref b1), .val (.ref b9), .unset] [])) _
      refine XS.iconst X18.here hx rfl (hb hby at_142) ?_
      exact kt
  obtain ⟨z19, hz19, pre19⟩ := jn19
  have f20 := ((F7_start.ext E9).keep K15 (ninS ne9_b1 nin0))
  have f21 := ((F7_end.ext E9).keep K15 (ninS ne9_b1 nin0))
  have f23 := ((Ex7.ext E9).keep K15)
  obtain ⟨cq22, kq22, q22a, q22b, q22c⟩ := isOf hZ hh18 f23
  obtain ⟨_, _, ⟨T22, L22, k22, n22⟩, -, X22, ⟨Lc22, hQ22, l22, y22, z22⟩, st22⟩ := X18.virtualBack hx (y := (⟨"com/example/corral/corral/streams/KeyRange", "overlaps", "(Lcom/example/corral/corral/streams/KeyRange;)Z"⟩ : MethodName)) (z := (⟨"com/example/corral/corral/streams/KeyRange", "overlaps", "(Lcom/example/corral/corral/streams/KeyRange;)Z"⟩ : MethodName)) hown (mvT hZ (hw _ (List.mem_of_getElem? (i := 25) rfl))) (mvT hZ (hw _ (List.mem_of_getElem? (i := 26) rfl))) (notFace_of_selects (args := #[]) (mvT hZ (hw _ (List.mem_of_getElem? (i := 28) rfl)))) (mvT hZ (hw _ (List.mem_of_getElem? (i := 28) rfl))) (mvT hZ (hw _ (List.mem_of_getElem? (i := 27) rfl))) (by decide) (backOf (W := 0) (rmO l Z a0 hw [] b1 b9 (own_d (i0.toInt64) z2) (own_d (((i0.toInt64) + (1 : Int64)) + (i1 &&& (4294967295 : Int64))) z5) (own_d (i2.toInt64) z10) (own_d (((i2.toInt64) + (1 : Int64)) + (i3 &&& (4294967295 : Int64))) z13) (i0.toInt64) (((i0.toInt64) + (1 : Int64)) + (i1 &&& (4294967295 : Int64))) (i2.toInt64) (((i2.toInt64) + (1 : Int64)) + (i3 &&& (4294967295 : Int64))) T15.heap n0 O16 f20 f21 F15_start F15_end (own_cmp (own_ba i0) (own_bb i2 i3) _ _ _) (own_cmp (own_ba i2) (own_bb i0 i1) _ _ _)) hZ (hw _ (List.mem_of_getElem? (i := 29) rfl)) (hw _ (List.mem_of_getElem? (i := 3) rfl)) (by decide) (by decide)) q22a q22c (g := (mkF m 149 #[.val (.int i0), .val (.long i1), .second, .val (.int i2), .val (.long i3), .second, .val (.int i4), .val (.long (i0.toInt64)), .second, .val (.long (((i0.toInt64) + (1 : Int64)) + (i1 &&& (4294967295 : Int64)))), .second, .val (.long (i2.toInt64)), .second, .val (.long (((i2.toInt64) + (1 : Int64)) + (i3 &&& (4294967295 : Int64)))), .second, .val (.ref b1), .val (.ref b9), .val (.int z19)] [(.ref b9), (.ref b1)])) rfl (by rw [hml]; rfl) (Steps.refl _) (argsL := [(.ref b9)]) (rest := []) (lenOf pd_3 rfl) rfl (by show 2 * 0 + _ ≤ _; exact Nat.le_of_eq rfl) (hb hby at_149) (fun _ _ => ⟨rfl, hh18, (by decide : 2 + 0 ≤ _), (by decide : 4 + 0 ≤ _)⟩)
  dsimp only [Pt.U, Pt.locs, Pt.cells, Pt.slots] at X22 l22 y22 z22 st22 hQ22
  subst l22 y22 z22
  obtain ⟨rfl, N22q, hh22⟩ := hQ22
  have N22 := Fr.app N18 N22q
  obtain ⟨cq24, kq24, q24a, q24b, q24c⟩ := isOf hZ hh22 Ex15
  obtain ⟨_, _, ⟨T24, L24, k24, n24⟩, -, X24, ⟨Lc24, hQ24, l24, y24, z24⟩, st24⟩ := X22.virtualBack hx (y := (⟨"com/example/corral/corral/streams/KeyRange", "overlaps", "(Lcom/example/corral/corral/streams/KeyRange;)Z"⟩ : MethodName)) (z := (⟨"com/example/corral/corral/streams/KeyRange", "overlaps", "(Lcom/example/corral/corral/streams/KeyRange;)Z"⟩ : MethodName)) hown (mvT hZ (hw _ (List.mem_of_getElem? (i := 25) rfl))) (mvT hZ (hw _ (List.mem_of_getElem? (i := 26) rfl))) (notFace_of_selects (args := #[]) (mvT hZ (hw _ (List.mem_of_getElem? (i := 28) rfl)))) (mvT hZ (hw _ (List.mem_of_getElem? (i := 28) rfl))) (mvT hZ (hw _ (List.mem_of_getElem? (i := 27) rfl))) (by decide) (backOf (W := 0) (rmO l Z a0 hw [] b9 b1 (own_d (i2.toInt64) z10) (own_d (((i2.toInt64) + (1 : Int64)) + (i3 &&& (4294967295 : Int64))) z13) (own_d (i0.toInt64) z2) (own_d (((i0.toInt64) + (1 : Int64)) + (i1 &&& (4294967295 : Int64))) z5) (i2.toInt64) (((i2.toInt64) + (1 : Int64)) + (i3 &&& (4294967295 : Int64))) (i0.toInt64) (((i0.toInt64) + (1 : Int64)) + (i1 &&& (4294967295 : Int64))) T15.heap n0 O16 F15_start F15_end f20 f21 (own_cmp (own_ba i2) (own_bb i0 i1) _ _ _) (own_cmp (own_ba i0) (own_bb i2 i3) _ _ _)) hZ (hw _ (List.mem_of_getElem? (i := 29) rfl)) (hw _ (List.mem_of_getElem? (i := 3) rfl)) (by decide) (by decide)) q24a q24c (g := (mkF m 161 #[.val (.int i0), .val (.long i1), .second, .val (.int i2), .val (.long i3), .second, .val (.int i4), .val (.long (i0.toInt64)), .second, .val (.long (((i0.toInt64) + (1 : Int64)) + (i1 &&& (4294967295 : Int64)))), .second, .val (.long (i2.toInt64)), .second, .val (.long (((i2.toInt64) + (1 : Int64)) + (i3 &&& (4294967295 : Int64)))), .second, .val (.ref b1), .val (.ref b9), .val (.int z19)] [(.ref b1), (.ref b9)])) rfl (by rw [hml]; rfl) (Steps.refl _) (argsL := [(.ref b1)]) (rest := []) (lenOf pd_3 rfl) rfl (by show 2 * 0 + _ ≤ _; exact Nat.le_of_eq rfl) (hb hby at_161) (fun _ _ => ⟨rfl, hh22, (by decide : 2 + 0 ≤ _), (by decide : 4 + 0 ≤ _)⟩)
  dsimp only [Pt.U, Pt.locs, Pt.cells, Pt.slots] at X24 l24 y24 z24 st24 hQ24
  subst l24 y24 z24
  obtain ⟨rfl, N24q, hh24⟩ := hQ24
  have N24 := Fr.app N22 N24q
  obtain ⟨fs, hr, hrun, hended, hW, hsame⟩ := X24.leave (v := some (.int (1 : Int32))) (fun h => by rw [Bd.returns] at h; cases h)
  refine ⟨_, _, pre19 _ ?_, hrun, hended, _, _, rfl, ?_, ⟨_, rfl⟩, hW, hsame.mono (by decide) (by decide)⟩
  · skip
    show Steps p.tables e below (T18.setTop (mkF m 143 #[.val (.int i0), .val (.long i1), .second, .val (.int i2), .val (.long i3), .second, .val (.int i4), .val (.long (i0.toInt64)), .second, .val (.long (((i0.toInt64) + (1 : Int64)) + (i1 &&& (4294967295 : Int64)))), .second, .val (.long (i2.toInt64)), .second, .val (.long (((i2.toInt64) + (1 : Int64)) + (i3 &&& (4294967295 : Int64)))), .second, .val (.ref b1), .val (.ref b9), .unset] [(.int z19)])) _
    refine XS.istore X18.here hx rfl (hb hby at_143) rfl (l' := #[.val (.int i0), .val (.long i1), .second, .val (.int i2), .val (.long i3), .second, .val (.int i4), .val (.long (i0.toInt64)), .second, .val (.long (((i0.toInt64) + (1 : Int64)) + (i1 &&& (4294967295 : Int64)))), .second, .val (.long (i2.toInt64)), .second, .val (.long (((i2.toInt64) + (1 : Int64)) + (i3 &&& (4294967295 : Int64)))), .second, .val (.ref b1), .val (.ref b9), .val (.int z19)]) rfl ?_
    show Steps p.tables e below (T18.setTop (mkF m 145 #[.val (.int i0), .val (.long i1), .second, .val (.int i2), .val (.long i3), .second, .val (.int i4), .val (.long (i0.toInt64)), .second, .val (.long (((i0.toInt64) + (1 : Int64)) + (i1 &&& (4294967295 : Int64)))), .second, .val (.long (i2.toInt64)), .second, .val (.long (((i2.toInt64) + (1 : Int64)) + (i3 &&& (4294967295 : Int64)))), .second, .val (.ref b1), .val (.ref b9), .val (.int z19)] [])) _
    refine XS.aload X18.here hx rfl (hb hby at_145) rfl rfl ?_
    show Steps p.tables e below (T18.setTop (mkF m 147 #[.val (.int i0), .val (.long i1), .second, .val (.int i2), .val (.long i3), .second, .val (.int i4), .val (.long (i0.toInt64)), .second, .val (.long (((i0.toInt64) + (1 : Int64)) + (i1 &&& (4294967295 : Int64)))), .second, .val (.long (i2.toInt64)), .second, .val (.long (((i2.toInt64) + (1 : Int64)) + (i3 &&& (4294967295 : Int64)))), .second, .val (.ref b1), .val (.ref b9), .val (.int z19)] [(.ref b1)])) _
    refine XS.aload X18.here hx rfl (hb hby at_147) rfl rfl ?_
    show Steps p.tables e below (T18.setTop (mkF m 149 #[.val (.int i0), .val (.long i1), .second, .val (.int i2), .val (.long i3), .second, .val (.int i4), .val (.long (i0.toInt64)), .second, .val (.long (((i0.toInt64) + (1 : Int64)) + (i1 &&& (4294967295 : Int64)))), .second, .val (.long (i2.toInt64)), .second, .val (.long (((i2.toInt64) + (1 : Int64)) + (i3 &&& (4294967295 : Int64)))), .second, .val (.ref b1), .val (.ref b9), .val (.int z19)] [(.ref b9), (.ref b1)])) _
    refine st22.trans ?_
    show Steps p.tables e below (T22.setTop (mkF m 152 #[.val (.int i0), .val (.long i1), .second, .val (.int i2), .val (.long i3), .second, .val (.int i4), .val (.long (i0.toInt64)), .second, .val (.long (((i0.toInt64) + (1 : Int64)) + (i1 &&& (4294967295 : Int64)))), .second, .val (.long (i2.toInt64)), .second, .val (.long (((i2.toInt64) + (1 : Int64)) + (i3 &&& (4294967295 : Int64)))), .second, .val (.ref b1), .val (.ref b9), .val (.int z19)] [(.int (own_ov (i0.toInt64) (((i0.toInt64) + (1 : Int64)) + (i1 &&& (4294967295 : Int64))) (i2.toInt64) (((i2.toInt64) + (1 : Int64)) + (i3 &&& (4294967295 : Int64)))))])) _
    refine XS.iload X22.here hx rfl (hb hby at_152) rfl ?_
    show Steps p.tables e below (T22.setTop (mkF m 154 #[.val (.int i0), .val (.long i1), .second, .val (.int i2), .val (.long i3), .second, .val (.int i4), .val (.long (i0.toInt64)), .second, .val (.long (((i0.toInt64) + (1 : Int64)) + (i1 &&& (4294967295 : Int64)))), .second, .val (.long (i2.toInt64)), .second, .val (.long (((i2.toInt64) + (1 : Int64)) + (i3 &&& (4294967295 : Int64)))), .second, .val (.ref b1), .val (.ref b9), .val (.int z19)] [(.int z19), (.int (own_ov (i0.toInt64) (((i0.toInt64) + (1 : Int64)) + (i1 &&& (4294967295 : Int64))) (i2.toInt64) (((i2.toInt64) + (1 : Int64)) + (i3 &&& (4294967295 : Int64)))))])) _
    refine XS.icmpNo X22.here hx rfl (hb hby at_154) rfl (teq (own_law (own_lt i0 i1) (own_lt i2 i3) hz19).1).2 ?_
    show Steps p.tables e below (T22.setTop (mkF m 157 #[.val (.int i0), .val (.long i1), .second, .val (.int i2), .val (.long i3), .second, .val (.int i4), .val (.long (i0.toInt64)), .second, .val (.long (((i0.toInt64) + (1 : Int64)) + (i1 &&& (4294967295 : Int64)))), .second, .val (.long (i2.toInt64)), .second, .val (.long (((i2.toInt64) + (1 : Int64)) + (i3 &&& (4294967295 : Int64)))), .second, .val (.ref b1), .val (.ref b9), .val (.int z19)] [])) _
    refine XS.aload X22.here hx rfl (hb hby at_157) rfl rfl ?_
    show Steps p.tables e below (T22.setTop (mkF m 159 #[.val (.int i0), .val (.long i1), .second, .val (.int i2), .val (.long i3), .second, .val (.int i4), .val (.long (i0.toInt64)), .second, .val (.long (((i0.toInt64) + (1 : Int64)) + (i1 &&& (4294967295 : Int64)))), .second, .val (.long (i2.toInt64)), .second, .val (.long (((i2.toInt64) + (1 : Int64)) + (i3 &&& (4294967295 : Int64)))), .second, .val (.ref b1), .val (.ref b9), .val (.int z19)] [(.ref b9)])) _
    refine XS.aload X22.here hx rfl (hb hby at_159) rfl rfl ?_
    show Steps p.tables e below (T22.setTop (mkF m 161 #[.val (.int i0), .val (.long i1), .second, .val (.int i2), .val (.long i3), .second, .val (.int i4), .val (.long (i0.toInt64)), .second, .val (.long (((i0.toInt64) + (1 : Int64)) + (i1 &&& (4294967295 : Int64)))), .second, .val (.long (i2.toInt64)), .second, .val (.long (((i2.toInt64) + (1 : Int64)) + (i3 &&& (4294967295 : Int64)))), .second, .val (.ref b1), .val (.ref b9), .val (.int z19)] [(.ref b1), (.ref b9)])) _
    refine st24.trans ?_
    show Steps p.tables e below (T24.setTop (mkF m 164 #[.val (.int i0), .val (.long i1), .second, .val (.int i2), .val (.long i3), .second, .val (.int i4), .val (.long (i0.toInt64)), .second, .val (.long (((i0.toInt64) + (1 : Int64)) + (i1 &&& (4294967295 : Int64)))), .second, .val (.long (i2.toInt64)), .second, .val (.long (((i2.toInt64) + (1 : Int64)) + (i3 &&& (4294967295 : Int64)))), .second, .val (.ref b1), .val (.ref b9), .val (.int z19)] [(.int (own_ov (i2.toInt64) (((i2.toInt64) + (1 : Int64)) + (i3 &&& (4294967295 : Int64))) (i0.toInt64) (((i0.toInt64) + (1 : Int64)) + (i1 &&& (4294967295 : Int64)))))])) _
    refine XS.iload X24.here hx rfl (hb hby at_164) rfl ?_
    show Steps p.tables e below (T24.setTop (mkF m 166 #[.val (.int i0), .val (.long i1), .second, .val (.int i2), .val (.long i3), .second, .val (.int i4), .val (.long (i0.toInt64)), .second, .val (.long (((i0.toInt64) + (1 : Int64)) + (i1 &&& (4294967295 : Int64)))), .second, .val (.long (i2.toInt64)), .second, .val (.long (((i2.toInt64) + (1 : Int64)) + (i3 &&& (4294967295 : Int64)))), .second, .val (.ref b1), .val (.ref b9), .val (.int z19)] [(.int z19), (.int (own_ov (i2.toInt64) (((i2.toInt64) + (1 : Int64)) + (i3 &&& (4294967295 : Int64))) (i0.toInt64) (((i0.toInt64) + (1 : Int64)) + (i1 &&& (4294967295 : Int64)))))])) _
    refine XS.icmpNo X24.here hx rfl (hb hby at_166) rfl (teq (own_law (own_lt i0 i1) (own_lt i2 i3) hz19).2).2 ?_
    show Steps p.tables e below (T24.setTop (mkF m 169 #[.val (.int i0), .val (.long i1), .second, .val (.int i2), .val (.long i3), .second, .val (.int i4), .val (.long (i0.toInt64)), .second, .val (.long (((i0.toInt64) + (1 : Int64)) + (i1 &&& (4294967295 : Int64)))), .second, .val (.long (i2.toInt64)), .second, .val (.long (((i2.toInt64) + (1 : Int64)) + (i3 &&& (4294967295 : Int64)))), .second, .val (.ref b1), .val (.ref b9), .val (.int z19)] [])) _
    refine XS.iconst X24.here hx rfl (hb hby at_169) ?_
    show Steps p.tables e below (T24.setTop (mkF m 170 #[.val (.int i0), .val (.long i1), .second, .val (.int i2), .val (.long i3), .second, .val (.int i4), .val (.long (i0.toInt64)), .second, .val (.long (((i0.toInt64) + (1 : Int64)) + (i1 &&& (4294967295 : Int64)))), .second, .val (.long (i2.toInt64)), .second, .val (.long (((i2.toInt64) + (1 : Int64)) + (i3 &&& (4294967295 : Int64)))), .second, .val (.ref b1), .val (.ref b9), .val (.int z19)] [(.int (1 : Int32))])) _
    refine XS.goto X24.here hx rfl (pc0 := 170) (pc' := 174) rfl (hb hby at_170) (by decide) (by decide) ?_
    show Steps p.tables e below (T24.setTop (mkF m 174 #[.val (.int i0), .val (.long i1), .second, .val (.int i2), .val (.long i3), .second, .val (.int i4), .val (.long (i0.toInt64)), .second, .val (.long (((i0.toInt64) + (1 : Int64)) + (i1 &&& (4294967295 : Int64)))), .second, .val (.long (i2.toInt64)), .second, .val (.long (((i2.toInt64) + (1 : Int64)) + (i3 &&& (4294967295 : Int64)))), .second, .val (.ref b1), .val (.ref b9), .val (.int z19)] [(.int (1 : Int32))])) _
    exact retN X24 hx (t := .boolean) Bd.returns (by simp) (hb hby at_174) hr
  · show QL n0 _ T24.heap _
    rw [hh24]
    exact ⟨rfl, N24⟩
set_option maxRecDepth 65536 in
set_option maxHeartbeats 40000000 in
theorem comes_1 {Post : Tables → Env → Array Value → State → Outcome → State → Prop} (hpost : ∀ tb e args s v u, (limb_1_1.after args s (.returned v) u = true ∧ limb_1_2.after args s (.returned v) u = true ∧ True) → FrameEnd s (.returned v) u (Jvm.fieldLocs frame_1_writes args s ++ Jvm.arrayLocs frame_1_arrays args s ++ Jvm.staticLocs frame_1_statics s) 16 128 → Post tb e args s (.returned v) u) :
    ArmFor flags0 classFile x code maxLocals ret World_1 tables_1 room_1 Calls_1 rest_1 Pre_1 Post := by
  intro l hfl _ _ p e ha hc hk s m args below hf hA hF happ hP
  obtain ⟨hcalls, hrest, hpre⟩ := hP
  obtain ⟨-, -, -, hnamed, -, -, -, hat⟩ := (Spec.applies_iff hf).mp happ
  obtain ⟨hg, hn⟩ := and_e (Cond.before_iff.mp (show (Jvm.Cond.and given_1 narrow_1).before args s = true from hpre))
  obtain ⟨g0, r0⟩ := and_e hg
  obtain ⟨g1, r1⟩ := and_e r0
  obtain ⟨g2, r2⟩ := and_e r1
  obtain ⟨g3, r3⟩ := and_e r2
  obtain ⟨g4, r4⟩ := and_e r3
  obtain ⟨w0, w1, w2, w3, w4, rfl⟩ : ∃ w0 w1 w2 w3 w4 : Value, args = #[w0, w1, w2, w3, w4] := by
    have hs : args.size = 5 := by simpa [Cond.value, given_1] using g0
    obtain ⟨L⟩ := args
    match L, hs with
    | [w0, w1, w2, w3, w4], _ => exact ⟨w0, w1, w2, w3, w4, rfl⟩
  have hw := fun d (hd : d ∈ tables_1) => atoms_spec (ws := Jvm.Cond.code x code maxLocals ret :: tables_1) hat d (List.mem_cons_of_mem _ hd)
  have hfit : Fit s := fun {y c} hc i hi => by
    obtain ⟨ha, rfl⟩ := Array.getElem?_eq_some_iff.mp hc
    have q := List.all_eq_true.mp ((Array.all_eq_true_iff_forall_mem.mp hF) _ (Array.getElem_mem ha)) i (List.mem_range.mpr hi)
    simpa [Array.getElem?_eq_getElem hi] using q
  obtain ⟨i0, ei0⟩ := is_v g1
  obtain rfl : w0 = (.int i0) := Option.some.inj ei0
  obtain ⟨i1, ei1⟩ := isL_v g2
  obtain rfl : w1 = (.long i1) := Option.some.inj ei1
  obtain ⟨i2, ei2⟩ := is_v g3
  obtain rfl : w2 = (.int i2) := Option.some.inj ei2
  obtain ⟨i3, ei3⟩ := isL_v g4
  obtain rfl : w3 = (.long i3) := Option.some.inj ei3
  obtain ⟨i4, ei4⟩ := is_v r4
  obtain rfl : w4 = (.int i4) := Option.some.inj ei4
  obtain ⟨n, o, h1, h2, h3, _, L, rfl, ⟨rfl, N⟩, hq⟩ := rm0 l s _ hw tables_1 i0 i1 i2 i3 i4 s.heap s.heap.size (Old.start s) p e ha hc hk s m _ below hf ((Spec.applies_iff_loose hf).mp happ).1 ⟨rfl, State.Warmed39.refl s, rfl⟩ trivial
  refine ⟨n, _, h1, h2, h3, hpost _ _ _ _ _ _ ⟨Cond.after_iff.mpr rfl, Cond.after_iff.mpr (eq_i res_at (Term.int_eval (1)) rfl), trivial⟩ ⟨hq.1, hq.2.1, (hq.2.2.sift fun y hy => Or.inr (N y hy)).mono (by decide) (by decide)⟩⟩
theorem main_1_1 : Claimed_1_1 := comes_1 fun _ _ _ _ _ _ h hF => ⟨h.1, hF⟩
theorem main_1_2 : Claimed_1_2 := comes_1 fun _ _ _ _ _ _ h hF => ⟨h.2.1, hF⟩
end Jvm.Pilot.@@N@@
namespace Jvm.Pilot.@@N@@
open Jvm Jvm.ClassFile Sem Op Lib Jvm.Free Jvm.Stand Jvm.Pilot.@@N@@.Jvm.D
/-! MADE BY PROGRAM (witnessworld.py) out of the Statement's table words and the real class files: 10 classes; the members and pool entries that the words name. The judged class is class 1, her method 1. -/
namespace start1
open Jvm.ClassFile
def u (s : String) : CpInfo := .utf8 (stringToUtf16 s)
/-- a pool by its gaps: so many unusable entries, then the entry; so many at the end -/
def gap : Nat → List CpInfo → List CpInfo
  | 0, r => r
  | n + 1, r => .unusable :: gap n r
def poolList (es : List (Nat × CpInfo)) (last : Nat) : List CpInfo := es.foldr (fun e r => gap e.1 (e.2 :: r)) (gap last [])
def pool (es : List (Nat × CpInfo)) (last : Nat) : Array CpInfo := ⟨poolList es last⟩
def fileOf (pool : Array CpInfo) (this : Nat) (attrs : Array Attribute := #[]) (ms : Array MethodInfo := #[]) (fl : Nat := 33) (sup : Nat := 0) (ifs : Array Nat := #[]) (fds : Array FieldInfo := #[]) : ClassFile where
  minorVersion := 0
  majorVersion := 65
  constantPool := pool
  accessFlags := fl
  thisClass := this
  superClass := sup
  interfaces := ifs
  fields := fds
  methods := ms
  attributes := attrs
def plain (name : String) (sup : Option ClassId) : Class where
  name := name
  kind := .ordinary
  loader := none
  accessFlags := 33
  super := sup
  interfaces := #[]
  cf := none
  fields := #[]
  methods := #[]
  instanceTypes := #[]
  staticTypes := #[]
  resolved := #[]
  callSites := []
  init := .initialized
  statics := none
  mirror := none

def pool0 : Array CpInfo := pool [(5, u "<init>"), (0, u "()V"), (1, .class_ 10), (1, u "java/lang/Object")] 113

def k0c0 : Code := { maxStack := 0, maxLocals := 1, code := object_method_1_code, exceptionTable := #[], attributes := #[] }
def k0m0 : Method := { name := "<init>", desc := "()V", sig := { parameters := [], returnType := none }, accessFlags := 1, code := some k0c0 }
/-- java/lang/Object -/
def k0 : Class := { plain "java/lang/Object" none with
  accessFlags := 33
  interfaces := #[]
  cf := some (fileOf pool0 8 #[] #[{ accessFlags := 1, nameIndex := 5, descriptorIndex := 6, attributes := #[] }] 33 0 #[] #[])
  fields := #[]
  methods := #[k0m0]
  instanceTypes := #[]
  staticTypes := #[]
  resolved := Array.replicate 124 none
  statics := none }

def pool1 : Array CpInfo := pool [(2, .class_ 4), (1, u "java/lang/Object"), (0, u "<init>"), (0, u "()V"), (0, .long 4294967295), (1, .class_ 10), (0, u "com/example/corral/corral/streams/KeyRange"), (0, .methodref 12 13), (0, .class_ 14), (0, .nameAndType 15 16), (0, u "com/example/corral/corral/streams/KeyRangeOverlapsPinLaw"), (0, u "d"), (0, u "(JZ)D"), (0, .methodref 9 18), (0, .nameAndType 5 19), (0, u "(DD)V"), (0, .methodref 21 22), (0, .class_ 23), (0, .nameAndType 24 25), (0, u "java/lang/Math"), (0, u "max"), (0, u "(JJ)J"), (0, .methodref 21 27), (0, .nameAndType 28 25), (0, u "min"), (0, .methodref 9 30), (0, .nameAndType 31 32), (0, u "overlaps"), (0, u "(Lcom/example/corral/corral/streams/KeyRange;)Z"), (0, .double 9223372036854775808), (3, u "law"), (0, u "(IJIJI)Z")] 3

def k1m0 : Method := { name := "<init>", desc := "()V", sig := { parameters := [], returnType := none }, accessFlags := 1, code := none }
def k1c1 : Code := { maxStack := 8, maxLocals := 18, code := code, exceptionTable := #[], attributes := #[] }
def k1m1 : Method := { name := "law", desc := "(IJIJI)Z", sig := { parameters := [.int, .long, .int, .long, .int], returnType := some .boolean }, accessFlags := 9, code := some k1c1 }
def k1c2 : Code := { maxStack := 4, maxLocals := 3, code := method_3_code, exceptionTable := #[], attributes := #[] }
def k1m2 : Method := { name := "d", desc := "(JZ)D", sig := { parameters := [.long, .boolean], returnType := some .double }, accessFlags := 10, code := some k1c2 }
/-- com/example/corral/corral/streams/KeyRangeOverlapsPinLaw -/
def k1 : Class := { plain "com/example/corral/corral/streams/KeyRangeOverlapsPinLaw" (some 0) with
  accessFlags := 49
  interfaces := #[]
  cf := some (fileOf pool1 12 #[] #[{ accessFlags := 1, nameIndex := 5, descriptorIndex := 6, attributes := #[] }, { accessFlags := 9, nameIndex := 37, descriptorIndex := 38, attributes := #[] }, { accessFlags := 10, nameIndex := 15, descriptorIndex := 16, attributes := #[] }] 49 2 #[] #[])
  fields := #[]
  methods := #[k1m0, k1m1, k1m2]
  instanceTypes := #[]
  staticTypes := #[]
  resolved := Array.replicate 42 none
  statics := none }

def pool2 : Array CpInfo := pool [(1, .methodref 2 3), (0, .class_ 4), (0, .nameAndType 5 6), (0, u "java/lang/Object"), (0, u "<init>"), (0, u "()V"), (0, .fieldref 8 9), (0, .class_ 10), (0, .nameAndType 11 12), (0, u "com/example/corral/corral/streams/KeyRange"), (0, u "start"), (0, u "D"), (0, .fieldref 8 14), (0, .nameAndType 15 12), (0, u "end"), (14, u "(DD)V"), (3, u "overlaps"), (0, u "(Lcom/example/corral/corral/streams/KeyRange;)Z")] 23

def k2c0 : Code := { maxStack := 3, maxLocals := 5, code := prog_55_method_1_code, exceptionTable := #[], attributes := #[] }
def k2m0 : Method := { name := "<init>", desc := "(DD)V", sig := { parameters := [.double, .double], returnType := none }, accessFlags := 1, code := some k2c0 }
def k2c1 : Code := { maxStack := 4, maxLocals := 2, code := prog_55_method_4_code, exceptionTable := #[], attributes := #[] }
def k2m1 : Method := { name := "overlaps", desc := "(Lcom/example/corral/corral/streams/KeyRange;)Z", sig := { parameters := [(.object "com/example/corral/corral/streams/KeyRange")], returnType := some .boolean }, accessFlags := 0, code := some k2c1 }
/-- com/example/corral/corral/streams/KeyRange -/
def k2 : Class := { plain "com/example/corral/corral/streams/KeyRange" (some 0) with
  accessFlags := 49
  interfaces := #[]
  cf := some (fileOf pool2 8 #[] #[{ accessFlags := 1, nameIndex := 5, descriptorIndex := 30, attributes := #[] }, { accessFlags := 0, nameIndex := 34, descriptorIndex := 35, attributes := #[] }] 49 2 #[] #[{ accessFlags := 18, nameIndex := 11, descriptorIndex := 12, attributes := #[] }, { accessFlags := 18, nameIndex := 15, descriptorIndex := 12, attributes := #[] }])
  fields := #[{ name := "start", type := .double, accessFlags := 18, slot := 0, constantValue := 0 }, { name := "end", type := .double, accessFlags := 18, slot := 1, constantValue := 0 }]
  methods := #[k2m0, k2m1]
  instanceTypes := #[.double, .double]
  staticTypes := #[]
  resolved := Array.replicate 59 none
  statics := none }

def pool3 : Array CpInfo := pool [(1, .class_ 2), (0, u "java/lang/Math"), (1, .class_ 6), (1, u "java/lang/Object"), (0, u "<init>"), (0, u "()V"), (89, .class_ 100), (1, u "java/lang/Math$RandomNumberGeneratorHolder"), (20, u "(JJ)J"), (50, u "negativeZeroFloatBits"), (0, u "J"), (2, u "negativeZeroDoubleBits"), (21, u "max"), (2, u "min"), (43, u "$assertionsDisabled"), (0, u "Z"), (91, u "twoToTheDoubleScaleDown"), (0, u "D"), (4, u "twoToTheDoubleScaleUp"), (9, u "E"), (3, u "PI"), (2, u "TAU"), (2, u "DEGREES_TO_RADIANS"), (0, u "RADIANS_TO_DEGREES")] 94

def k3m0 : Method := { name := "<init>", desc := "()V", sig := { parameters := [], returnType := none }, accessFlags := 2, code := none }
def k3c1 : Code := { maxStack := 4, maxLocals := 4, code := jdk_29_method_66_code, exceptionTable := #[], attributes := #[] }
def k3m1 : Method := { name := "max", desc := "(JJ)J", sig := { parameters := [.long, .long], returnType := some .long }, accessFlags := 9, code := some k3c1 }
def k3c2 : Code := { maxStack := 4, maxLocals := 4, code := jdk_29_method_70_code, exceptionTable := #[], attributes := #[] }
def k3m2 : Method := { name := "min", desc := "(JJ)J", sig := { parameters := [.long, .long], returnType := some .long }, accessFlags := 9, code := some k3c2 }
/-- java/lang/Math -/
def k3 : Class := { plain "java/lang/Math" (some 0) with
  accessFlags := 49
  interfaces := #[]
  cf := some (fileOf pool3 1 #[.nestMembers #[98]] #[{ accessFlags := 2, nameIndex := 7, descriptorIndex := 8, attributes := #[] }, { accessFlags := 9, nameIndex := 198, descriptorIndex := 121, attributes := #[] }, { accessFlags := 9, nameIndex := 201, descriptorIndex := 121, attributes := #[] }] 49 4 #[] #[{ accessFlags := 25, nameIndex := 354, descriptorIndex := 339, attributes := #[] }, { accessFlags := 25, nameIndex := 358, descriptorIndex := 339, attributes := #[] }, { accessFlags := 25, nameIndex := 361, descriptorIndex := 339, attributes := #[] }, { accessFlags := 26, nameIndex := 364, descriptorIndex := 339, attributes := #[] }, { accessFlags := 26, nameIndex := 365, descriptorIndex := 339, attributes := #[] }, { accessFlags := 26, nameIndex := 172, descriptorIndex := 173, attributes := #[] }, { accessFlags := 26, nameIndex := 176, descriptorIndex := 173, attributes := #[] }, { accessFlags := 8, nameIndex := 344, descriptorIndex := 339, attributes := #[] }, { accessFlags := 8, nameIndex := 338, descriptorIndex := 339, attributes := #[] }, { accessFlags := 4120, nameIndex := 245, descriptorIndex := 246, attributes := #[] }])
  fields := #[{ name := "E", type := .double, accessFlags := 25, slot := 0, constantValue := 0 }, { name := "PI", type := .double, accessFlags := 25, slot := 1, constantValue := 0 }, { name := "TAU", type := .double, accessFlags := 25, slot := 2, constantValue := 0 }, { name := "DEGREES_TO_RADIANS", type := .double, accessFlags := 26, slot := 3, constantValue := 0 }, { name := "RADIANS_TO_DEGREES", type := .double, accessFlags := 26, slot := 4, constantValue := 0 }, { name := "negativeZeroFloatBits", type := .long, accessFlags := 26, slot := 5, constantValue := 0 }, { name := "negativeZeroDoubleBits", type := .long, accessFlags := 26, slot := 6, constantValue := 0 }, { name := "twoToTheDoubleScaleUp", type := .double, accessFlags := 8, slot := 7, constantValue := 0 }, { name := "twoToTheDoubleScaleDown", type := .double, accessFlags := 8, slot := 8, constantValue := 0 }, { name := "$assertionsDisabled", type := .boolean, accessFlags := 4120, slot := 9, constantValue := 0 }]
  methods := #[k3m0, k3m1, k3m2]
  instanceTypes := #[]
  staticTypes := #[.double, .double, .double, .double, .double, .long, .long, .double, .double, .boolean]
  resolved := Array.replicate 460 none
  statics := none }

def pool4 : Array CpInfo := pool [(1, u "java/lang/Cloneable"), (0, .class_ 1), (0, u "java/lang/Object"), (0, .class_ 3)] 3

/-- java/lang/Cloneable -/
def k4 : Class := { plain "java/lang/Cloneable" (some 0) with
  accessFlags := 1537
  interfaces := #[]
  cf := some (fileOf pool4 2 #[] #[] 1537 4 #[] #[])
  fields := #[]
  methods := #[]
  instanceTypes := #[]
  staticTypes := #[]
  resolved := Array.replicate 8 none
  statics := none }

def pool5 : Array CpInfo := pool [(1, u "java/io/Serializable"), (0, .class_ 1), (0, u "java/lang/Object"), (0, .class_ 3)] 3

/-- java/io/Serializable -/
def k5 : Class := { plain "java/io/Serializable" (some 0) with
  accessFlags := 1537
  interfaces := #[]
  cf := some (fileOf pool5 2 #[] #[] 1537 4 #[] #[])
  fields := #[]
  methods := #[]
  instanceTypes := #[]
  staticTypes := #[]
  resolved := Array.replicate 8 none
  statics := none }

/-- the primitive byte -/
def k6 : Class := { plain "byte" none with kind := .primitive 'B', accessFlags := 0x411 }
/-- [B -/
def k7 : Class := { plain "[B" (some 0) with kind := .array 6 .byte, interfaces := #[4, 5], accessFlags := 1041 }

/-- the primitive int -/
def k8 : Class := { plain "int" none with kind := .primitive 'I', accessFlags := 0x411 }
/-- [I -/
def k9 : Class := { plain "[I" (some 0) with kind := .array 8 .int, interfaces := #[4, 5], accessFlags := 1041 }

def heap : Heap := #[]
def classes : Array Class := #[k0, k1, k2, k3, k4, k5, k6, k7, k8, k9]
def interned : List (Array UInt16 × Addr) := []
def slotsUsed : Nat := 0
def theMethod : MethodId := ⟨1, 1⟩
def args0 : Array Value := #[.int 5, .long 6, .int 7, .long 8, .int 1]
def aboutOver (below : List Frame) : State where
  vm := { classes := classes, interned := interned.toArray }
  heap := heap
  slotsUsed := slotsUsed
  threads := #[{ frames := .invoking theMethod args0 :: below }]
def below0 : List Frame := [.native { method := ⟨0, 0⟩, args := #[] }]
def about1 : State := aboutOver below0
def p0 : Program := .bare "" "" ""
def e0 : Env := launch0.env 0 0 0
theorem w_frames : about1.frames = Frame.invoking theMethod args0 :: below0 := rfl
set_option maxRecDepth 65536 in
theorem w_args : argsFit about1.vm theMethod args0 = true := by decide +kernel
set_option maxRecDepth 65536 in
theorem w_heap : heapFits about1 = true := by decide +kernel
set_option maxRecDepth 65536 in
theorem w_runnable : about1.curStatus? = some .runnable := by decide +kernel
set_option maxRecDepth 65536 in
theorem w_alone : about1.alone = true := by decide +kernel
set_option maxRecDepth 65536 in
theorem w_named : about1.methodNamed? x = some theMethod := by decide +kernel
set_option maxRecDepth 65536 in
theorem w_hears : about1.hears theMethod below0 = true := by decide +kernel
set_option maxRecDepth 65536 in
theorem w_ripe : about1.ripe theMethod args0 below0 = true := by decide +kernel
theorem w_running : about1.status = .running := rfl
set_option maxRecDepth 65536 in
theorem w_room : about1.hasRoom e0.platform room_1 = true :=
  launch0.hasRoom_least _ room_1 (by decide +kernel) (by decide +kernel) (by decide +kernel) (by decide +kernel) (by decide +kernel) (by decide +kernel)
theorem allAtoms_all (ts : List Jvm.Cond) (a : Array Jvm.Value) (st : Jvm.State) : (allAtoms ts).before a st = ts.all (fun c => c.before a st) := by
  induction ts with
  | nil => rfl
  | cons c t ih =>
    show (Jvm.Cond.and c (allAtoms t)).before a st = _
    rw [Jvm.Cond.before_and, ih, List.all_cons]
def words1 : List Jvm.Cond := Jvm.Cond.code x code maxLocals ret :: tables_1
/-- a 'code' word, met by the world's own term for the bytes: nothing is compared byte by byte -/
theorem code_word {y : MethodName} {bytes : ByteArray} {mx : Nat} {rt : Option FieldType} {a : Array Value} {s : State} {m : MethodId} {meth : Method} {c : Code} (h1 : s.methodNamed? y = some m) (h2 : s.vm.method? m = some meth) (h3 : meth.code = some c) (h4 : c.code = bytes)
    (h5 : (c.maxLocals == mx && c.exceptionTable.isEmpty && decide (c.maxStack ≤ mostOperands) && decide (meth.sig.returnType = rt) && !meth.locks && decide (parseMethodDescriptor y.desc = some meth.sig)) = true) : (Jvm.Cond.code y bytes mx rt).before a s = true := by
  simp only [Bool.and_eq_true, beq_iff_eq, Bool.not_eq_true', decide_eq_true_eq] at h5
  obtain ⟨⟨⟨⟨⟨g1, g2⟩, g3⟩, g4⟩, g5⟩, g6⟩ := h5
  simp [Cond.before, Cond.holds, Cond.value, h1, h2, h3, h4, g1, g2, g3, g4, g5, g6]
def isCode : Jvm.Cond → Bool
  | .code _ _ _ _ => true
  | _ => false
theorem all_split {L : List Jvm.Cond} {P : Jvm.Cond → Bool} (h1 : L.all (fun c => isCode c || P c) = true) (h2 : ∀ c ∈ L.filter isCode, P c = true) : L.all P = true := by
  refine List.all_eq_true.mpr fun c hc => ?_
  have h := List.all_eq_true.mp h1 c hc
  rcases Bool.eq_false_or_eq_true (isCode c) with hi | hi
  · exact h2 c (List.mem_filter.mpr ⟨hc, hi⟩)
  · simpa [hi] using h
set_option maxRecDepth 65536 in
theorem w_c0 : (Jvm.Cond.code x code maxLocals ret).before args0 about1 = true := code_word (m := ⟨1, 1⟩) (meth := k1m1) (c := k1c1) (by decide +kernel) rfl rfl rfl (by decide +kernel)
set_option maxRecDepth 65536 in
theorem w_c1 : (Jvm.Cond.code ({ cls := "com/example/corral/corral/streams/KeyRangeOverlapsPinLaw", name := "d", desc := "(JZ)D" } : Jvm.MethodName) method_3_code (3 : Nat) (Option.some Jvm.ClassFile.FieldType.double)).before args0 about1 = true := code_word (m := ⟨1, 2⟩) (meth := k1m2) (c := k1c2) (by decide +kernel) rfl rfl rfl (by decide +kernel)
set_option maxRecDepth 65536 in
theorem w_c2 : (Jvm.Cond.code ({ cls := "com/example/corral/corral/streams/KeyRange", name := "<init>", desc := "(DD)V" } : Jvm.MethodName) prog_55_method_1_code (5 : Nat) (Option.none : Option Jvm.ClassFile.FieldType)).before args0 about1 = true := code_word (m := ⟨2, 0⟩) (meth := k2m0) (c := k2c0) (by decide +kernel) rfl rfl rfl (by decide +kernel)
set_option maxRecDepth 65536 in
theorem w_c3 : (Jvm.Cond.code ({ cls := "java/lang/Object", name := "<init>", desc := "()V" } : Jvm.MethodName) object_method_1_code (1 : Nat) (Option.none : Option Jvm.ClassFile.FieldType)).before args0 about1 = true := code_word (m := ⟨0, 0⟩) (meth := k0m0) (c := k0c0) (by decide +kernel) rfl rfl rfl (by decide +kernel)
set_option maxRecDepth 65536 in
theorem w_c4 : (Jvm.Cond.code ({ cls := "java/lang/Math", name := "max", desc := "(JJ)J" } : Jvm.MethodName) jdk_29_method_66_code (4 : Nat) (Option.some Jvm.ClassFile.FieldType.long)).before args0 about1 = true := code_word (m := ⟨3, 1⟩) (meth := k3m1) (c := k3c1) (by decide +kernel) rfl rfl rfl (by decide +kernel)
set_option maxRecDepth 65536 in
theorem w_c5 : (Jvm.Cond.code ({ cls := "java/lang/Math", name := "min", desc := "(JJ)J" } : Jvm.MethodName) jdk_29_method_70_code (4 : Nat) (Option.some Jvm.ClassFile.FieldType.long)).before args0 about1 = true := code_word (m := ⟨3, 2⟩) (meth := k3m2) (c := k3c2) (by decide +kernel) rfl rfl rfl (by decide +kernel)
set_option maxRecDepth 65536 in
theorem w_c6 : (Jvm.Cond.code ({ cls := "com/example/corral/corral/streams/KeyRange", name := "overlaps", desc := "(Lcom/example/corral/corral/streams/KeyRange;)Z" } : Jvm.MethodName) prog_55_method_4_code (2 : Nat) (Option.some Jvm.ClassFile.FieldType.boolean)).before args0 about1 = true := code_word (m := ⟨2, 1⟩) (meth := k2m1) (c := k2c1) (by decide +kernel) rfl rfl rfl (by decide +kernel)
def codes1 : List Jvm.Cond := [Jvm.Cond.code x code maxLocals ret, Jvm.Cond.code ({ cls := "com/example/corral/corral/streams/KeyRangeOverlapsPinLaw", name := "d", desc := "(JZ)D" } : Jvm.MethodName) method_3_code (3 : Nat) (Option.some Jvm.ClassFile.FieldType.double), Jvm.Cond.code ({ cls := "com/example/corral/corral/streams/KeyRange", name := "<init>", desc := "(DD)V" } : Jvm.MethodName) prog_55_method_1_code (5 : Nat) (Option.none : Option Jvm.ClassFile.FieldType), Jvm.Cond.code ({ cls := "java/lang/Object", name := "<init>", desc := "()V" } : Jvm.MethodName) object_method_1_code (1 : Nat) (Option.none : Option Jvm.ClassFile.FieldType), Jvm.Cond.code ({ cls := "java/lang/Math", name := "max", desc := "(JJ)J" } : Jvm.MethodName) jdk_29_method_66_code (4 : Nat) (Option.some Jvm.ClassFile.FieldType.long), Jvm.Cond.code ({ cls := "java/lang/Math", name := "min", desc := "(JJ)J" } : Jvm.MethodName) jdk_29_method_70_code (4 : Nat) (Option.some Jvm.ClassFile.FieldType.long), Jvm.Cond.code ({ cls := "com/example/corral/corral/streams/KeyRange", name := "overlaps", desc := "(Lcom/example/corral/corral/streams/KeyRange;)Z" } : Jvm.MethodName) prog_55_method_4_code (2 : Nat) (Option.some Jvm.ClassFile.FieldType.boolean)]
set_option maxRecDepth 65536 in
theorem codes_eq : words1.filter isCode = codes1 := rfl
theorem w_codes : ∀ c ∈ words1.filter isCode, c.before args0 about1 = true := by
  rw [codes_eq]
  intro c hc
  simp only [codes1, List.mem_cons, List.not_mem_nil, or_false] at hc
  rcases hc with rfl | rfl | rfl | rfl | rfl | rfl | rfl
  · exact w_c0
  · exact w_c1
  · exact w_c2
  · exact w_c3
  · exact w_c4
  · exact w_c5
  · exact w_c6
set_option maxRecDepth 65536 in
theorem w_t1 : (words1.take 24).all (fun c => isCode c || c.before args0 about1) = true := by decide +kernel
set_option maxRecDepth 65536 in
theorem w_t2 : (words1.drop 24).all (fun c => isCode c || c.before args0 about1) = true := by decide +kernel
theorem w_tables : (allAtoms (Jvm.Cond.code x code maxLocals ret :: tables_1)).before args0 about1 = true := by
  rw [allAtoms_all]
  show words1.all (fun c => c.before args0 about1) = true
  refine all_split ?_ w_codes
  rw [← List.take_append_drop 24 words1, List.all_append, w_t1, w_t2]
  rfl
set_option maxRecDepth 65536 in
theorem w_case : (Jvm.Cond.and given_1 narrow_1).before args0 about1 = true := by decide +kernel
theorem w_applies : (headSpec (Jvm.Cond.code x code maxLocals ret :: tables_1) room_1).applies x e0.platform about1 = true :=
  (Spec.applies_iff w_frames).mpr ⟨w_running, w_runnable, w_alone, w_named, w_hears, w_ripe, w_room, w_tables⟩
theorem atStart : AtStart classFile x code maxLocals ret World_1 tables_1 room_1 Calls_1 rest_1 Pre_1 launch0 p0 e0 about1 theMethod args0 below0 :=
  ⟨lists_1, trivial, launch0.admits_env _ _ _, launch0.least_env, fairChoices_fair.cas, fairChoices_fair.clock, w_frames, w_args, w_heap, w_applies, trivial, trivial, w_case⟩
end start1
theorem witness_1 : WitnessClaimed_1 := ⟨start1.p0, start1.e0, start1.about1, start1.theMethod, start1.args0, start1.below0, start1.atStart⟩
end Jvm.Pilot.@@N@@
