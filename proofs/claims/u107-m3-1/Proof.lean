import JvmDerived
import JvmDerived.Pilot.@@N@@Statement
import JvmDerived.Pilot.@@N@@Code
set_option linter.unusedVariables false
set_option linter.unusedSimpArgs false
namespace Jvm.RoadKit
open Sem ClassFile Op Lib Jvm.Stand Jvm.Free Jvm.LawKit
section New
variable {p : Program} {l : Launch} {e : Env} {R : Room} {s : State} {m : MethodId} {args : Array Value} {below : List Frame} {meth : Method} {c : Code} {T : State} {locs : List Loc} {cells slots : Nat}
theorem retI (X : Stand p l e R s m args below meth c T locs cells slots) (hx : p.tables.exec = Jvm.exec) {pc : Nat} {Ls : Array Slot} {z : Int32} {rest : List Value} (hret : meth.sig.returnType = some .int) (hd : decode c.code pc = .ok (.ireturn, 1)) {fs : List Frame}
    (hl : ∀ (f : JFrame) (acts : List Action), f.method = m → f.locked = none → f.entered = [] → (doReturn e (T.setTop f) acts (some (.int z))).1 = T.setFrames fs) : Steps p.tables e below (T.setTop (mkF m pc Ls (.int z :: rest))) (T.setFrames fs) := by
  have hm' : T.vm.method? m = some meth := X.method'
  have hn : narrow .int (.int z) = .int z := rfl
  show Steps p.tables e below (T.setTop { method := m, pc := pc, locals := Ls, stack := _ :: rest, locked := none }) _
  jvm_step X.here [X.here.top, hx, hd, hm', hret, hn]
  first | (intro acts; rw [hl _ acts rfl rfl rfl]) | rw [hl _ _ rfl rfl rfl]
  exact Steps.refl _
end New
end Jvm.RoadKit
namespace Jvm.Pilot.@@N@@
open Jvm Jvm.ClassFile Sem Op Lib Jvm.Free Jvm.Stand Jvm.LawKit Jvm.RoadKit Bundle Jvm.Pilot.@@N@@.Jvm.D
def QL (n0 : Nat) (v : Option Value) (h : Heap) (L : List Loc) : Prop := v = some (.int 1) ∧ Fr n0 L
def own_id (p : Int32) (q : Int64) : Int64 := ((p.toInt64) <<< ((32 : Int32) &&& 0x3f).toInt64) ||| q
theorem own_eb (e : Int32) : 0 ≤ (e &&& (2097151 : Int32)).toInt ∧ (e &&& (2097151 : Int32)).toInt < 2097152 := by
  have := c_mask e 2097151 21 (by decide) (by decide); omega
theorem own_nb (n : Int64) : 0 ≤ (n &&& (4294967295 : Int64)).toInt ∧ (n &&& (4294967295 : Int64)).toInt < 4294967296 := by
  have := c_maskL n 4294967295 32 (by decide) (by decide); omega
theorem own_h1 (e : Int32) : ¬ ((e &&& (2097151 : Int32)) < (0 : Int32)) := by
  have := own_eb e; rw [Int32.lt_iff_toInt_lt]; show ¬ (_ < (0 : Int)); omega
theorem own_h2 (e : Int32) : ¬ ((2097151 : Int32) < (e &&& (2097151 : Int32))) := by
  have := own_eb e; rw [Int32.lt_iff_toInt_lt]; show ¬ ((2097151 : Int) < _); omega
theorem own_h3 (n : Int64) : ¬ ((n &&& (4294967295 : Int64)) < (0 : Int64)) := by
  have := own_nb n; rw [Int64.lt_iff_toInt_lt]; show ¬ (_ < (0 : Int)); omega
theorem own_h4 (n : Int64) : ¬ ((4294967295 : Int64) < (n &&& (4294967295 : Int64))) := by
  have := own_nb n; rw [Int64.lt_iff_toInt_lt]; show ¬ ((4294967295 : Int) < _); omega
theorem own_val {p : Int32} {q : Int64} (hp : 0 ≤ p.toInt ∧ p.toInt < 2097152) (hq : 0 ≤ q.toInt ∧ q.toInt < 4294967296) : (own_id p q).toInt = p.toInt * 4294967296 + q.toInt := by
  have a1 := c_lshl p.toInt64 32 32 (by decide)
  have a2 := c_i2l p
  unfold own_id
  generalize (p.toInt64) <<< ((32 : Int32) &&& 0x3f).toInt64 = s at *
  have a3 := rng64 s
  have a4 : s.toInt = p.toInt * 4294967296 := by rw [a2] at a1; omega
  have a5 := c_orL s q 32 (by decide) 4294967296 rfl (by omega) hq.1 hq.2
  have a6 := rng64 (s ||| q)
  omega
theorem own_eq (e : Int32) (n : Int64) : own_id (e &&& (2097151 : Int32)) (n &&& (4294967295 : Int64)) = ((((e &&& (2097151 : Int32)).toInt64) * (4294967296 : Int64)) + (n &&& (4294967295 : Int64))) := by
  have h1 := own_eb e; have h2 := own_nb n; have h3 := own_val h1 h2
  generalize (e &&& (2097151 : Int32)) = p at *
  generalize (n &&& (4294967295 : Int64)) = q at *
  have b1 := c_i2l p
  have b2 := c_lmul p.toInt64 4294967296
  have b3 := c_ladd (p.toInt64 * 4294967296) q
  have b4 := rng64 (p.toInt64 * 4294967296); have b5 := rng64 (p.toInt64 * 4294967296 + q)
  have b6 : (4294967296 : Int64).toInt = 4294967296 := by decide
  rw [b1, b6] at b2
  apply Int64.toInt_inj.mp
  rw [h3]; omega
theorem own_ge (e : Int32) (n : Int64) : ¬ (own_id (e &&& (2097151 : Int32)) (n &&& (4294967295 : Int64)) < (0 : Int64)) := by
  have h1 := own_eb e; have h2 := own_nb n; have h3 := own_val h1 h2
  rw [Int64.lt_iff_toInt_lt, h3]; show ¬ (_ < (0 : Int)); omega
theorem own_le (e : Int32) (n : Int64) : ¬ ((9007199254740991 : Int64) < own_id (e &&& (2097151 : Int32)) (n &&& (4294967295 : Int64))) := by
  have h1 := own_eb e; have h2 := own_nb n; have h3 := own_val h1 h2
  rw [Int64.lt_iff_toInt_lt, h3]; show ¬ ((9007199254740991 : Int) < _); omega
def Q1 (p : Int32) (q : Int64) (h0 : Heap) (n0 : Nat) (v : Option Value) (h : Heap) (L : List Loc) : Prop := v = some (.long (own_id p q)) ∧ Fr n0 L ∧ h = h0
theorem pn_0 : plainName "com/example/corral/corral/streams/SegmentId" = true := by first | (simp [plainName, overriddenIn]; done) | decide +kernel
theorem ef_0 (m : MethodId) (x0 : Int32) (x1 : Int64) : entryFrame m #[(.int x0), (.long x1)] 3 = mkF m 0 #[.val (.int x0), .val (.long x1), .second] [] := by first | (simp [entryFrame, mkF, argsToLocals, Value.category]; done) | rfl
theorem dc0_0 : decode prog_65_method_2_code 0 = .ok (.iload_n 0, 1) := by decide +kernel
theorem dc0_1 : decode prog_65_method_2_code 1 = .ok (.ifCond .lt 9, 3) := by decide +kernel
theorem dc0_4 : decode prog_65_method_2_code 4 = .ok (.iload_n 0, 1) := by decide +kernel
theorem dc0_5 : decode prog_65_method_2_code 5 = .ok (.ldc 9, 2) := by decide +kernel
theorem dc0_7 : decode prog_65_method_2_code 7 = .ok (.if_icmp .le 17, 3) := by decide +kernel
theorem dc0_24 : decode prog_65_method_2_code 24 = .ok (.lload_n 1, 1) := by decide +kernel
theorem dc0_25 : decode prog_65_method_2_code 25 = .ok (.lconst 0, 1) := by decide +kernel
theorem dc0_26 : decode prog_65_method_2_code 26 = .ok (.lcmp, 1) := by decide +kernel
theorem dc0_27 : decode prog_65_method_2_code 27 = .ok (.ifCond .lt 11, 3) := by decide +kernel
theorem dc0_30 : decode prog_65_method_2_code 30 = .ok (.lload_n 1, 1) := by decide +kernel
theorem dc0_31 : decode prog_65_method_2_code 31 = .ok (.ldc2_w 19, 3) := by decide +kernel
theorem dc0_34 : decode prog_65_method_2_code 34 = .ok (.lcmp, 1) := by decide +kernel
theorem dc0_35 : decode prog_65_method_2_code 35 = .ok (.ifCond .le 17, 3) := by decide +kernel
theorem dc0_52 : decode prog_65_method_2_code 52 = .ok (.iload_n 0, 1) := by decide +kernel
theorem dc0_53 : decode prog_65_method_2_code 53 = .ok (.i2l, 1) := by decide +kernel
theorem dc0_54 : decode prog_65_method_2_code 54 = .ok (.bipush 32, 2) := by decide +kernel
theorem dc0_56 : decode prog_65_method_2_code 56 = .ok (.lshl, 1) := by decide +kernel
theorem dc0_57 : decode prog_65_method_2_code 57 = .ok (.lload_n 1, 1) := by decide +kernel
theorem dc0_58 : decode prog_65_method_2_code 58 = .ok (.lor, 1) := by decide +kernel
theorem dc0_59 : decode prog_65_method_2_code 59 = .ok (.lreturn, 1) := by decide +kernel
set_option maxRecDepth 65536 in
set_option maxHeartbeats 40000000 in
theorem rm1 (l : Launch) (Z : State) (a0 : Array Value) (hw : ∀ d ∈ tables_1, d.before a0 Z = true) (ws : List Jvm.Cond) (p1 : Int32) (q1 : Int64) (h0 : Heap) (n0 : Nat) (O0 : Old Z n0 h0) (hA : ¬ (p1 < (0 : Int32))) (hB : ¬ ((2097151 : Int32) < p1)) (hC : ¬ (q1 < (0 : Int64))) (hD : ¬ ((4294967295 : Int64) < q1)) :
    MetFree l (⟨"com/example/corral/corral/streams/SegmentId", "of", "(IJ)J"⟩ : MethodName) (head1 (Jvm.Cond.code (⟨"com/example/corral/corral/streams/SegmentId", "of", "(IJ)J"⟩ : MethodName) prog_65_method_2_code 3 (some .long) :: ws) ({ frames := 0, cells := 0, slots := 0, locals := 0 } : Room)) (fun a U => a = #[(.int p1), (.long q1)] ∧ Z.Warmed39 U.vm ∧ U.heap = h0) (fun _ _ _ _ _ => True) (fun _ U o U' => ∃ v L, o = .returned v ∧ Q1 p1 q1 h0 n0 v U'.heap L ∧ FrameEnd U o U' L ({ frames := 0, cells := 0, slots := 0, locals := 0 } : Room).cells ({ frames := 0, cells := 0, slots := 0, locals := 0 } : Room).slots) := by
  refine MetFree.of_bodySF (plainFor_of_name pn_0) hisR ?_
  intro p e s m args below meth c s₁ Bd hml0 hP hK
  obtain ⟨rfl, hZ, hh⟩ := hP
  have hx := Bd.exec
  have hby := Bd.bytes
  have hml : c.maxLocals = 3 := hml0
  have hown : s.vm.findClass "com/example/corral/corral/streams/SegmentId" = some m.cls := findClass_of_methodNamed Bd.named
  have hnm := (name_of_methodNamed Bd.named Bd.method).1
  have X0 : Stand p l e ({ frames := 0, cells := 0, slots := 0, locals := 0 } : Room) s m #[(.int p1), (.long q1)] below meth c s₁ [] 0 0 := Stand.of_body Bd
  have e0 : s₁.heap = h0 := by rw [← hh, Bd.state]; rfl
  have N0 := Fr.nil n0
  have pre0 : ∀ t, Steps p.tables e below (s₁.setTop (mkF m 0 #[.val (.int p1), .val (.long q1), .second] [])) t → Steps p.tables e below (s₁.setTop (entryFrame m #[(.int p1), (.long q1)] 3)) t := fun t k => castTop (ef_0 m p1 q1) k
  obtain ⟨fs, hr, hrun, hended, hW, hsame⟩ := X0.leave (v := some (.long (((p1.toInt64) <<< ((32 : Int32) &&& 0x3f).toInt64) ||| q1))) (fun h => by rw [Bd.returns] at h; cases h)
  refine ⟨_, _, pre0 _ ?_, hrun, hended, _, _, rfl, ?_, ⟨_, rfl⟩, hW, hsame.mono (by decide) (by decide)⟩
  · skip
    show Steps p.tables e below (s₁.setTop (mkF m 0 #[.val (.int p1), .val (.long q1), .second] [])) _
    refine XS.iloadN X0.here hx rfl (hb hby dc0_0) rfl ?_
    show Steps p.tables e below (s₁.setTop (mkF m 1 #[.val (.int p1), .val (.long q1), .second] [(.int p1)])) _
    refine XS.ifNo X0.here hx rfl (hb hby dc0_1) rfl ((if0 _ _).trans (flt hA).1) ?_
    show Steps p.tables e below (s₁.setTop (mkF m 4 #[.val (.int p1), .val (.long q1), .second] [])) _
    refine XS.iloadN X0.here hx rfl (hb hby dc0_4) rfl ?_
    show Steps p.tables e below (s₁.setTop (mkF m 5 #[.val (.int p1), .val (.long q1), .second] [(.int p1)])) _
    refine X0.ldcInt hx hown (mvT hZ (hw _ (List.mem_of_getElem? (i := 6) rfl))) (g := (mkF m 5 #[.val (.int p1), .val (.long q1), .second] [(.int p1)])) rfl (hb hby dc0_5) _ ?_
    show Steps p.tables e below (s₁.setTop (mkF m 7 #[.val (.int p1), .val (.long q1), .second] [(.int (2097151 : Int32)), (.int p1)])) _
    refine XS.icmpYes X0.here hx rfl (pc0 := 7) (pc' := 24) rfl (hb hby dc0_7) rfl (flt hB).2.2.2 (by decide) (by decide) ?_
    show Steps p.tables e below (s₁.setTop (mkF m 24 #[.val (.int p1), .val (.long q1), .second] [])) _
    refine XS.lloadN X0.here hx rfl (hb hby dc0_24) rfl ?_
    show Steps p.tables e below (s₁.setTop (mkF m 25 #[.val (.int p1), .val (.long q1), .second] [(.long q1)])) _
    refine XS.lconst X0.here hx rfl (hb hby dc0_25) ?_
    show Steps p.tables e below (s₁.setTop (mkF m 26 #[.val (.int p1), .val (.long q1), .second] [(.long (0 : Int64)), (.long q1)])) _
    refine XS.lcmp X0.here hx rfl (hb hby dc0_26) rfl ?_
    show Steps p.tables e below (s₁.setTop (mkF m 27 #[.val (.int p1), .val (.long q1), .second] [(.int (lcmpW q1 (0 : Int64)))])) _
    refine XS.ifNo X0.here hx rfl (hb hby dc0_27) rfl ((if0 _ _).trans (flt (mt (lw_lt _ _).mp hC)).1) ?_
    show Steps p.tables e below (s₁.setTop (mkF m 30 #[.val (.int p1), .val (.long q1), .second] [])) _
    refine XS.lloadN X0.here hx rfl (hb hby dc0_30) rfl ?_
    show Steps p.tables e below (s₁.setTop (mkF m 31 #[.val (.int p1), .val (.long q1), .second] [(.long q1)])) _
    refine X0.ldc2Long hx hown (mvT hZ (hw _ (List.mem_of_getElem? (i := 7) rfl))) (g := (mkF m 31 #[.val (.int p1), .val (.long q1), .second] [(.long q1)])) rfl (hb hby dc0_31) _ ?_
    show Steps p.tables e below (s₁.setTop (mkF m 34 #[.val (.int p1), .val (.long q1), .second] [(.long (4294967295 : Int64)), (.long q1)])) _
    refine XS.lcmp X0.here hx rfl (hb hby dc0_34) rfl ?_
    show Steps p.tables e below (s₁.setTop (mkF m 35 #[.val (.int p1), .val (.long q1), .second] [(.int (lcmpW q1 (4294967295 : Int64)))])) _
    refine XS.ifYes X0.here hx rfl (pc0 := 35) (pc' := 52) rfl (hb hby dc0_35) rfl ((if0 _ _).trans (flt (mt (lw_gt _ _).mp hD)).2.2.2) (by decide) (by decide) ?_
    show Steps p.tables e below (s₁.setTop (mkF m 52 #[.val (.int p1), .val (.long q1), .second] [])) _
    refine XS.iloadN X0.here hx rfl (hb hby dc0_52) rfl ?_
    show Steps p.tables e below (s₁.setTop (mkF m 53 #[.val (.int p1), .val (.long q1), .second] [(.int p1)])) _
    refine XS.i2l X0.here hx rfl (hb hby dc0_53) rfl ?_
    show Steps p.tables e below (s₁.setTop (mkF m 54 #[.val (.int p1), .val (.long q1), .second] [(.long (p1.toInt64))])) _
    refine XS.bipush X0.here hx rfl (hb hby dc0_54) ?_
    show Steps p.tables e below (s₁.setTop (mkF m 56 #[.val (.int p1), .val (.long q1), .second] [(.int (32 : Int32)), (.long (p1.toInt64))])) _
    refine XS.lshl X0.here hx rfl (hb hby dc0_56) rfl ?_
    show Steps p.tables e below (s₁.setTop (mkF m 57 #[.val (.int p1), .val (.long q1), .second] [(.long ((p1.toInt64) <<< ((32 : Int32) &&& 0x3f).toInt64))])) _
    refine XS.lloadN X0.here hx rfl (hb hby dc0_57) rfl ?_
    show Steps p.tables e below (s₁.setTop (mkF m 58 #[.val (.int p1), .val (.long q1), .second] [(.long q1), (.long ((p1.toInt64) <<< ((32 : Int32) &&& 0x3f).toInt64))])) _
    refine XS.lor X0.here hx rfl (hb hby dc0_58) rfl ?_
    show Steps p.tables e below (s₁.setTop (mkF m 59 #[.val (.int p1), .val (.long q1), .second] [(.long (((p1.toInt64) <<< ((32 : Int32) &&& 0x3f).toInt64) ||| q1))])) _
    exact retOut X0 hx (t := .long) Bd.returns rfl (Or.inr (Or.inl ⟨rfl, rfl, _, rfl⟩)) (hb hby dc0_59) hr
  · show Q1 p1 q1 h0 n0 _ s₁.heap _
    rw [e0]
    exact ⟨rfl, N0, rfl⟩
theorem pn_1 : plainName "com/example/corral/corral/streams/SegmentIdOfPinLaw" = true := by first | (simp [plainName, overriddenIn]; done) | decide +kernel
theorem ef_1 (m : MethodId) (x0 : Int32) (x1 : Int64) : entryFrame m #[(.int x0), (.long x1)] maxLocals = mkF m 0 #[.val (.int x0), .val (.long x1), .second, .unset, .unset, .unset, .unset, .unset, .unset, .unset] [] := by first | (simp [entryFrame, mkF, argsToLocals, Value.category, maxLocals]; done) | rfl
theorem pd_0 : parseMethodDescriptor "(IJ)J" = some ⟨[.int, .long], some .long⟩ := by decide +kernel
set_option maxRecDepth 65536 in
set_option maxHeartbeats 40000000 in
theorem rm0 (l : Launch) (Z : State) (a0 : Array Value) (hw : ∀ d ∈ tables_1, d.before a0 Z = true) (ws : List Jvm.Cond) (i0 : Int32) (i1 : Int64) (h0 : Heap) (n0 : Nat) (O0 : Old Z n0 h0) :
    MetFree l x (head1 (Jvm.Cond.code x code maxLocals ret :: ws) room_1) (fun a U => a = #[(.int i0), (.long i1)] ∧ Z.Warmed39 U.vm ∧ U.heap = h0) (fun _ _ _ _ _ => True) (fun _ U o U' => ∃ v L, o = .returned v ∧ QL n0 v U'.heap L ∧ FrameEnd U o U' L room_1.cells room_1.slots) := by
  refine MetFree.of_bodySF (plainFor_of_name pn_1) hisR ?_
  intro p e s m args below meth c s₁ Bd hml0 hP hK
  obtain ⟨rfl, hZ, hh⟩ := hP
  have hx := Bd.exec
  have hby := Bd.bytes
  have hml : c.maxLocals = 10 := hml0
  have hown : s.vm.findClass "com/example/corral/corral/streams/SegmentIdOfPinLaw" = some m.cls := findClass_of_methodNamed Bd.named
  have hnm := (name_of_methodNamed Bd.named Bd.method).1
  have X0 : Stand p l e room_1 s m #[(.int i0), (.long i1)] below meth c s₁ [] 0 0 := Stand.of_body Bd
  have e0 : s₁.heap = h0 := by rw [← hh, Bd.state]; rfl
  have N0 := Fr.nil n0
  have pre0 : ∀ t, Steps p.tables e below (s₁.setTop (mkF m 0 #[.val (.int i0), .val (.long i1), .second, .unset, .unset, .unset, .unset, .unset, .unset, .unset] [])) t → Steps p.tables e below (s₁.setTop (entryFrame m #[(.int i0), (.long i1)] maxLocals)) t := fun t k => castTop (ef_1 m i0 i1) k
  obtain ⟨_, _, ⟨T1, L1, k1, n1⟩, -, X1, ⟨Lc1, hQ1, l1, y1, z1⟩, st1⟩ := Jvm.LawKit.callS X0 hx (y := (⟨"com/example/corral/corral/streams/SegmentId", "of", "(IJ)J"⟩ : MethodName)) hown (mvT hZ (hw _ (List.mem_of_getElem? (i := 2) rfl))) (mvT hZ (hw _ (List.mem_of_getElem? (i := 3) rfl))) (mvT hZ (hw _ (List.mem_of_getElem? (i := 4) rfl))) (mvT hZ (hw _ (List.mem_of_getElem? (i := 5) rfl))) (by decide) (backOf (W := 0) (rm1 l Z a0 hw [] (i0 &&& (2097151 : Int32)) (i1 &&& (4294967295 : Int64)) h0 n0 O0 (own_h1 i0) (own_h2 i0) (own_h3 i1) (own_h4 i1)) hZ (hw _ (List.mem_of_getElem? (i := 5) rfl)) (hw _ (List.mem_of_getElem? (i := 4) rfl)) (by decide) (by decide)) (g := (mkF m 15 #[.val (.int i0), .val (.long i1), .second, .val (.int (i0 &&& (2097151 : Int32))), .val (.long (i1 &&& (4294967295 : Int64))), .second, .unset, .unset, .unset, .unset] [(.long (i1 &&& (4294967295 : Int64))), (.int (i0 &&& (2097151 : Int32)))])) rfl (by rw [hml]; rfl) (argsL := [(.int (i0 &&& (2097151 : Int32))), (.long (i1 &&& (4294967295 : Int64)))]) (rest := []) (lenOf pd_0 rfl) rfl (by show 2 * 0 + _ ≤ _; exact Nat.le_of_eq rfl) (hb hby at_15) (fun _ _ => ⟨rfl, e0, (by decide : 0 + 0 ≤ _), (by decide : 0 + 0 ≤ _)⟩)
  dsimp only [Pt.U, Pt.locs, Pt.cells, Pt.slots] at X1 l1 y1 z1 st1 hQ1
  subst l1 y1 z1
  obtain ⟨rfl, N1q, hh1⟩ := hQ1
  have N1 := Fr.app N0 N1q
  obtain ⟨fs, hr, hrun, hended, hW, hsame⟩ := X1.leave (v := some (.int (1 : Int32))) (fun h => by rw [Bd.returns] at h; cases h)
  refine ⟨_, _, pre0 _ ?_, hrun, hended, _, _, rfl, ?_, ⟨_, rfl⟩, hW, hsame.mono (by decide) (by decide)⟩
  · skip
    show Steps p.tables e below (s₁.setTop (mkF m 0 #[.val (.int i0), .val (.long i1), .second, .unset, .unset, .unset, .unset, .unset, .unset, .unset] [])) _
    refine XS.iloadN X0.here hx rfl (hb hby at_0) rfl ?_
    show Steps p.tables e below (s₁.setTop (mkF m 1 #[.val (.int i0), .val (.long i1), .second, .unset, .unset, .unset, .unset, .unset, .unset, .unset] [(.int i0)])) _
    refine X0.ldcInt hx hown (mvT hZ (hw _ (List.mem_of_getElem? (i := 0) rfl))) (g := (mkF m 1 #[.val (.int i0), .val (.long i1), .second, .unset, .unset, .unset, .unset, .unset, .unset, .unset] [(.int i0)])) rfl (hb hby at_1) _ ?_
    show Steps p.tables e below (s₁.setTop (mkF m 3 #[.val (.int i0), .val (.long i1), .second, .unset, .unset, .unset, .unset, .unset, .unset, .unset] [(.int (2097151 : Int32)), (.int i0)])) _
    refine XS.iand X0.here hx rfl (hb hby at_3) rfl ?_
    show Steps p.tables e below (s₁.setTop (mkF m 4 #[.val (.int i0), .val (.long i1), .second, .unset, .unset, .unset, .unset, .unset, .unset, .unset] [(.int (i0 &&& (2097151 : Int32)))])) _
    refine XS.istoreN X0.here hx rfl (hb hby at_4) rfl (l' := #[.val (.int i0), .val (.long i1), .second, .val (.int (i0 &&& (2097151 : Int32))), .unset, .unset, .unset, .unset, .unset, .unset]) rfl ?_
    show Steps p.tables e below (s₁.setTop (mkF m 5 #[.val (.int i0), .val (.long i1), .second, .val (.int (i0 &&& (2097151 : Int32))), .unset, .unset, .unset, .unset, .unset, .unset] [])) _
    refine XS.lloadN X0.here hx rfl (hb hby at_5) rfl ?_
    show Steps p.tables e below (s₁.setTop (mkF m 6 #[.val (.int i0), .val (.long i1), .second, .val (.int (i0 &&& (2097151 : Int32))), .unset, .unset, .unset, .unset, .unset, .unset] [(.long i1)])) _
    refine X0.ldc2Long hx hown (mvT hZ (hw _ (List.mem_of_getElem? (i := 1) rfl))) (g := (mkF m 6 #[.val (.int i0), .val (.long i1), .second, .val (.int (i0 &&& (2097151 : Int32))), .unset, .unset, .unset, .unset, .unset, .unset] [(.long i1)])) rfl (hb hby at_6) _ ?_
    show Steps p.tables e below (s₁.setTop (mkF m 9 #[.val (.int i0), .val (.long i1), .second, .val (.int (i0 &&& (2097151 : Int32))), .unset, .unset, .unset, .unset, .unset, .unset] [(.long (4294967295 : Int64)), (.long i1)])) _
    refine XS.land X0.here hx rfl (hb hby at_9) rfl ?_
    show Steps p.tables e below (s₁.setTop (mkF m 10 #[.val (.int i0), .val (.long i1), .second, .val (.int (i0 &&& (2097151 : Int32))), .unset, .unset, .unset, .unset, .unset, .unset] [(.long (i1 &&& (4294967295 : Int64)))])) _
    refine XS.lstore X0.here hx rfl (hb hby at_10) rfl (l' := #[.val (.int i0), .val (.long i1), .second, .val (.int (i0 &&& (2097151 : Int32))), .val (.long (i1 &&& (4294967295 : Int64))), .second, .unset, .unset, .unset, .unset]) rfl ?_
    show Steps p.tables e below (s₁.setTop (mkF m 12 #[.val (.int i0), .val (.long i1), .second, .val (.int (i0 &&& (2097151 : Int32))), .val (.long (i1 &&& (4294967295 : Int64))), .second, .unset, .unset, .unset, .unset] [])) _
    refine XS.iloadN X0.here hx rfl (hb hby at_12) rfl ?_
    show Steps p.tables e below (s₁.setTop (mkF m 13 #[.val (.int i0), .val (.long i1), .second, .val (.int (i0 &&& (2097151 : Int32))), .val (.long (i1 &&& (4294967295 : Int64))), .second, .unset, .unset, .unset, .unset] [(.int (i0 &&& (2097151 : Int32)))])) _
    refine XS.lload X0.here hx rfl (hb hby at_13) rfl ?_
    show Steps p.tables e below (s₁.setTop (mkF m 15 #[.val (.int i0), .val (.long i1), .second, .val (.int (i0 &&& (2097151 : Int32))), .val (.long (i1 &&& (4294967295 : Int64))), .second, .unset, .unset, .unset, .unset] [(.long (i1 &&& (4294967295 : Int64))), (.int (i0 &&& (2097151 : Int32)))])) _
    refine st1 _ ?_
    show Steps p.tables e below (T1.setTop (mkF m 18 #[.val (.int i0), .val (.long i1), .second, .val (.int (i0 &&& (2097151 : Int32))), .val (.long (i1 &&& (4294967295 : Int64))), .second, .unset, .unset, .unset, .unset] [(.long (own_id (i0 &&& (2097151 : Int32)) (i1 &&& (4294967295 : Int64))))])) _
    refine XS.lstore X1.here hx rfl (hb hby at_18) rfl (l' := #[.val (.int i0), .val (.long i1), .second, .val (.int (i0 &&& (2097151 : Int32))), .val (.long (i1 &&& (4294967295 : Int64))), .second, .val (.long (own_id (i0 &&& (2097151 : Int32)) (i1 &&& (4294967295 : Int64)))), .second, .unset, .unset]) rfl ?_
    show Steps p.tables e below (T1.setTop (mkF m 20 #[.val (.int i0), .val (.long i1), .second, .val (.int (i0 &&& (2097151 : Int32))), .val (.long (i1 &&& (4294967295 : Int64))), .second, .val (.long (own_id (i0 &&& (2097151 : Int32)) (i1 &&& (4294967295 : Int64)))), .second, .unset, .unset] [])) _
    refine XS.iloadN X1.here hx rfl (hb hby at_20) rfl ?_
    show Steps p.tables e below (T1.setTop (mkF m 21 #[.val (.int i0), .val (.long i1), .second, .val (.int (i0 &&& (2097151 : Int32))), .val (.long (i1 &&& (4294967295 : Int64))), .second, .val (.long (own_id (i0 &&& (2097151 : Int32)) (i1 &&& (4294967295 : Int64)))), .second, .unset, .unset] [(.int (i0 &&& (2097151 : Int32)))])) _
    refine XS.i2l X1.here hx rfl (hb hby at_21) rfl ?_
    show Steps p.tables e below (T1.setTop (mkF m 22 #[.val (.int i0), .val (.long i1), .second, .val (.int (i0 &&& (2097151 : Int32))), .val (.long (i1 &&& (4294967295 : Int64))), .second, .val (.long (own_id (i0 &&& (2097151 : Int32)) (i1 &&& (4294967295 : Int64)))), .second, .unset, .unset] [(.long ((i0 &&& (2097151 : Int32)).toInt64))])) _
    refine X1.ldc2Long hx hown (mvT hZ (hw _ (List.mem_of_getElem? (i := 8) rfl))) (g := (mkF m 22 #[.val (.int i0), .val (.long i1), .second, .val (.int (i0 &&& (2097151 : Int32))), .val (.long (i1 &&& (4294967295 : Int64))), .second, .val (.long (own_id (i0 &&& (2097151 : Int32)) (i1 &&& (4294967295 : Int64)))), .second, .unset, .unset] [(.long ((i0 &&& (2097151 : Int32)).toInt64))])) rfl (hb hby at_22) _ ?_
    show Steps p.tables e below (T1.setTop (mkF m 25 #[.val (.int i0), .val (.long i1), .second, .val (.int (i0 &&& (2097151 : Int32))), .val (.long (i1 &&& (4294967295 : Int64))), .second, .val (.long (own_id (i0 &&& (2097151 : Int32)) (i1 &&& (4294967295 : Int64)))), .second, .unset, .unset] [(.long (4294967296 : Int64)), (.long ((i0 &&& (2097151 : Int32)).toInt64))])) _
    refine XS.lmul X1.here hx rfl (hb hby at_25) rfl ?_
    show Steps p.tables e below (T1.setTop (mkF m 26 #[.val (.int i0), .val (.long i1), .second, .val (.int (i0 &&& (2097151 : Int32))), .val (.long (i1 &&& (4294967295 : Int64))), .second, .val (.long (own_id (i0 &&& (2097151 : Int32)) (i1 &&& (4294967295 : Int64)))), .second, .unset, .unset] [(.long (((i0 &&& (2097151 : Int32)).toInt64) * (4294967296 : Int64)))])) _
    refine XS.lload X1.here hx rfl (hb hby at_26) rfl ?_
    show Steps p.tables e below (T1.setTop (mkF m 28 #[.val (.int i0), .val (.long i1), .second, .val (.int (i0 &&& (2097151 : Int32))), .val (.long (i1 &&& (4294967295 : Int64))), .second, .val (.long (own_id (i0 &&& (2097151 : Int32)) (i1 &&& (4294967295 : Int64)))), .second, .unset, .unset] [(.long (i1 &&& (4294967295 : Int64))), (.long (((i0 &&& (2097151 : Int32)).toInt64) * (4294967296 : Int64)))])) _
    refine XS.ladd X1.here hx rfl (hb hby at_28) rfl ?_
    show Steps p.tables e below (T1.setTop (mkF m 29 #[.val (.int i0), .val (.long i1), .second, .val (.int (i0 &&& (2097151 : Int32))), .val (.long (i1 &&& (4294967295 : Int64))), .second, .val (.long (own_id (i0 &&& (2097151 : Int32)) (i1 &&& (4294967295 : Int64)))), .second, .unset, .unset] [(.long ((((i0 &&& (2097151 : Int32)).toInt64) * (4294967296 : Int64)) + (i1 &&& (4294967295 : Int64))))])) _
    refine XS.lstore X1.here hx rfl (hb hby at_29) rfl (l' := #[.val (.int i0), .val (.long i1), .second, .val (.int (i0 &&& (2097151 : Int32))), .val (.long (i1 &&& (4294967295 : Int64))), .second, .val (.long (own_id (i0 &&& (2097151 : Int32)) (i1 &&& (4294967295 : Int64)))), .second, .val (.long ((((i0 &&& (2097151 : Int32)).toInt64) * (4294967296 : Int64)) + (i1 &&& (4294967295 : Int64)))), .second]) rfl ?_
    show Steps p.tables e below (T1.setTop (mkF m 31 #[.val (.int i0), .val (.long i1), .second, .val (.int (i0 &&& (2097151 : Int32))), .val (.long (i1 &&& (4294967295 : Int64))), .second, .val (.long (own_id (i0 &&& (2097151 : Int32)) (i1 &&& (4294967295 : Int64)))), .second, .val (.long ((((i0 &&& (2097151 : Int32)).toInt64) * (4294967296 : Int64)) + (i1 &&& (4294967295 : Int64)))), .second] [])) _
    refine XS.lload X1.here hx rfl (hb hby at_31) rfl ?_
    show Steps p.tables e below (T1.setTop (mkF m 33 #[.val (.int i0), .val (.long i1), .second, .val (.int (i0 &&& (2097151 : Int32))), .val (.long (i1 &&& (4294967295 : Int64))), .second, .val (.long (own_id (i0 &&& (2097151 : Int32)) (i1 &&& (4294967295 : Int64)))), .second, .val (.long ((((i0 &&& (2097151 : Int32)).toInt64) * (4294967296 : Int64)) + (i1 &&& (4294967295 : Int64)))), .second] [(.long (own_id (i0 &&& (2097151 : Int32)) (i1 &&& (4294967295 : Int64))))])) _
    refine XS.lload X1.here hx rfl (hb hby at_33) rfl ?_
    show Steps p.tables e below (T1.setTop (mkF m 35 #[.val (.int i0), .val (.long i1), .second, .val (.int (i0 &&& (2097151 : Int32))), .val (.long (i1 &&& (4294967295 : Int64))), .second, .val (.long (own_id (i0 &&& (2097151 : Int32)) (i1 &&& (4294967295 : Int64)))), .second, .val (.long ((((i0 &&& (2097151 : Int32)).toInt64) * (4294967296 : Int64)) + (i1 &&& (4294967295 : Int64)))), .second] [(.long ((((i0 &&& (2097151 : Int32)).toInt64) * (4294967296 : Int64)) + (i1 &&& (4294967295 : Int64)))), (.long (own_id (i0 &&& (2097151 : Int32)) (i1 &&& (4294967295 : Int64))))])) _
    refine XS.lcmp X1.here hx rfl (hb hby at_35) rfl ?_
    show Steps p.tables e below (T1.setTop (mkF m 36 #[.val (.int i0), .val (.long i1), .second, .val (.int (i0 &&& (2097151 : Int32))), .val (.long (i1 &&& (4294967295 : Int64))), .second, .val (.long (own_id (i0 &&& (2097151 : Int32)) (i1 &&& (4294967295 : Int64)))), .second, .val (.long ((((i0 &&& (2097151 : Int32)).toInt64) * (4294967296 : Int64)) + (i1 &&& (4294967295 : Int64)))), .second] [(.int (lcmpW (own_id (i0 &&& (2097151 : Int32)) (i1 &&& (4294967295 : Int64))) ((((i0 &&& (2097151 : Int32)).toInt64) * (4294967296 : Int64)) + (i1 &&& (4294967295 : Int64)))))])) _
    refine XS.ifNo X1.here hx rfl (hb hby at_36) rfl ((if0 _ _).trans (teq ((lw_eq _ _).mpr (own_eq i0 i1))).2) ?_
    show Steps p.tables e below (T1.setTop (mkF m 39 #[.val (.int i0), .val (.long i1), .second, .val (.int (i0 &&& (2097151 : Int32))), .val (.long (i1 &&& (4294967295 : Int64))), .second, .val (.long (own_id (i0 &&& (2097151 : Int32)) (i1 &&& (4294967295 : Int64)))), .second, .val (.long ((((i0 &&& (2097151 : Int32)).toInt64) * (4294967296 : Int64)) + (i1 &&& (4294967295 : Int64)))), .second] [])) _
    refine XS.lload X1.here hx rfl (hb hby at_39) rfl ?_
    show Steps p.tables e below (T1.setTop (mkF m 41 #[.val (.int i0), .val (.long i1), .second, .val (.int (i0 &&& (2097151 : Int32))), .val (.long (i1 &&& (4294967295 : Int64))), .second, .val (.long (own_id (i0 &&& (2097151 : Int32)) (i1 &&& (4294967295 : Int64)))), .second, .val (.long ((((i0 &&& (2097151 : Int32)).toInt64) * (4294967296 : Int64)) + (i1 &&& (4294967295 : Int64)))), .second] [(.long (own_id (i0 &&& (2097151 : Int32)) (i1 &&& (4294967295 : Int64))))])) _
    refine XS.lconst X1.here hx rfl (hb hby at_41) ?_
    show Steps p.tables e below (T1.setTop (mkF m 42 #[.val (.int i0), .val (.long i1), .second, .val (.int (i0 &&& (2097151 : Int32))), .val (.long (i1 &&& (4294967295 : Int64))), .second, .val (.long (own_id (i0 &&& (2097151 : Int32)) (i1 &&& (4294967295 : Int64)))), .second, .val (.long ((((i0 &&& (2097151 : Int32)).toInt64) * (4294967296 : Int64)) + (i1 &&& (4294967295 : Int64)))), .second] [(.long (0 : Int64)), (.long (own_id (i0 &&& (2097151 : Int32)) (i1 &&& (4294967295 : Int64))))])) _
    refine XS.lcmp X1.here hx rfl (hb hby at_42) rfl ?_
    show Steps p.tables e below (T1.setTop (mkF m 43 #[.val (.int i0), .val (.long i1), .second, .val (.int (i0 &&& (2097151 : Int32))), .val (.long (i1 &&& (4294967295 : Int64))), .second, .val (.long (own_id (i0 &&& (2097151 : Int32)) (i1 &&& (4294967295 : Int64)))), .second, .val (.long ((((i0 &&& (2097151 : Int32)).toInt64) * (4294967296 : Int64)) + (i1 &&& (4294967295 : Int64)))), .second] [(.int (lcmpW (own_id (i0 &&& (2097151 : Int32)) (i1 &&& (4294967295 : Int64))) (0 : Int64)))])) _
    refine XS.ifNo X1.here hx rfl (hb hby at_43) rfl ((if0 _ _).trans (flt (mt (lw_lt _ _).mp (own_ge i0 i1))).1) ?_
    show Steps p.tables e below (T1.setTop (mkF m 46 #[.val (.int i0), .val (.long i1), .second, .val (.int (i0 &&& (2097151 : Int32))), .val (.long (i1 &&& (4294967295 : Int64))), .second, .val (.long (own_id (i0 &&& (2097151 : Int32)) (i1 &&& (4294967295 : Int64)))), .second, .val (.long ((((i0 &&& (2097151 : Int32)).toInt64) * (4294967296 : Int64)) + (i1 &&& (4294967295 : Int64)))), .second] [])) _
    refine XS.lload X1.here hx rfl (hb hby at_46) rfl ?_
    show Steps p.tables e below (T1.setTop (mkF m 48 #[.val (.int i0), .val (.long i1), .second, .val (.int (i0 &&& (2097151 : Int32))), .val (.long (i1 &&& (4294967295 : Int64))), .second, .val (.long (own_id (i0 &&& (2097151 : Int32)) (i1 &&& (4294967295 : Int64)))), .second, .val (.long ((((i0 &&& (2097151 : Int32)).toInt64) * (4294967296 : Int64)) + (i1 &&& (4294967295 : Int64)))), .second] [(.long (own_id (i0 &&& (2097151 : Int32)) (i1 &&& (4294967295 : Int64))))])) _
    refine X1.ldc2Long hx hown (mvT hZ (hw _ (List.mem_of_getElem? (i := 9) rfl))) (g := (mkF m 48 #[.val (.int i0), .val (.long i1), .second, .val (.int (i0 &&& (2097151 : Int32))), .val (.long (i1 &&& (4294967295 : Int64))), .second, .val (.long (own_id (i0 &&& (2097151 : Int32)) (i1 &&& (4294967295 : Int64)))), .second, .val (.long ((((i0 &&& (2097151 : Int32)).toInt64) * (4294967296 : Int64)) + (i1 &&& (4294967295 : Int64)))), .second] [(.long (own_id (i0 &&& (2097151 : Int32)) (i1 &&& (4294967295 : Int64))))])) rfl (hb hby at_48) _ ?_
    show Steps p.tables e below (T1.setTop (mkF m 51 #[.val (.int i0), .val (.long i1), .second, .val (.int (i0 &&& (2097151 : Int32))), .val (.long (i1 &&& (4294967295 : Int64))), .second, .val (.long (own_id (i0 &&& (2097151 : Int32)) (i1 &&& (4294967295 : Int64)))), .second, .val (.long ((((i0 &&& (2097151 : Int32)).toInt64) * (4294967296 : Int64)) + (i1 &&& (4294967295 : Int64)))), .second] [(.long (9007199254740991 : Int64)), (.long (own_id (i0 &&& (2097151 : Int32)) (i1 &&& (4294967295 : Int64))))])) _
    refine XS.lcmp X1.here hx rfl (hb hby at_51) rfl ?_
    show Steps p.tables e below (T1.setTop (mkF m 52 #[.val (.int i0), .val (.long i1), .second, .val (.int (i0 &&& (2097151 : Int32))), .val (.long (i1 &&& (4294967295 : Int64))), .second, .val (.long (own_id (i0 &&& (2097151 : Int32)) (i1 &&& (4294967295 : Int64)))), .second, .val (.long ((((i0 &&& (2097151 : Int32)).toInt64) * (4294967296 : Int64)) + (i1 &&& (4294967295 : Int64)))), .second] [(.int (lcmpW (own_id (i0 &&& (2097151 : Int32)) (i1 &&& (4294967295 : Int64))) (9007199254740991 : Int64)))])) _
    refine XS.ifNo X1.here hx rfl (hb hby at_52) rfl ((if0 _ _).trans (flt (mt (lw_gt _ _).mp (own_le i0 i1))).2.2.1) ?_
    show Steps p.tables e below (T1.setTop (mkF m 55 #[.val (.int i0), .val (.long i1), .second, .val (.int (i0 &&& (2097151 : Int32))), .val (.long (i1 &&& (4294967295 : Int64))), .second, .val (.long (own_id (i0 &&& (2097151 : Int32)) (i1 &&& (4294967295 : Int64)))), .second, .val (.long ((((i0 &&& (2097151 : Int32)).toInt64) * (4294967296 : Int64)) + (i1 &&& (4294967295 : Int64)))), .second] [])) _
    refine XS.iconst X1.here hx rfl (hb hby at_55) ?_
    show Steps p.tables e below (T1.setTop (mkF m 56 #[.val (.int i0), .val (.long i1), .second, .val (.int (i0 &&& (2097151 : Int32))), .val (.long (i1 &&& (4294967295 : Int64))), .second, .val (.long (own_id (i0 &&& (2097151 : Int32)) (i1 &&& (4294967295 : Int64)))), .second, .val (.long ((((i0 &&& (2097151 : Int32)).toInt64) * (4294967296 : Int64)) + (i1 &&& (4294967295 : Int64)))), .second] [(.int (1 : Int32))])) _
    refine XS.goto X1.here hx rfl (pc0 := 56) (pc' := 60) rfl (hb hby at_56) (by decide) (by decide) ?_
    show Steps p.tables e below (T1.setTop (mkF m 60 #[.val (.int i0), .val (.long i1), .second, .val (.int (i0 &&& (2097151 : Int32))), .val (.long (i1 &&& (4294967295 : Int64))), .second, .val (.long (own_id (i0 &&& (2097151 : Int32)) (i1 &&& (4294967295 : Int64)))), .second, .val (.long ((((i0 &&& (2097151 : Int32)).toInt64) * (4294967296 : Int64)) + (i1 &&& (4294967295 : Int64)))), .second] [(.int (1 : Int32))])) _
    exact retN X1 hx (t := .boolean) Bd.returns (by simp) (hb hby at_60) hr
  · show QL n0 _ T1.heap _
    rw [hh1]
    exact ⟨rfl, N1⟩
set_option maxRecDepth 65536 in
set_option maxHeartbeats 40000000 in
theorem comes_1 {Post : Tables → Env → Array Value → State → Outcome → State → Prop} (hpost : ∀ tb e args s v u, (limb_1_1.after args s (.returned v) u = true ∧ limb_1_2.after args s (.returned v) u = true ∧ True) → FrameEnd s (.returned v) u (Jvm.fieldLocs frame_1_writes args s ++ Jvm.arrayLocs frame_1_arrays args s ++ Jvm.staticLocs frame_1_statics s) 0 0 → Post tb e args s (.returned v) u) :
    ArmFor flags0 classFile x code maxLocals ret World_1 tables_1 room_1 Calls_1 rest_1 Pre_1 Post := by
  intro l hfl _ _ p e ha hc hk s m args below hf hA hF happ hP
  obtain ⟨hcalls, hrest, hpre⟩ := hP
  obtain ⟨-, -, -, hnamed, -, -, -, hat⟩ := (Spec.applies_iff hf).mp happ
  obtain ⟨hg, hn⟩ := and_e (Cond.before_iff.mp (show (Jvm.Cond.and given_1 narrow_1).before args s = true from hpre))
  obtain ⟨g0, r0⟩ := and_e hg
  obtain ⟨g1, r1⟩ := and_e r0
  obtain ⟨w0, w1, rfl⟩ : ∃ w0 w1 : Value, args = #[w0, w1] := by
    have hs : args.size = 2 := by simpa [Cond.value, given_1] using g0
    obtain ⟨L⟩ := args
    match L, hs with
    | [w0, w1], _ => exact ⟨w0, w1, rfl⟩
  have hw := fun d (hd : d ∈ tables_1) => atoms_spec (ws := Jvm.Cond.code x code maxLocals ret :: tables_1) hat d (List.mem_cons_of_mem _ hd)
  have hfit : Fit s := fun {y c} hc i hi => by
    obtain ⟨ha, rfl⟩ := Array.getElem?_eq_some_iff.mp hc
    have q := List.all_eq_true.mp ((Array.all_eq_true_iff_forall_mem.mp hF) _ (Array.getElem_mem ha)) i (List.mem_range.mpr hi)
    simpa [Array.getElem?_eq_getElem hi] using q
  obtain ⟨i0, ei0⟩ := is_v g1
  obtain rfl : w0 = (.int i0) := Option.some.inj ei0
  obtain ⟨i1, ei1⟩ := isL_v r1
  obtain rfl : w1 = (.long i1) := Option.some.inj ei1
  obtain ⟨n, o, h1, h2, h3, _, L, rfl, ⟨rfl, N⟩, hq⟩ := rm0 l s _ hw tables_1 i0 i1 s.heap s.heap.size (Old.start s) p e ha hc hk s m _ below hf ((Spec.applies_iff_loose hf).mp happ).1 ⟨rfl, State.Warmed39.refl s, rfl⟩ trivial
  refine ⟨n, _, h1, h2, h3, hpost _ _ _ _ _ _ ⟨Cond.after_iff.mpr rfl, Cond.after_iff.mpr (eq_i res_at (Term.int_eval (1)) rfl), trivial⟩ ⟨hq.1, hq.2.1, (hq.2.2.sift fun y hy => Or.inr (N y hy)).mono (by decide) (by decide)⟩⟩
theorem main_1_1 : Claimed_1_1 := comes_1 fun _ _ _ _ _ _ h hF => ⟨h.1, hF⟩
theorem main_1_2 : Claimed_1_2 := comes_1 fun _ _ _ _ _ _ h hF => ⟨h.2.1, hF⟩
end Jvm.Pilot.@@N@@
namespace Jvm.Pilot.@@N@@
open Jvm Jvm.ClassFile Sem Op Lib Jvm.Free Jvm.Stand Jvm.Pilot.@@N@@.Jvm.D
/-! MADE BY PROGRAM (witnessworld.py) out of the Statement's table words and the real class files: 9 classes; the members and pool entries that the words name. The judged class is class 1, her method 1. -/
namespace start1
open Jvm.ClassFile
def u (s : String) : CpInfo := .utf8 (stringToUtf16 s)
/-- a pool by its gaps: so many unusable entries, then the entry; so many at the end -/
def gap : Nat → List CpInfo → List CpInfo
  | 0, r => r
  | n + 1, r => .unusable :: gap n r
def poolList (es : List (Nat × CpInfo)) (last : Nat) : List CpInfo := es.foldr (fun e r => gap e.1 (e.2 :: r)) (gap last [])
def pool (es : List (Nat × CpInfo)) (last : Nat) : Array CpInfo := ⟨poolList es last⟩
def fileOf (pool : Array CpInfo) (this : Nat) (attrs : Array Attribute := #[]) (ms : Array MethodInfo := #[]) (fl : Nat := 33) (sup : Nat := 0) (ifs : Array Nat := #[]) (fds : Array FieldInfo := #[]) : ClassFile where
  minorVersion := 0
  majorVersion := 65
  constantPool := pool
  accessFlags := fl
  thisClass := this
  superClass := sup
  interfaces := ifs
  fields := fds
  methods := ms
  attributes := attrs
def plain (name : String) (sup : Option ClassId) : Class where
  name := name
  kind := .ordinary
  loader := none
  accessFlags := 33
  super := sup
  interfaces := #[]
  cf := none
  fields := #[]
  methods := #[]
  instanceTypes := #[]
  staticTypes := #[]
  resolved := #[]
  callSites := []
  init := .initialized
  statics := none
  mirror := none

def pool0 : Array CpInfo := pool [(5, u "<init>"), (0, u "()V"), (1, .class_ 10), (1, u "java/lang/Object")] 113

def k0m0 : Method := { name := "<init>", desc := "()V", sig := { parameters := [], returnType := none }, accessFlags := 1, code := none }
/-- java/lang/Object -/
def k0 : Class := { plain "java/lang/Object" none with
  accessFlags := 33
  interfaces := #[]
  cf := some (fileOf pool0 8 #[] #[{ accessFlags := 1, nameIndex := 5, descriptorIndex := 6, attributes := #[] }] 33 0 #[] #[])
  fields := #[]
  methods := #[k0m0]
  instanceTypes := #[]
  staticTypes := #[]
  resolved := Array.replicate 124 none
  statics := none }

def pool1 : Array CpInfo := pool [(2, .class_ 4), (1, u "java/lang/Object"), (0, u "<init>"), (0, u "()V"), (0, .integer 2097151), (0, .long 4294967295), (1, .methodref 11 12), (0, .class_ 13), (0, .nameAndType 14 15), (0, u "com/example/corral/corral/streams/SegmentId"), (0, u "of"), (0, u "(IJ)J"), (0, .long 4294967296), (1, .long 9007199254740991), (1, .class_ 21), (0, u "com/example/corral/corral/streams/SegmentIdOfPinLaw"), (2, u "law"), (0, u "(IJ)Z")] 3

def k1m0 : Method := { name := "<init>", desc := "()V", sig := { parameters := [], returnType := none }, accessFlags := 2, code := none }
def k1c1 : Code := { maxStack := 4, maxLocals := 10, code := code, exceptionTable := #[], attributes := #[] }
def k1m1 : Method := { name := "law", desc := "(IJ)Z", sig := { parameters := [.int, .long], returnType := some .boolean }, accessFlags := 9, code := some k1c1 }
/-- com/example/corral/corral/streams/SegmentIdOfPinLaw -/
def k1 : Class := { plain "com/example/corral/corral/streams/SegmentIdOfPinLaw" (some 0) with
  accessFlags := 49
  interfaces := #[]
  cf := some (fileOf pool1 20 #[] #[{ accessFlags := 2, nameIndex := 5, descriptorIndex := 6, attributes := #[] }, { accessFlags := 9, nameIndex := 24, descriptorIndex := 25, attributes := #[] }] 49 2 #[] #[])
  fields := #[]
  methods := #[k1m0, k1m1]
  instanceTypes := #[]
  staticTypes := #[]
  resolved := Array.replicate 29 none
  statics := none }

def pool2 : Array CpInfo := pool [(2, .class_ 4), (1, u "java/lang/Object"), (0, u "<init>"), (0, u "()V"), (0, .class_ 8), (0, u "com/example/corral/corral/streams/SegmentId"), (0, .integer 2097151), (9, .long 4294967295), (9, u "LAST_EPOCH"), (0, u "I"), (1, u "LAST_NUMBER"), (0, u "J"), (0, u "NUMBER_BITS"), (3, u "of"), (0, u "(IJ)J")] 26

def k2m0 : Method := { name := "<init>", desc := "()V", sig := { parameters := [], returnType := none }, accessFlags := 2, code := none }
def k2c1 : Code := { maxStack := 4, maxLocals := 3, code := prog_65_method_2_code, exceptionTable := #[], attributes := #[] }
def k2m1 : Method := { name := "of", desc := "(IJ)J", sig := { parameters := [.int, .long], returnType := some .long }, accessFlags := 9, code := some k2c1 }
/-- com/example/corral/corral/streams/SegmentId -/
def k2 : Class := { plain "com/example/corral/corral/streams/SegmentId" (some 0) with
  accessFlags := 49
  interfaces := #[]
  cf := some (fileOf pool2 7 #[] #[{ accessFlags := 2, nameIndex := 5, descriptorIndex := 6, attributes := #[] }, { accessFlags := 9, nameIndex := 38, descriptorIndex := 39, attributes := #[] }] 49 2 #[] #[{ accessFlags := 25, nameIndex := 29, descriptorIndex := 30, attributes := #[] }, { accessFlags := 25, nameIndex := 32, descriptorIndex := 33, attributes := #[] }, { accessFlags := 26, nameIndex := 34, descriptorIndex := 30, attributes := #[] }])
  fields := #[{ name := "LAST_EPOCH", type := .int, accessFlags := 25, slot := 0, constantValue := 0 }, { name := "LAST_NUMBER", type := .long, accessFlags := 25, slot := 1, constantValue := 0 }, { name := "NUMBER_BITS", type := .int, accessFlags := 26, slot := 2, constantValue := 0 }]
  methods := #[k2m0, k2m1]
  instanceTypes := #[]
  staticTypes := #[.int, .long, .int]
  resolved := Array.replicate 66 none
  statics := none }

def pool3 : Array CpInfo := pool [(1, u "java/lang/Cloneable"), (0, .class_ 1), (0, u "java/lang/Object"), (0, .class_ 3)] 3

/-- java/lang/Cloneable -/
def k3 : Class := { plain "java/lang/Cloneable" (some 0) with
  accessFlags := 1537
  interfaces := #[]
  cf := some (fileOf pool3 2 #[] #[] 1537 4 #[] #[])
  fields := #[]
  methods := #[]
  instanceTypes := #[]
  staticTypes := #[]
  resolved := Array.replicate 8 none
  statics := none }

def pool4 : Array CpInfo := pool [(1, u "java/io/Serializable"), (0, .class_ 1), (0, u "java/lang/Object"), (0, .class_ 3)] 3

/-- java/io/Serializable -/
def k4 : Class := { plain "java/io/Serializable" (some 0) with
  accessFlags := 1537
  interfaces := #[]
  cf := some (fileOf pool4 2 #[] #[] 1537 4 #[] #[])
  fields := #[]
  methods := #[]
  instanceTypes := #[]
  staticTypes := #[]
  resolved := Array.replicate 8 none
  statics := none }

/-- the primitive byte -/
def k5 : Class := { plain "byte" none with kind := .primitive 'B', accessFlags := 0x411 }
/-- [B -/
def k6 : Class := { plain "[B" (some 0) with kind := .array 5 .byte, interfaces := #[3, 4], accessFlags := 1041 }

/-- the primitive int -/
def k7 : Class := { plain "int" none with kind := .primitive 'I', accessFlags := 0x411 }
/-- [I -/
def k8 : Class := { plain "[I" (some 0) with kind := .array 7 .int, interfaces := #[3, 4], accessFlags := 1041 }

def heap : Heap := #[]
def classes : Array Class := #[k0, k1, k2, k3, k4, k5, k6, k7, k8]
def interned : List (Array UInt16 × Addr) := []
def slotsUsed : Nat := 0
def theMethod : MethodId := ⟨1, 1⟩
def args0 : Array Value := #[.int 5, .long 7]
def aboutOver (below : List Frame) : State where
  vm := { classes := classes, interned := interned.toArray }
  heap := heap
  slotsUsed := slotsUsed
  threads := #[{ frames := .invoking theMethod args0 :: below }]
def below0 : List Frame := [.native { method := ⟨0, 0⟩, args := #[] }]
def about1 : State := aboutOver below0
def p0 : Program := .bare "" "" ""
def e0 : Env := launch0.env 0 0 0
theorem w_frames : about1.frames = Frame.invoking theMethod args0 :: below0 := rfl
set_option maxRecDepth 65536 in
theorem w_args : argsFit about1.vm theMethod args0 = true := by decide +kernel
set_option maxRecDepth 65536 in
theorem w_heap : heapFits about1 = true := by decide +kernel
set_option maxRecDepth 65536 in
theorem w_runnable : about1.curStatus? = some .runnable := by decide +kernel
set_option maxRecDepth 65536 in
theorem w_alone : about1.alone = true := by decide +kernel
set_option maxRecDepth 65536 in
theorem w_named : about1.methodNamed? x = some theMethod := by decide +kernel
set_option maxRecDepth 65536 in
theorem w_hears : about1.hears theMethod below0 = true := by decide +kernel
set_option maxRecDepth 65536 in
theorem w_ripe : about1.ripe theMethod args0 below0 = true := by decide +kernel
theorem w_running : about1.status = .running := rfl
set_option maxRecDepth 65536 in
theorem w_room : about1.hasRoom e0.platform room_1 = true :=
  launch0.hasRoom_least _ room_1 (by decide +kernel) (by decide +kernel) (by decide +kernel) (by decide +kernel) (by decide +kernel) (by decide +kernel)
theorem allAtoms_all (ts : List Jvm.Cond) (a : Array Jvm.Value) (st : Jvm.State) : (allAtoms ts).before a st = ts.all (fun c => c.before a st) := by
  induction ts with
  | nil => rfl
  | cons c t ih =>
    show (Jvm.Cond.and c (allAtoms t)).before a st = _
    rw [Jvm.Cond.before_and, ih, List.all_cons]
def words1 : List Jvm.Cond := Jvm.Cond.code x code maxLocals ret :: tables_1
/-- a 'code' word, met by the world's own term for the bytes: nothing is compared byte by byte -/
theorem code_word {y : MethodName} {bytes : ByteArray} {mx : Nat} {rt : Option FieldType} {a : Array Value} {s : State} {m : MethodId} {meth : Method} {c : Code} (h1 : s.methodNamed? y = some m) (h2 : s.vm.method? m = some meth) (h3 : meth.code = some c) (h4 : c.code = bytes)
    (h5 : (c.maxLocals == mx && c.exceptionTable.isEmpty && decide (c.maxStack ≤ mostOperands) && decide (meth.sig.returnType = rt) && !meth.locks && decide (parseMethodDescriptor y.desc = some meth.sig)) = true) : (Jvm.Cond.code y bytes mx rt).before a s = true := by
  simp only [Bool.and_eq_true, beq_iff_eq, Bool.not_eq_true', decide_eq_true_eq] at h5
  obtain ⟨⟨⟨⟨⟨g1, g2⟩, g3⟩, g4⟩, g5⟩, g6⟩ := h5
  simp [Cond.before, Cond.holds, Cond.value, h1, h2, h3, h4, g1, g2, g3, g4, g5, g6]
def isCode : Jvm.Cond → Bool
  | .code _ _ _ _ => true
  | _ => false
theorem all_split {L : List Jvm.Cond} {P : Jvm.Cond → Bool} (h1 : L.all (fun c => isCode c || P c) = true) (h2 : ∀ c ∈ L.filter isCode, P c = true) : L.all P = true := by
  refine List.all_eq_true.mpr fun c hc => ?_
  have h := List.all_eq_true.mp h1 c hc
  rcases Bool.eq_false_or_eq_true (isCode c) with hi | hi
  · exact h2 c (List.mem_filter.mpr ⟨hc, hi⟩)
  · simpa [hi] using h
set_option maxRecDepth 65536 in
theorem w_c0 : (Jvm.Cond.code x code maxLocals ret).before args0 about1 = true := code_word (m := ⟨1, 1⟩) (meth := k1m1) (c := k1c1) (by decide +kernel) rfl rfl rfl (by decide +kernel)
set_option maxRecDepth 65536 in
theorem w_c1 : (Jvm.Cond.code ({ cls := "com/example/corral/corral/streams/SegmentId", name := "of", desc := "(IJ)J" } : Jvm.MethodName) prog_65_method_2_code (3 : Nat) (Option.some Jvm.ClassFile.FieldType.long)).before args0 about1 = true := code_word (m := ⟨2, 1⟩) (meth := k2m1) (c := k2c1) (by decide +kernel) rfl rfl rfl (by decide +kernel)
def codes1 : List Jvm.Cond := [Jvm.Cond.code x code maxLocals ret, Jvm.Cond.code ({ cls := "com/example/corral/corral/streams/SegmentId", name := "of", desc := "(IJ)J" } : Jvm.MethodName) prog_65_method_2_code (3 : Nat) (Option.some Jvm.ClassFile.FieldType.long)]
set_option maxRecDepth 65536 in
theorem codes_eq : words1.filter isCode = codes1 := rfl
theorem w_codes : ∀ c ∈ words1.filter isCode, c.before args0 about1 = true := by
  rw [codes_eq]
  intro c hc
  simp only [codes1, List.mem_cons, List.not_mem_nil, or_false] at hc
  rcases hc with rfl | rfl
  · exact w_c0
  · exact w_c1
set_option maxRecDepth 65536 in
theorem w_t1 : words1.all (fun c => isCode c || c.before args0 about1) = true := by decide +kernel
theorem w_tables : (allAtoms (Jvm.Cond.code x code maxLocals ret :: tables_1)).before args0 about1 = true := by
  rw [allAtoms_all]
  show words1.all (fun c => c.before args0 about1) = true
  refine all_split ?_ w_codes
  rw [w_t1]
set_option maxRecDepth 65536 in
theorem w_case : (Jvm.Cond.and given_1 narrow_1).before args0 about1 = true := by decide +kernel
theorem w_applies : (headSpec (Jvm.Cond.code x code maxLocals ret :: tables_1) room_1).applies x e0.platform about1 = true :=
  (Spec.applies_iff w_frames).mpr ⟨w_running, w_runnable, w_alone, w_named, w_hears, w_ripe, w_room, w_tables⟩
theorem atStart : AtStart classFile x code maxLocals ret World_1 tables_1 room_1 Calls_1 rest_1 Pre_1 launch0 p0 e0 about1 theMethod args0 below0 :=
  ⟨lists_1, trivial, launch0.admits_env _ _ _, launch0.least_env, fairChoices_fair.cas, fairChoices_fair.clock, w_frames, w_args, w_heap, w_applies, trivial, trivial, w_case⟩
end start1
theorem witness_1 : WitnessClaimed_1 := ⟨start1.p0, start1.e0, start1.about1, start1.theMethod, start1.args0, start1.below0, start1.atStart⟩
end Jvm.Pilot.@@N@@
