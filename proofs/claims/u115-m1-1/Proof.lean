import JvmDerived
import JvmDerived.Pilot.@@N@@Statement
import JvmDerived.Pilot.@@N@@Code
set_option linter.unusedVariables false
set_option linter.unusedSimpArgs false
namespace Jvm.RoadKit
open Sem ClassFile Op Lib Jvm.Stand Jvm.Free Jvm.LawKit
section New
variable {p : Program} {l : Launch} {e : Env} {R : Room} {s : State} {m : MethodId} {args : Array Value} {below : List Frame} {meth : Method} {c : Code} {T : State} {locs : List Loc} {cells slots : Nat}
theorem retI (X : Stand p l e R s m args below meth c T locs cells slots) (hx : p.tables.exec = Jvm.exec) {pc : Nat} {Ls : Array Slot} {z : Int32} {rest : List Value} (hret : meth.sig.returnType = some .int) (hd : decode c.code pc = .ok (.ireturn, 1)) {fs : List Frame}
    (hl : ∀ (f : JFrame) (acts : List Action), f.method = m → f.locked = none → f.entered = [] → (doReturn e (T.setTop f) acts (some (.int z))).1 = T.setFrames fs) : Steps p.tables e below (T.setTop (mkF m pc Ls (.int z :: rest))) (T.setFrames fs) := by
  have hm' : T.vm.method? m = some meth := X.method'
  have hn : narrow .int (.int z) = .int z := rfl
  show Steps p.tables e below (T.setTop { method := m, pc := pc, locals := Ls, stack := _ :: rest, locked := none }) _
  jvm_step X.here [X.here.top, hx, hd, hm', hret, hn]
  first | (intro acts; rw [hl _ acts rfl rfl rfl]) | rw [hl _ _ rfl rfl rfl]
  exact Steps.refl _
end New
end Jvm.RoadKit
namespace Jvm.Pilot.@@N@@
open Jvm Jvm.ClassFile Sem Op Lib Jvm.Free Jvm.Stand Jvm.LawKit Jvm.RoadKit Bundle Jvm.Pilot.@@N@@.Jvm.D
def QL (n0 : Nat) (v : Option Value) (h : Heap) (L : List Loc) : Prop := v = some (.int 1) ∧ Fr n0 L
def own_c (e s x : Int64) : Int32 := if s = e then (if x = 0 then 1 else 0) else 0
theorem own_up (e : Int64) : ¬ (e + (1 : Int64)) = e := fun h => by
  have h1 := c_ladd e 1; have h2 : (1 : Int64).toInt = 1 := rfl
  rw [h] at h1; omega
theorem own_xor (e : Int64) : ¬ (e ^^^ (1 : Int64)) = e := fun h => by
  have h1 := c_xor2L e 1; have h2 : (1 : Int64).toInt = 1 := rfl
  rw [h] at h1; omega
def Q1 (e s x : Int64) (h0 : Heap) (n0 : Nat) (v : Option Value) (h : Heap) (L : List Loc) : Prop := v = some (.int (own_c e s x)) ∧ Fr n0 L ∧ h = h0
def Q_rmR (h0 : Heap) (n0 : Nat) (v : Option Value) (h : Heap) (L : List Loc) : Prop := v = none ∧ Fr n0 L ∧ h = h0
theorem pn_0 : plainName "java/lang/Record" = true := by first | (simp [plainName, overriddenIn]; done) | decide +kernel
theorem ef_0 (m : MethodId) (x0 : Addr) : entryFrame m #[(.ref x0)] 1 = mkF m 0 #[.val (.ref x0)] [] := by first | (simp [entryFrame, mkF, argsToLocals, Value.category]; done) | rfl
theorem dc0_0 : decode jdk_30_method_1_code 0 = .ok (.aload_n 0, 1) := by decide +kernel
theorem dc0_1 : decode jdk_30_method_1_code 1 = .ok (.invokespecial 1, 3) := by decide +kernel
theorem dc0_4 : decode jdk_30_method_1_code 4 = .ok (.return_, 1) := by decide +kernel
set_option maxRecDepth 65536 in
set_option maxHeartbeats 40000000 in
theorem rmR (l : Launch) (Z : State) (a0 : Array Value) (hw : ∀ d ∈ tables_1, d.before a0 Z = true) (ws : List Jvm.Cond) (a1 : Addr) (h0 : Heap) (n0 : Nat) (O0 : Old Z n0 h0) :
    MetFree l (⟨"java/lang/Record", "<init>", "()V"⟩ : MethodName) (head1 (Jvm.Cond.code (⟨"java/lang/Record", "<init>", "()V"⟩ : MethodName) jdk_30_method_1_code 1 none :: ws) ({ frames := 1, cells := 0, slots := 0, locals := 12 } : Room)) (fun a U => a = #[(.ref a1)] ∧ Z.Warmed39 U.vm ∧ U.heap = h0) (fun _ _ _ _ _ => True) (fun _ U o U' => ∃ v L, o = .returned v ∧ Q_rmR h0 n0 v U'.heap L ∧ FrameEnd U o U' L ({ frames := 1, cells := 0, slots := 0, locals := 12 } : Room).cells ({ frames := 1, cells := 0, slots := 0, locals := 12 } : Room).slots) := by
  refine MetFree.of_bodySF (plainFor_of_name pn_0) hisR ?_
  intro p e s m args below meth c s₁ Bd hml0 hP hK
  obtain ⟨rfl, hZ, hh⟩ := hP
  have hx := Bd.exec
  have hby := Bd.bytes
  have hml : c.maxLocals = 1 := hml0
  have hown : s.vm.findClass "java/lang/Record" = some m.cls := findClass_of_methodNamed Bd.named
  have hnm := (name_of_methodNamed Bd.named Bd.method).1
  have X0 : Stand p l e ({ frames := 1, cells := 0, slots := 0, locals := 12 } : Room) s m #[(.ref a1)] below meth c s₁ [] 0 0 := Stand.of_body Bd
  have e0 : s₁.heap = h0 := by rw [← hh, Bd.state]; rfl
  have N0 := Fr.nil n0
  have pre0 : ∀ t, Steps p.tables e below (s₁.setTop (mkF m 0 #[.val (.ref a1)] [])) t → Steps p.tables e below (s₁.setTop (entryFrame m #[(.ref a1)] 1)) t := fun t k => castTop (ef_0 m a1) k
  obtain ⟨T1, X1, e1, st1⟩ := initO X0 hx hZ hown (hw _ (List.mem_of_getElem? (i := 11) rfl)) (hw _ (List.mem_of_getElem? (i := 12) rfl)) (hw _ (List.mem_of_getElem? (i := 13) rfl)) e0 (g := (mkF m 1 #[.val (.ref a1)] [(.ref a1)])) rfl (by rw [hml]; rfl) rfl (hb hby dc0_1) (by decide) (W := 0) (by show 2 * 0 + _ ≤ _; exact Nat.le_of_eq rfl) (by decide)
  obtain ⟨fs, hr, hrun, hended, hW, hsame⟩ := X1.leave (v := none) (fun _ => rfl)
  refine ⟨_, _, pre0 _ ?_, hrun, hended, _, _, rfl, ?_, ⟨_, rfl⟩, hW, hsame.mono (by decide) (by decide)⟩
  · skip
    show Steps p.tables e below (s₁.setTop (mkF m 0 #[.val (.ref a1)] [])) _
    refine XS.aloadN X0.here hx rfl (hb hby dc0_0) rfl rfl ?_
    show Steps p.tables e below (s₁.setTop (mkF m 1 #[.val (.ref a1)] [(.ref a1)])) _
    refine st1 _ ?_
    show Steps p.tables e below (T1.setTop (mkF m 4 #[.val (.ref a1)] [])) _
    exact X1.returnOut hx Bd.returns (hb hby dc0_4) hr
  · show Q_rmR h0 n0 _ T1.heap _
    rw [e1]
    exact ⟨rfl, N0, rfl⟩
def Q_rmI (Z : State) (a1 : Addr) (x2 : Int64) (x3 : Int64) (x4 : Int64) (x5 : Int64) (h0 : Heap) (n0 : Nat) (v : Option Value) (h : Heap) (L : List Loc) : Prop := v = none ∧ Fr n0 L ∧ Keep h0 h [a1] ∧ Exa Z h a1 "com/example/carbonfold/carbonfold/bench/Fanout$Result" ∧ Fld Z h a1 "com/example/carbonfold/carbonfold/bench/Fanout$Result" "expected" "J" (.long x2) ∧ Fld Z h a1 "com/example/carbonfold/carbonfold/bench/Fanout$Result" "seen" "J" (.long x3) ∧ Fld Z h a1 "com/example/carbonfold/carbonfold/bench/Fanout$Result" "extra" "J" (.long x4) ∧ Fld Z h a1 "com/example/carbonfold/carbonfold/bench/Fanout$Result" "nanos" "J" (.long x5)
theorem pn_1 : plainName "com/example/carbonfold/carbonfold/bench/Fanout$Result" = true := by first | (simp [plainName, overriddenIn]; done) | decide +kernel
theorem ef_1 (m : MethodId) (x0 : Addr) (x1 : Int64) (x2 : Int64) (x3 : Int64) (x4 : Int64) : entryFrame m #[(.ref x0), (.long x1), (.long x2), (.long x3), (.long x4)] 9 = mkF m 0 #[.val (.ref x0), .val (.long x1), .second, .val (.long x2), .second, .val (.long x3), .second, .val (.long x4), .second] [] := by first | (simp [entryFrame, mkF, argsToLocals, Value.category]; done) | rfl
theorem dc1_0 : decode prog_8_method_1_code 0 = .ok (.aload_n 0, 1) := by decide +kernel
theorem dc1_1 : decode prog_8_method_1_code 1 = .ok (.invokespecial 1, 3) := by decide +kernel
theorem pd_0 : parseMethodDescriptor "()V" = some ⟨[], none⟩ := by decide +kernel
theorem dc1_4 : decode prog_8_method_1_code 4 = .ok (.aload_n 0, 1) := by decide +kernel
theorem dc1_5 : decode prog_8_method_1_code 5 = .ok (.lload_n 1, 1) := by decide +kernel
theorem dc1_6 : decode prog_8_method_1_code 6 = .ok (.putfield 7, 3) := by decide +kernel
theorem dc1_9 : decode prog_8_method_1_code 9 = .ok (.aload_n 0, 1) := by decide +kernel
theorem dc1_10 : decode prog_8_method_1_code 10 = .ok (.lload_n 3, 1) := by decide +kernel
theorem dc1_11 : decode prog_8_method_1_code 11 = .ok (.putfield 13, 3) := by decide +kernel
theorem dc1_14 : decode prog_8_method_1_code 14 = .ok (.aload_n 0, 1) := by decide +kernel
theorem dc1_15 : decode prog_8_method_1_code 15 = .ok (.lload 5, 2) := by decide +kernel
theorem dc1_17 : decode prog_8_method_1_code 17 = .ok (.putfield 16, 3) := by decide +kernel
theorem dc1_20 : decode prog_8_method_1_code 20 = .ok (.aload_n 0, 1) := by decide +kernel
theorem dc1_21 : decode prog_8_method_1_code 21 = .ok (.lload 7, 2) := by decide +kernel
theorem dc1_23 : decode prog_8_method_1_code 23 = .ok (.putfield 19, 3) := by decide +kernel
theorem dc1_26 : decode prog_8_method_1_code 26 = .ok (.return_, 1) := by decide +kernel
set_option maxRecDepth 65536 in
set_option maxHeartbeats 40000000 in
theorem rmI (l : Launch) (Z : State) (a0 : Array Value) (hw : ∀ d ∈ tables_1, d.before a0 Z = true) (ws : List Jvm.Cond) (a1 : Addr) (x2 : Int64) (x3 : Int64) (x4 : Int64) (x5 : Int64) (h0 : Heap) (n0 : Nat) (O0 : Old Z n0 h0) (E1 : Exa Z h0 a1 "com/example/carbonfold/carbonfold/bench/Fanout$Result") (F_expected : Fld Z h0 a1 "com/example/carbonfold/carbonfold/bench/Fanout$Result" "expected" "J" (.long (0 : Int64))) (F_seen : Fld Z h0 a1 "com/example/carbonfold/carbonfold/bench/Fanout$Result" "seen" "J" (.long (0 : Int64))) (F_extra : Fld Z h0 a1 "com/example/carbonfold/carbonfold/bench/Fanout$Result" "extra" "J" (.long (0 : Int64))) (F_nanos : Fld Z h0 a1 "com/example/carbonfold/carbonfold/bench/Fanout$Result" "nanos" "J" (.long (0 : Int64))) (g1 : n0 ≤ a1) :
    MetFree l (⟨"com/example/carbonfold/carbonfold/bench/Fanout$Result", "<init>", "(JJJJ)V"⟩ : MethodName) (head1 (Jvm.Cond.code (⟨"com/example/carbonfold/carbonfold/bench/Fanout$Result", "<init>", "(JJJJ)V"⟩ : MethodName) prog_8_method_1_code 9 none :: ws) ({ frames := 2, cells := 0, slots := 0, locals := 24 } : Room)) (fun a U => a = #[(.ref a1), (.long x2), (.long x3), (.long x4), (.long x5)] ∧ Z.Warmed39 U.vm ∧ U.heap = h0) (fun _ _ _ _ _ => True) (fun _ U o U' => ∃ v L, o = .returned v ∧ Q_rmI Z a1 x2 x3 x4 x5 h0 n0 v U'.heap L ∧ FrameEnd U o U' L ({ frames := 2, cells := 0, slots := 0, locals := 24 } : Room).cells ({ frames := 2, cells := 0, slots := 0, locals := 24 } : Room).slots) := by
  refine MetFree.of_bodySF (plainFor_of_name pn_1) hisR ?_
  intro p e s m args below meth c s₁ Bd hml0 hP hK
  obtain ⟨rfl, hZ, hh⟩ := hP
  have hx := Bd.exec
  have hby := Bd.bytes
  have hml : c.maxLocals = 9 := hml0
  have hown : s.vm.findClass "com/example/carbonfold/carbonfold/bench/Fanout$Result" = some m.cls := findClass_of_methodNamed Bd.named
  have hnm := (name_of_methodNamed Bd.named Bd.method).1
  have X0 : Stand p l e ({ frames := 2, cells := 0, slots := 0, locals := 24 } : Room) s m #[(.ref a1), (.long x2), (.long x3), (.long x4), (.long x5)] below meth c s₁ [] 0 0 := Stand.of_body Bd
  have e0 : s₁.heap = h0 := by rw [← hh, Bd.state]; rfl
  have N0 := Fr.nil n0
  have pre0 : ∀ t, Steps p.tables e below (s₁.setTop (mkF m 0 #[.val (.ref a1), .val (.long x2), .second, .val (.long x3), .second, .val (.long x4), .second, .val (.long x5), .second] [])) t → Steps p.tables e below (s₁.setTop (entryFrame m #[(.ref a1), (.long x2), (.long x3), (.long x4), (.long x5)] 9)) t := fun t k => castTop (ef_1 m a1 x2 x3 x4 x5) k
  obtain ⟨_, _, ⟨T1, L1, k1, n1⟩, -, X1, ⟨Lc1, hQ1, l1, y1, z1⟩, st1⟩ := X0.specialBack hx (y := (⟨"java/lang/Record", "<init>", "()V"⟩ : MethodName)) rfl hown (mvT hZ (hw _ (List.mem_of_getElem? (i := 6) rfl))) (mvT hZ (hw _ (List.mem_of_getElem? (i := 7) rfl))) (mvT hZ (hw _ (List.mem_of_getElem? (i := 10) rfl))) (by decide) (backOf (W := 0) (rmR l Z a0 hw [] a1 h0 n0 O0) hZ (hw _ (List.mem_of_getElem? (i := 10) rfl)) (hw _ (List.mem_of_getElem? (i := 9) rfl)) (by decide) (by decide)) (g := (mkF m 1 #[.val (.ref a1), .val (.long x2), .second, .val (.long x3), .second, .val (.long x4), .second, .val (.long x5), .second] [(.ref a1)])) rfl (by rw [hml]; rfl) (Steps.refl _) (a := a1) (argsL := []) (rest := []) (lenOf pd_0 rfl) rfl (by show 2 * 0 + _ ≤ _; exact Nat.le_of_eq rfl) (hb hby dc1_1) (fun _ _ => ⟨rfl, e0, (by decide : 0 + 0 ≤ _), (by decide : 0 + 0 ≤ _)⟩)
  dsimp only [Pt.U, Pt.locs, Pt.cells, Pt.slots] at X1 l1 y1 z1 st1 hQ1
  subst l1 y1 z1
  obtain ⟨rfl, N1q, hh1⟩ := hQ1
  have N1 := Fr.app N0 N1q
  obtain ⟨T2, h2, X2, e2, W2, st2⟩ := putF X1 hx hZ hown (host := "") (Or.inl (hw _ (List.mem_of_getElem? (i := 14) rfl))) Via.refl hh1 F_expected E1 (Or.inr ⟨(hw _ (List.mem_of_getElem? (i := 15) rfl)), rfl, hnm⟩) (hw _ (List.mem_of_getElem? (i := 1) rfl)) (ty := .long) (by decide) rfl rfl (g := (mkF m 6 #[.val (.ref a1), .val (.long x2), .second, .val (.long x3), .second, .val (.long x4), .second, .val (.long x5), .second] [(.long x2), (.ref a1)])) rfl rfl (hb hby dc1_6)
  have Fw2 : Fld Z h2 a1 "com/example/carbonfold/carbonfold/bench/Fanout$Result" "expected" "J" (.long x2) := Fld.same W2 F_expected
  have N2 := Fr.snoc X2 N1 g1
  have f3 := (E1.wr W2)
  have f4 := (F_seen.other W2 (Or.inr (slot_ne (Or.inr (hw _ (List.mem_of_getElem? (i := 17) rfl))) (Or.inr (hw _ (List.mem_of_getElem? (i := 15) rfl))) (by decide) (t := .long) (t' := .long) (by decide) (by decide))))
  obtain ⟨T5, h5, X5, e5, W5, st5⟩ := putF X2 hx hZ hown (host := "") (Or.inl (hw _ (List.mem_of_getElem? (i := 16) rfl))) Via.refl e2 f4 f3 (Or.inr ⟨(hw _ (List.mem_of_getElem? (i := 17) rfl)), rfl, hnm⟩) (hw _ (List.mem_of_getElem? (i := 1) rfl)) (ty := .long) (by decide) rfl rfl (g := (mkF m 11 #[.val (.ref a1), .val (.long x2), .second, .val (.long x3), .second, .val (.long x4), .second, .val (.long x5), .second] [(.long x3), (.ref a1)])) rfl rfl (hb hby dc1_11)
  have Fw5 : Fld Z h5 a1 "com/example/carbonfold/carbonfold/bench/Fanout$Result" "seen" "J" (.long x3) := Fld.same W5 f4
  have N5 := Fr.snoc X5 N2 g1
  have f6 := (f3.wr W5)
  have f7 := ((F_extra.other W2 (Or.inr (slot_ne (Or.inr (hw _ (List.mem_of_getElem? (i := 19) rfl))) (Or.inr (hw _ (List.mem_of_getElem? (i := 15) rfl))) (by decide) (t := .long) (t' := .long) (by decide) (by decide)))).other W5 (Or.inr (slot_ne (Or.inr (hw _ (List.mem_of_getElem? (i := 19) rfl))) (Or.inr (hw _ (List.mem_of_getElem? (i := 17) rfl))) (by decide) (t := .long) (t' := .long) (by decide) (by decide))))
  obtain ⟨T8, h8, X8, e8, W8, st8⟩ := putF X5 hx hZ hown (host := "") (Or.inl (hw _ (List.mem_of_getElem? (i := 18) rfl))) Via.refl e5 f7 f6 (Or.inr ⟨(hw _ (List.mem_of_getElem? (i := 19) rfl)), rfl, hnm⟩) (hw _ (List.mem_of_getElem? (i := 1) rfl)) (ty := .long) (by decide) rfl rfl (g := (mkF m 17 #[.val (.ref a1), .val (.long x2), .second, .val (.long x3), .second, .val (.long x4), .second, .val (.long x5), .second] [(.long x4), (.ref a1)])) rfl rfl (hb hby dc1_17)
  have Fw8 : Fld Z h8 a1 "com/example/carbonfold/carbonfold/bench/Fanout$Result" "extra" "J" (.long x4) := Fld.same W8 f7
  have N8 := Fr.snoc X8 N5 g1
  have f9 := (f6.wr W8)
  have f10 := (((F_nanos.other W2 (Or.inr (slot_ne (Or.inr (hw _ (List.mem_of_getElem? (i := 21) rfl))) (Or.inr (hw _ (List.mem_of_getElem? (i := 15) rfl))) (by decide) (t := .long) (t' := .long) (by decide) (by decide)))).other W5 (Or.inr (slot_ne (Or.inr (hw _ (List.mem_of_getElem? (i := 21) rfl))) (Or.inr (hw _ (List.mem_of_getElem? (i := 17) rfl))) (by decide) (t := .long) (t' := .long) (by decide) (by decide)))).other W8 (Or.inr (slot_ne (Or.inr (hw _ (List.mem_of_getElem? (i := 21) rfl))) (Or.inr (hw _ (List.mem_of_getElem? (i := 19) rfl))) (by decide) (t := .long) (t' := .long) (by decide) (by decide))))
  obtain ⟨T11, h11, X11, e11, W11, st11⟩ := putF X8 hx hZ hown (host := "") (Or.inl (hw _ (List.mem_of_getElem? (i := 20) rfl))) Via.refl e8 f10 f9 (Or.inr ⟨(hw _ (List.mem_of_getElem? (i := 21) rfl)), rfl, hnm⟩) (hw _ (List.mem_of_getElem? (i := 1) rfl)) (ty := .long) (by decide) rfl rfl (g := (mkF m 23 #[.val (.ref a1), .val (.long x2), .second, .val (.long x3), .second, .val (.long x4), .second, .val (.long x5), .second] [(.long x5), (.ref a1)])) rfl rfl (hb hby dc1_23)
  have Fw11 : Fld Z h11 a1 "com/example/carbonfold/carbonfold/bench/Fanout$Result" "nanos" "J" (.long x5) := Fld.same W11 f10
  have N11 := Fr.snoc X11 N8 g1
  obtain ⟨fs, hr, hrun, hended, hW, hsame⟩ := X11.leave (v := none) (fun _ => rfl)
  have K12 : Keep h0 h11 [a1] := (Keep.wr (Keep.wr (Keep.wr (Keep.wr (Keep.refl h0 [a1]) W2 (Or.inl (List.mem_of_getElem? (i := 0) rfl))) W5 (Or.inl (List.mem_of_getElem? (i := 0) rfl))) W8 (Or.inl (List.mem_of_getElem? (i := 0) rfl))) W11 (Or.inl (List.mem_of_getElem? (i := 0) rfl)))
  have f13 := (f9.wr W11)
  have f14 := (((Fw2.other W5 (Or.inr (slot_ne (Or.inr (hw _ (List.mem_of_getElem? (i := 15) rfl))) (Or.inr (hw _ (List.mem_of_getElem? (i := 17) rfl))) (by decide) (t := .long) (t' := .long) (by decide) (by decide)))).other W8 (Or.inr (slot_ne (Or.inr (hw _ (List.mem_of_getElem? (i := 15) rfl))) (Or.inr (hw _ (List.mem_of_getElem? (i := 19) rfl))) (by decide) (t := .long) (t' := .long) (by decide) (by decide)))).other W11 (Or.inr (slot_ne (Or.inr (hw _ (List.mem_of_getElem? (i := 15) rfl))) (Or.inr (hw _ (List.mem_of_getElem? (i := 21) rfl))) (by decide) (t := .long) (t' := .long) (by decide) (by decide))))
  have f15 := ((Fw5.other W8 (Or.inr (slot_ne (Or.inr (hw _ (List.mem_of_getElem? (i := 17) rfl))) (Or.inr (hw _ (List.mem_of_getElem? (i := 19) rfl))) (by decide) (t := .long) (t' := .long) (by decide) (by decide)))).other W11 (Or.inr (slot_ne (Or.inr (hw _ (List.mem_of_getElem? (i := 17) rfl))) (Or.inr (hw _ (List.mem_of_getElem? (i := 21) rfl))) (by decide) (t := .long) (t' := .long) (by decide) (by decide))))
  have f16 := (Fw8.other W11 (Or.inr (slot_ne (Or.inr (hw _ (List.mem_of_getElem? (i := 19) rfl))) (Or.inr (hw _ (List.mem_of_getElem? (i := 21) rfl))) (by decide) (t := .long) (t' := .long) (by decide) (by decide))))
  refine ⟨_, _, pre0 _ ?_, hrun, hended, _, _, rfl, ?_, ⟨_, rfl⟩, hW, hsame.mono (by decide) (by decide)⟩
  · skip
    show Steps p.tables e below (s₁.setTop (mkF m 0 #[.val (.ref a1), .val (.long x2), .second, .val (.long x3), .second, .val (.long x4), .second, .val (.long x5), .second] [])) _
    refine XS.aloadN X0.here hx rfl (hb hby dc1_0) rfl rfl ?_
    show Steps p.tables e below (s₁.setTop (mkF m 1 #[.val (.ref a1), .val (.long x2), .second, .val (.long x3), .second, .val (.long x4), .second, .val (.long x5), .second] [(.ref a1)])) _
    refine st1.trans ?_
    show Steps p.tables e below (T1.setTop (mkF m 4 #[.val (.ref a1), .val (.long x2), .second, .val (.long x3), .second, .val (.long x4), .second, .val (.long x5), .second] [])) _
    refine XS.aloadN X1.here hx rfl (hb hby dc1_4) rfl rfl ?_
    show Steps p.tables e below (T1.setTop (mkF m 5 #[.val (.ref a1), .val (.long x2), .second, .val (.long x3), .second, .val (.long x4), .second, .val (.long x5), .second] [(.ref a1)])) _
    refine XS.lloadN X1.here hx rfl (hb hby dc1_5) rfl ?_
    show Steps p.tables e below (T1.setTop (mkF m 6 #[.val (.ref a1), .val (.long x2), .second, .val (.long x3), .second, .val (.long x4), .second, .val (.long x5), .second] [(.long x2), (.ref a1)])) _
    refine st2 _ ?_
    show Steps p.tables e below (T2.setTop (mkF m 9 #[.val (.ref a1), .val (.long x2), .second, .val (.long x3), .second, .val (.long x4), .second, .val (.long x5), .second] [])) _
    refine XS.aloadN X2.here hx rfl (hb hby dc1_9) rfl rfl ?_
    show Steps p.tables e below (T2.setTop (mkF m 10 #[.val (.ref a1), .val (.long x2), .second, .val (.long x3), .second, .val (.long x4), .second, .val (.long x5), .second] [(.ref a1)])) _
    refine XS.lloadN X2.here hx rfl (hb hby dc1_10) rfl ?_
    show Steps p.tables e below (T2.setTop (mkF m 11 #[.val (.ref a1), .val (.long x2), .second, .val (.long x3), .second, .val (.long x4), .second, .val (.long x5), .second] [(.long x3), (.ref a1)])) _
    refine st5 _ ?_
    show Steps p.tables e below (T5.setTop (mkF m 14 #[.val (.ref a1), .val (.long x2), .second, .val (.long x3), .second, .val (.long x4), .second, .val (.long x5), .second] [])) _
    refine XS.aloadN X5.here hx rfl (hb hby dc1_14) rfl rfl ?_
    show Steps p.tables e below (T5.setTop (mkF m 15 #[.val (.ref a1), .val (.long x2), .second, .val (.long x3), .second, .val (.long x4), .second, .val (.long x5), .second] [(.ref a1)])) _
    refine XS.lload X5.here hx rfl (hb hby dc1_15) rfl ?_
    show Steps p.tables e below (T5.setTop (mkF m 17 #[.val (.ref a1), .val (.long x2), .second, .val (.long x3), .second, .val (.long x4), .second, .val (.long x5), .second] [(.long x4), (.ref a1)])) _
    refine st8 _ ?_
    show Steps p.tables e below (T8.setTop (mkF m 20 #[.val (.ref a1), .val (.long x2), .second, .val (.long x3), .second, .val (.long x4), .second, .val (.long x5), .second] [])) _
    refine XS.aloadN X8.here hx rfl (hb hby dc1_20) rfl rfl ?_
    show Steps p.tables e below (T8.setTop (mkF m 21 #[.val (.ref a1), .val (.long x2), .second, .val (.long x3), .second, .val (.long x4), .second, .val (.long x5), .second] [(.ref a1)])) _
    refine XS.lload X8.here hx rfl (hb hby dc1_21) rfl ?_
    show Steps p.tables e below (T8.setTop (mkF m 23 #[.val (.ref a1), .val (.long x2), .second, .val (.long x3), .second, .val (.long x4), .second, .val (.long x5), .second] [(.long x5), (.ref a1)])) _
    refine st11 _ ?_
    show Steps p.tables e below (T11.setTop (mkF m 26 #[.val (.ref a1), .val (.long x2), .second, .val (.long x3), .second, .val (.long x4), .second, .val (.long x5), .second] [])) _
    exact X11.returnOut hx Bd.returns (hb hby dc1_26) hr
  · show Q_rmI Z a1 x2 x3 x4 x5 h0 n0 _ T11.heap _
    rw [e11]
    exact ⟨rfl, N11, K12, f13, f14, f15, f16, Fw11⟩
theorem dc2_0 : decode prog_8_method_3_code 0 = .ok (.aload_n 0, 1) := by decide +kernel
theorem dc2_1 : decode prog_8_method_3_code 1 = .ok (.getfield 13, 3) := by decide +kernel
theorem dc2_4 : decode prog_8_method_3_code 4 = .ok (.aload_n 0, 1) := by decide +kernel
theorem dc2_5 : decode prog_8_method_3_code 5 = .ok (.getfield 7, 3) := by decide +kernel
theorem dc2_8 : decode prog_8_method_3_code 8 = .ok (.lcmp, 1) := by decide +kernel
theorem dc2_9 : decode prog_8_method_3_code 9 = .ok (.ifCond .ne 16, 3) := by decide +kernel
theorem dc2_12 : decode prog_8_method_3_code 12 = .ok (.aload_n 0, 1) := by decide +kernel
theorem dc2_13 : decode prog_8_method_3_code 13 = .ok (.getfield 16, 3) := by decide +kernel
theorem dc2_16 : decode prog_8_method_3_code 16 = .ok (.lconst 0, 1) := by decide +kernel
theorem dc2_17 : decode prog_8_method_3_code 17 = .ok (.lcmp, 1) := by decide +kernel
theorem dc2_18 : decode prog_8_method_3_code 18 = .ok (.ifCond .ne 7, 3) := by decide +kernel
theorem dc2_21 : decode prog_8_method_3_code 21 = .ok (.iconst 1, 1) := by decide +kernel
theorem dc2_22 : decode prog_8_method_3_code 22 = .ok (.goto 4, 3) := by decide +kernel
theorem dc2_26 : decode prog_8_method_3_code 26 = .ok (.ireturn, 1) := by decide +kernel
theorem dc2_25 : decode prog_8_method_3_code 25 = .ok (.iconst 0, 1) := by decide +kernel
set_option maxRecDepth 65536 in
set_option maxHeartbeats 40000000 in
theorem rmC (l : Launch) (Z : State) (a0 : Array Value) (hw : ∀ d ∈ tables_1, d.before a0 Z = true) (ws : List Jvm.Cond) (a1 : Addr) (x2 x3 x4 : Int64) (h0 : Heap) (n0 : Nat) (O0 : Old Z n0 h0) (F_expected : Fld Z h0 a1 "com/example/carbonfold/carbonfold/bench/Fanout$Result" "expected" "J" (.long x2)) (F_seen : Fld Z h0 a1 "com/example/carbonfold/carbonfold/bench/Fanout$Result" "seen" "J" (.long x3)) (F_extra : Fld Z h0 a1 "com/example/carbonfold/carbonfold/bench/Fanout$Result" "extra" "J" (.long x4)) :
    MetFree l (⟨"com/example/carbonfold/carbonfold/bench/Fanout$Result", "complete", "()Z"⟩ : MethodName) (head1 (Jvm.Cond.code (⟨"com/example/carbonfold/carbonfold/bench/Fanout$Result", "complete", "()Z"⟩ : MethodName) prog_8_method_3_code 1 (some .boolean) :: ws) ({ frames := 0, cells := 0, slots := 0, locals := 0 } : Room)) (fun a U => a = #[(.ref a1)] ∧ Z.Warmed39 U.vm ∧ U.heap = h0) (fun _ _ _ _ _ => True) (fun _ U o U' => ∃ v L, o = .returned v ∧ Q1 x2 x3 x4 h0 n0 v U'.heap L ∧ FrameEnd U o U' L ({ frames := 0, cells := 0, slots := 0, locals := 0 } : Room).cells ({ frames := 0, cells := 0, slots := 0, locals := 0 } : Room).slots) := by
  refine MetFree.of_bodySF (plainFor_of_name pn_1) hisR ?_
  intro p e s m args below meth c s₁ Bd hml0 hP hK
  obtain ⟨rfl, hZ, hh⟩ := hP
  have hx := Bd.exec
  have hby := Bd.bytes
  have hml : c.maxLocals = 1 := hml0
  have hown : s.vm.findClass "com/example/carbonfold/carbonfold/bench/Fanout$Result" = some m.cls := findClass_of_methodNamed Bd.named
  have hnm := (name_of_methodNamed Bd.named Bd.method).1
  have X0 : Stand p l e ({ frames := 0, cells := 0, slots := 0, locals := 0 } : Room) s m #[(.ref a1)] below meth c s₁ [] 0 0 := Stand.of_body Bd
  have e0 : s₁.heap = h0 := by rw [← hh, Bd.state]; rfl
  have N0 := Fr.nil n0
  have pre0 : ∀ t, Steps p.tables e below (s₁.setTop (mkF m 0 #[.val (.ref a1)] [])) t → Steps p.tables e below (s₁.setTop (entryFrame m #[(.ref a1)] 1)) t := fun t k => castTop (ef_0 m a1) k
  obtain ⟨T1, X1, e1, st1⟩ := getF X0 hx hZ hown (host := "") (Or.inl (hw _ (List.mem_of_getElem? (i := 16) rfl))) Via.refl e0 F_seen (g := (mkF m 1 #[.val (.ref a1)] [(.ref a1)])) rfl rfl (hb hby dc2_1)
  obtain ⟨T2, X2, e2, st2⟩ := getF X1 hx hZ hown (host := "") (Or.inl (hw _ (List.mem_of_getElem? (i := 14) rfl))) Via.refl e1 F_expected (g := (mkF m 5 #[.val (.ref a1)] [(.ref a1), (.long x3)])) rfl rfl (hb hby dc2_5)
  have pre3 : ∀ t, Steps p.tables e below (T2.setTop (mkF m 9 #[.val (.ref a1)] [(.int (lcmpW x3 x2))])) t → Steps p.tables e below (s₁.setTop (entryFrame m #[(.ref a1)] 1)) t := fun t kt => pre0 t (by
      show Steps p.tables e below (s₁.setTop (mkF m 0 #[.val (.ref a1)] [])) _
      refine XS.aloadN X0.here hx rfl (hb hby dc2_0) rfl rfl ?_
      show Steps p.tables e below (s₁.setTop (mkF m 1 #[.val (.ref a1)] [(.ref a1)])) _
      refine st1 _ ?_
      show Steps p.tables e below (T1.setTop (mkF m 4 #[.val (.ref a1)] [(.long x3)])) _
      refine XS.aloadN X1.here hx rfl (hb hby dc2_4) rfl rfl ?_
      show Steps p.tables e below (T1.setTop (mkF m 5 #[.val (.ref a1)] [(.ref a1), (.long x3)])) _
      refine st2 _ ?_
      show Steps p.tables e below (T2.setTop (mkF m 8 #[.val (.ref a1)] [(.long x2), (.long x3)])) _
      refine XS.lcmp X2.here hx rfl (hb hby dc2_8) rfl ?_
      exact kt)
  by_cases hc4 : x3 = x2
  · skip
    obtain ⟨T5, X5, e5, st5⟩ := getF X2 hx hZ hown (host := "") (Or.inl (hw _ (List.mem_of_getElem? (i := 18) rfl))) Via.refl e2 F_extra (g := (mkF m 13 #[.val (.ref a1)] [(.ref a1)])) rfl rfl (hb hby dc2_13)
    have pre6 : ∀ t, Steps p.tables e below (T5.setTop (mkF m 18 #[.val (.ref a1)] [(.int (lcmpW x4 (0 : Int64)))])) t → Steps p.tables e below (s₁.setTop (entryFrame m #[(.ref a1)] 1)) t := fun t kt => pre3 t (by
        show Steps p.tables e below (T2.setTop (mkF m 9 #[.val (.ref a1)] [(.int (lcmpW x3 x2))])) _
        refine XS.ifNo X2.here hx rfl (hb hby dc2_9) rfl ((if0 _ _).trans (teq ((lw_eq _ _).mpr hc4)).2) ?_
        show Steps p.tables e below (T2.setTop (mkF m 12 #[.val (.ref a1)] [])) _
        refine XS.aloadN X2.here hx rfl (hb hby dc2_12) rfl rfl ?_
        show Steps p.tables e below (T2.setTop (mkF m 13 #[.val (.ref a1)] [(.ref a1)])) _
        refine st5 _ ?_
        show Steps p.tables e below (T5.setTop (mkF m 16 #[.val (.ref a1)] [(.long x4)])) _
        refine XS.lconst X5.here hx rfl (hb hby dc2_16) ?_
        show Steps p.tables e below (T5.setTop (mkF m 17 #[.val (.ref a1)] [(.long (0 : Int64)), (.long x4)])) _
        refine XS.lcmp X5.here hx rfl (hb hby dc2_17) rfl ?_
        exact kt)
    by_cases hc7 : x4 = (0 : Int64)
    · skip
      obtain ⟨fs, hr, hrun, hended, hW, hsame⟩ := X5.leave (v := some (.int (1 : Int32))) (fun h => by rw [Bd.returns] at h; cases h)
      refine ⟨_, _, pre6 _ ?_, hrun, hended, _, _, rfl, ?_, ⟨_, rfl⟩, hW, hsame.mono (by decide) (by decide)⟩
      · skip
        show Steps p.tables e below (T5.setTop (mkF m 18 #[.val (.ref a1)] [(.int (lcmpW x4 (0 : Int64)))])) _
        refine XS.ifNo X5.here hx rfl (hb hby dc2_18) rfl ((if0 _ _).trans (teq ((lw_eq _ _).mpr hc7)).2) ?_
        show Steps p.tables e below (T5.setTop (mkF m 21 #[.val (.ref a1)] [])) _
        refine XS.iconst X5.here hx rfl (hb hby dc2_21) ?_
        show Steps p.tables e below (T5.setTop (mkF m 22 #[.val (.ref a1)] [(.int (1 : Int32))])) _
        refine XS.goto X5.here hx rfl (pc0 := 22) (pc' := 26) rfl (hb hby dc2_22) (by decide) (by decide) ?_
        show Steps p.tables e below (T5.setTop (mkF m 26 #[.val (.ref a1)] [(.int (1 : Int32))])) _
        exact retN X5 hx (t := .boolean) Bd.returns (by simp) (hb hby dc2_26) hr
      · show Q1 x2 x3 x4 h0 n0 _ T5.heap _
        rw [e5]
        exact ⟨by simp [own_c, hc4, hc7], N0, rfl⟩
    · skip
      obtain ⟨fs, hr, hrun, hended, hW, hsame⟩ := X5.leave (v := some (.int (0 : Int32))) (fun h => by rw [Bd.returns] at h; cases h)
      refine ⟨_, _, pre6 _ ?_, hrun, hended, _, _, rfl, ?_, ⟨_, rfl⟩, hW, hsame.mono (by decide) (by decide)⟩
      · skip
        show Steps p.tables e below (T5.setTop (mkF m 18 #[.val (.ref a1)] [(.int (lcmpW x4 (0 : Int64)))])) _
        refine XS.ifYes X5.here hx rfl (pc0 := 18) (pc' := 25) rfl (hb hby dc2_18) rfl ((if0 _ _).trans (feq (mt (lw_eq _ _).mp hc7)).2) (by decide) (by decide) ?_
        show Steps p.tables e below (T5.setTop (mkF m 25 #[.val (.ref a1)] [])) _
        refine XS.iconst X5.here hx rfl (hb hby dc2_25) ?_
        show Steps p.tables e below (T5.setTop (mkF m 26 #[.val (.ref a1)] [(.int (0 : Int32))])) _
        exact retN X5 hx (t := .boolean) Bd.returns (by simp) (hb hby dc2_26) hr
      · show Q1 x2 x3 x4 h0 n0 _ T5.heap _
        rw [e5]
        exact ⟨by simp [own_c, hc4, hc7], N0, rfl⟩
  · skip
    obtain ⟨fs, hr, hrun, hended, hW, hsame⟩ := X2.leave (v := some (.int (0 : Int32))) (fun h => by rw [Bd.returns] at h; cases h)
    refine ⟨_, _, pre3 _ ?_, hrun, hended, _, _, rfl, ?_, ⟨_, rfl⟩, hW, hsame.mono (by decide) (by decide)⟩
    · skip
      show Steps p.tables e below (T2.setTop (mkF m 9 #[.val (.ref a1)] [(.int (lcmpW x3 x2))])) _
      refine XS.ifYes X2.here hx rfl (pc0 := 9) (pc' := 25) rfl (hb hby dc2_9) rfl ((if0 _ _).trans (feq (mt (lw_eq _ _).mp hc4)).2) (by decide) (by decide) ?_
      show Steps p.tables e below (T2.setTop (mkF m 25 #[.val (.ref a1)] [])) _
      refine XS.iconst X2.here hx rfl (hb hby dc2_25) ?_
      show Steps p.tables e below (T2.setTop (mkF m 26 #[.val (.ref a1)] [(.int (0 : Int32))])) _
      exact retN X2 hx (t := .boolean) Bd.returns (by simp) (hb hby dc2_26) hr
    · show Q1 x2 x3 x4 h0 n0 _ T2.heap _
      rw [e2]
      exact ⟨by simp [own_c, hc4], N0, rfl⟩
theorem pn_2 : plainName "com/example/carbonfold/carbonfold/bench/ResultCompletePinLaw" = true := by first | (simp [plainName, overriddenIn]; done) | decide +kernel
theorem ef_2 (m : MethodId) (x0 : Int64) (x1 : Int64) (x2 : Int64) (x3 : Int64) (x4 : Int32) : entryFrame m #[(.long x0), (.long x1), (.long x2), (.long x3), (.int x4)] maxLocals = mkF m 0 #[.val (.long x0), .second, .val (.long x1), .second, .val (.long x2), .second, .val (.long x3), .second, .val (.int x4), .unset, .unset, .unset, .unset, .unset, .unset, .unset] [] := by first | (simp [entryFrame, mkF, argsToLocals, Value.category, maxLocals]; done) | rfl
theorem pd_1 : parseMethodDescriptor "(JJJJ)V" = some ⟨[.long, .long, .long, .long], none⟩ := by decide +kernel
theorem pd_2 : parseMethodDescriptor "()Z" = some ⟨[], some .boolean⟩ := by decide +kernel
set_option maxRecDepth 65536 in
set_option maxHeartbeats 40000000 in
theorem rm0 (l : Launch) (Z : State) (a0 : Array Value) (hw : ∀ d ∈ tables_1, d.before a0 Z = true) (ws : List Jvm.Cond) (i0 i1 i2 i3 : Int64) (i4 : Int32) (h0 : Heap) (n0 : Nat) (O0 : Old Z n0 h0) :
    MetFree l x (head1 (Jvm.Cond.code x code maxLocals ret :: ws) room_1) (fun a U => a = #[(.long i0), (.long i1), (.long i2), (.long i3), (.int i4)] ∧ Z.Warmed39 U.vm ∧ U.heap = h0) (fun _ _ _ _ _ => True) (fun _ U o U' => ∃ v L, o = .returned v ∧ QL n0 v U'.heap L ∧ FrameEnd U o U' L room_1.cells room_1.slots) := by
  refine MetFree.of_bodySF (plainFor_of_name pn_2) hisR ?_
  intro p e s m args below meth c s₁ Bd hml0 hP hK
  obtain ⟨rfl, hZ, hh⟩ := hP
  have hx := Bd.exec
  have hby := Bd.bytes
  have hml : c.maxLocals = 16 := hml0
  have hown : s.vm.findClass "com/example/carbonfold/carbonfold/bench/ResultCompletePinLaw" = some m.cls := findClass_of_methodNamed Bd.named
  have hnm := (name_of_methodNamed Bd.named Bd.method).1
  have X0 : Stand p l e room_1 s m #[(.long i0), (.long i1), (.long i2), (.long i3), (.int i4)] below meth c s₁ [] 0 0 := Stand.of_body Bd
  have e0 : s₁.heap = h0 := by rw [← hh, Bd.state]; rfl
  have N0 := Fr.nil n0
  have pre0 : ∀ t, Steps p.tables e below (s₁.setTop (mkF m 0 #[.val (.long i0), .second, .val (.long i1), .second, .val (.long i2), .second, .val (.long i3), .second, .val (.int i4), .unset, .unset, .unset, .unset, .unset, .unset, .unset] [])) t → Steps p.tables e below (s₁.setTop (entryFrame m #[(.long i0), (.long i1), (.long i2), (.long i3), (.int i4)] maxLocals)) t := fun t k => castTop (ef_2 m i0 i1 i2 i3 i4) k
  have pre1 : ∀ t, Steps p.tables e below (s₁.setTop (mkF m 8 #[.val (.long i0), .second, .val (.long i1), .second, .val (.long i2), .second, .val (.long i3), .second, .val (.int i4), .val (.int (i4 &&& (3 : Int32))), .unset, .unset, .unset, .unset, .unset, .unset] [(.int (i4 &&& (3 : Int32)))])) t → Steps p.tables e below (s₁.setTop (entryFrame m #[(.long i0), (.long i1), (.long i2), (.long i3), (.int i4)] maxLocals)) t := fun t kt => pre0 t (by
      show Steps p.tables e below (s₁.setTop (mkF m 0 #[.val (.long i0), .second, .val (.long i1), .second, .val (.long i2), .second, .val (.long i3), .second, .val (.int i4), .unset, .unset, .unset, .unset, .unset, .unset, .unset] [])) _
      refine XS.iload X0.here hx rfl (hb hby at_0) rfl ?_
      show Steps p.tables e below (s₁.setTop (mkF m 2 #[.val (.long i0), .second, .val (.long i1), .second, .val (.long i2), .second, .val (.long i3), .second, .val (.int i4), .unset, .unset, .unset, .unset, .unset, .unset, .unset] [(.int i4)])) _
      refine XS.iconst X0.here hx rfl (hb hby at_2) ?_
      show Steps p.tables e below (s₁.setTop (mkF m 3 #[.val (.long i0), .second, .val (.long i1), .second, .val (.long i2), .second, .val (.long i3), .second, .val (.int i4), .unset, .unset, .unset, .unset, .unset, .unset, .unset] [(.int (3 : Int32)), (.int i4)])) _
      refine XS.iand X0.here hx rfl (hb hby at_3) rfl ?_
      show Steps p.tables e below (s₁.setTop (mkF m 4 #[.val (.long i0), .second, .val (.long i1), .second, .val (.long i2), .second, .val (.long i3), .second, .val (.int i4), .unset, .unset, .unset, .unset, .unset, .unset, .unset] [(.int (i4 &&& (3 : Int32)))])) _
      refine XS.istore X0.here hx rfl (hb hby at_4) rfl (l' := #[.val (.long i0), .second, .val (.long i1), .second, .val (.long i2), .second, .val (.long i3), .second, .val (.int i4), .val (.int (i4 &&& (3 : Int32))), .unset, .unset, .unset, .unset, .unset, .unset]) rfl ?_
      show Steps p.tables e below (s₁.setTop (mkF m 6 #[.val (.long i0), .second, .val (.long i1), .second, .val (.long i2), .second, .val (.long i3), .second, .val (.int i4), .val (.int (i4 &&& (3 : Int32))), .unset, .unset, .unset, .unset, .unset, .unset] [])) _
      refine XS.iload X0.here hx rfl (hb hby at_6) rfl ?_
      exact kt)
  by_cases hc2 : (i4 &&& (3 : Int32)) = (0 : Int32)
  · skip
    obtain ⟨T3, h3, X3, e3, E3, A3, D3, -, st3⟩ := newO X0 hx hZ hown (hw _ (List.mem_of_getElem? (i := 0) rfl)) (hw _ (List.mem_of_getElem? (i := 1) rfl)) (hw _ (List.mem_of_getElem? (i := 2) rfl)) e0 (g := (mkF m 105 #[.val (.long i0), .second, .val (.long i1), .second, .val (.long i2), .second, .val (.long i3), .second, .val (.int i4), .val (.int (i4 &&& (3 : Int32))), .val (.long i0), .second, .val (.long (0 : Int64)), .second, .val (.int (1 : Int32)), .unset] [])) rfl (hb hby at_105) (by decide) (by decide)
    obtain ⟨b3, g3⟩ : ∃ z, z = h0.size := ⟨_, rfl⟩
    rw [← g3] at A3 D3 st3
    have gb3 : n0 ≤ b3 := by rw [g3, ← O0.1]; exact O0.2.1
    have F3_expected : Fld Z h3 b3 "com/example/carbonfold/carbonfold/bench/Fanout$Result" "expected" "J" (.long (0 : Int64)) := D3 (Or.inr (hw _ (List.mem_of_getElem? (i := 15) rfl))) (ty := .long) (by decide)
    have F3_seen : Fld Z h3 b3 "com/example/carbonfold/carbonfold/bench/Fanout$Result" "seen" "J" (.long (0 : Int64)) := D3 (Or.inr (hw _ (List.mem_of_getElem? (i := 17) rfl))) (ty := .long) (by decide)
    have F3_extra : Fld Z h3 b3 "com/example/carbonfold/carbonfold/bench/Fanout$Result" "extra" "J" (.long (0 : Int64)) := D3 (Or.inr (hw _ (List.mem_of_getElem? (i := 19) rfl))) (ty := .long) (by decide)
    have F3_nanos : Fld Z h3 b3 "com/example/carbonfold/carbonfold/bench/Fanout$Result" "nanos" "J" (.long (0 : Int64)) := D3 (Or.inr (hw _ (List.mem_of_getElem? (i := 21) rfl))) (ty := .long) (by decide)
    have O4 : Old Z n0 h3 := (O0.ext E3)
    obtain ⟨_, _, ⟨T5, L5, k5, n5⟩, -, X5, ⟨Lc5, hQ5, l5, y5, z5⟩, st5⟩ := X3.specialBack hx (y := (⟨"com/example/carbonfold/carbonfold/bench/Fanout$Result", "<init>", "(JJJJ)V"⟩ : MethodName)) rfl hown (mvT hZ (hw _ (List.mem_of_getElem? (i := 3) rfl))) (mvT hZ (hw _ (List.mem_of_getElem? (i := 4) rfl))) (mvT hZ (hw _ (List.mem_of_getElem? (i := 5) rfl))) (by decide) (backOf (W := 1) (rmI l Z a0 hw [] b3 i0 i0 (0 : Int64) i3 h3 n0 O4 A3 F3_expected F3_seen F3_extra F3_nanos gb3) hZ (hw _ (List.mem_of_getElem? (i := 5) rfl)) (hw _ (List.mem_of_getElem? (i := 2) rfl)) (by decide) (by decide)) (g := (mkF m 116 #[.val (.long i0), .second, .val (.long i1), .second, .val (.long i2), .second, .val (.long i3), .second, .val (.int i4), .val (.int (i4 &&& (3 : Int32))), .val (.long i0), .second, .val (.long (0 : Int64)), .second, .val (.int (1 : Int32)), .unset] [(.long i3), (.long (0 : Int64)), (.long i0), (.long i0), (.ref b3), (.ref b3)])) rfl (by rw [hml]; rfl) (Steps.refl _) (a := b3) (argsL := [(.long i0), (.long i0), (.long (0 : Int64)), (.long i3)]) (rest := [(.ref b3)]) (lenOf pd_1 rfl) rfl (by show 2 * 0 + _ ≤ _; exact Nat.le_of_eq rfl) (hb hby at_116) (fun _ _ => ⟨rfl, e3, (by decide : 1 + 0 ≤ _), (by decide : 4 + 0 ≤ _)⟩)
    dsimp only [Pt.U, Pt.locs, Pt.cells, Pt.slots] at X5 l5 y5 z5 st5 hQ5
    subst l5 y5 z5
    obtain ⟨rfl, N5q, K5, Ex5, F5_expected, F5_seen, F5_extra, F5_nanos⟩ := hQ5
    have N5 := Fr.app N0 N5q
    have O6 : Old Z n0 T5.heap := (O4.keep K5 (allS gb3 all0))
    obtain ⟨cq7, kq7, q7a, q7b, q7c⟩ := isOf hZ rfl Ex5
    obtain ⟨_, _, ⟨T7, L7, k7, n7⟩, -, X7, ⟨Lc7, hQ7, l7, y7, z7⟩, st7⟩ := X5.virtualBack hx (y := (⟨"com/example/carbonfold/carbonfold/bench/Fanout$Result", "complete", "()Z"⟩ : MethodName)) (z := (⟨"com/example/carbonfold/carbonfold/bench/Fanout$Result", "complete", "()Z"⟩ : MethodName)) hown (mvT hZ (hw _ (List.mem_of_getElem? (i := 22) rfl))) (mvT hZ (hw _ (List.mem_of_getElem? (i := 23) rfl))) (notFace_of_selects (args := #[]) (mvT hZ (hw _ (List.mem_of_getElem? (i := 25) rfl)))) (mvT hZ (hw _ (List.mem_of_getElem? (i := 25) rfl))) (mvT hZ (hw _ (List.mem_of_getElem? (i := 24) rfl))) (by decide) (backOf (W := 0) (rmC l Z a0 hw [] b3 i0 i0 (0 : Int64) T5.heap n0 O6 F5_expected F5_seen F5_extra) hZ (hw _ (List.mem_of_getElem? (i := 26) rfl)) (hw _ (List.mem_of_getElem? (i := 2) rfl)) (by decide) (by decide)) q7a q7c (g := (mkF m 123 #[.val (.long i0), .second, .val (.long i1), .second, .val (.long i2), .second, .val (.long i3), .second, .val (.int i4), .val (.int (i4 &&& (3 : Int32))), .val (.long i0), .second, .val (.long (0 : Int64)), .second, .val (.int (1 : Int32)), .val (.ref b3)] [(.ref b3)])) rfl (by rw [hml]; rfl) (Steps.refl _) (argsL := []) (rest := []) (lenOf pd_2 rfl) rfl (by show 2 * 0 + _ ≤ _; exact Nat.le_of_eq rfl) (hb hby at_123) (fun _ _ => ⟨rfl, rfl, (by decide : 1 + 0 ≤ _), (by decide : 4 + 0 ≤ _)⟩)
    dsimp only [Pt.U, Pt.locs, Pt.cells, Pt.slots] at X7 l7 y7 z7 st7 hQ7
    subst l7 y7 z7
    obtain ⟨rfl, N7q, hh7⟩ := hQ7
    have N7 := Fr.app N5 N7q
    obtain ⟨fs, hr, hrun, hended, hW, hsame⟩ := X7.leave (v := some (.int (1 : Int32))) (fun h => by rw [Bd.returns] at h; cases h)
    refine ⟨_, _, pre1 _ ?_, hrun, hended, _, _, rfl, ?_, ⟨_, rfl⟩, hW, hsame.mono (by decide) (by decide)⟩
    · skip
      show Steps p.tables e below (s₁.setTop (mkF m 8 #[.val (.long i0), .second, .val (.long i1), .second, .val (.long i2), .second, .val (.long i3), .second, .val (.int i4), .val (.int (i4 &&& (3 : Int32))), .unset, .unset, .unset, .unset, .unset, .unset] [(.int (i4 &&& (3 : Int32)))])) _
      refine XS.ifNo X0.here hx rfl (hb hby at_8) rfl ((if0 _ _).trans (teq hc2).2) ?_
      show Steps p.tables e below (s₁.setTop (mkF m 11 #[.val (.long i0), .second, .val (.long i1), .second, .val (.long i2), .second, .val (.long i3), .second, .val (.int i4), .val (.int (i4 &&& (3 : Int32))), .unset, .unset, .unset, .unset, .unset, .unset] [])) _
      refine XS.lloadN X0.here hx rfl (hb hby at_11) rfl ?_
      show Steps p.tables e below (s₁.setTop (mkF m 12 #[.val (.long i0), .second, .val (.long i1), .second, .val (.long i2), .second, .val (.long i3), .second, .val (.int i4), .val (.int (i4 &&& (3 : Int32))), .unset, .unset, .unset, .unset, .unset, .unset] [(.long i0)])) _
      refine XS.lstore X0.here hx rfl (hb hby at_12) rfl (l' := #[.val (.long i0), .second, .val (.long i1), .second, .val (.long i2), .second, .val (.long i3), .second, .val (.int i4), .val (.int (i4 &&& (3 : Int32))), .val (.long i0), .second, .unset, .unset, .unset, .unset]) rfl ?_
      show Steps p.tables e below (s₁.setTop (mkF m 14 #[.val (.long i0), .second, .val (.long i1), .second, .val (.long i2), .second, .val (.long i3), .second, .val (.int i4), .val (.int (i4 &&& (3 : Int32))), .val (.long i0), .second, .unset, .unset, .unset, .unset] [])) _
      refine XS.lconst X0.here hx rfl (hb hby at_14) ?_
      show Steps p.tables e below (s₁.setTop (mkF m 15 #[.val (.long i0), .second, .val (.long i1), .second, .val (.long i2), .second, .val (.long i3), .second, .val (.int i4), .val (.int (i4 &&& (3 : Int32))), .val (.long i0), .second, .unset, .unset, .unset, .unset] [(.long (0 : Int64))])) _
      refine XS.lstore X0.here hx rfl (hb hby at_15) rfl (l' := #[.val (.long i0), .second, .val (.long i1), .second, .val (.long i2), .second, .val (.long i3), .second, .val (.int i4), .val (.int (i4 &&& (3 : Int32))), .val (.long i0), .second, .val (.long (0 : Int64)), .second, .unset, .unset]) rfl ?_
      show Steps p.tables e below (s₁.setTop (mkF m 17 #[.val (.long i0), .second, .val (.long i1), .second, .val (.long i2), .second, .val (.long i3), .second, .val (.int i4), .val (.int (i4 &&& (3 : Int32))), .val (.long i0), .second, .val (.long (0 : Int64)), .second, .unset, .unset] [])) _
      refine XS.iconst X0.here hx rfl (hb hby at_17) ?_
      show Steps p.tables e below (s₁.setTop (mkF m 18 #[.val (.long i0), .second, .val (.long i1), .second, .val (.long i2), .second, .val (.long i3), .second, .val (.int i4), .val (.int (i4 &&& (3 : Int32))), .val (.long i0), .second, .val (.long (0 : Int64)), .second, .unset, .unset] [(.int (1 : Int32))])) _
      refine XS.istore X0.here hx rfl (hb hby at_18) rfl (l' := #[.val (.long i0), .second, .val (.long i1), .second, .val (.long i2), .second, .val (.long i3), .second, .val (.int i4), .val (.int (i4 &&& (3 : Int32))), .val (.long i0), .second, .val (.long (0 : Int64)), .second, .val (.int (1 : Int32)), .unset]) rfl ?_
      show Steps p.tables e below (s₁.setTop (mkF m 20 #[.val (.long i0), .second, .val (.long i1), .second, .val (.long i2), .second, .val (.long i3), .second, .val (.int i4), .val (.int (i4 &&& (3 : Int32))), .val (.long i0), .second, .val (.long (0 : Int64)), .second, .val (.int (1 : Int32)), .unset] [])) _
      refine XS.goto X0.here hx rfl (pc0 := 20) (pc' := 105) rfl (hb hby at_20) (by decide) (by decide) ?_
      show Steps p.tables e below (s₁.setTop (mkF m 105 #[.val (.long i0), .second, .val (.long i1), .second, .val (.long i2), .second, .val (.long i3), .second, .val (.int i4), .val (.int (i4 &&& (3 : Int32))), .val (.long i0), .second, .val (.long (0 : Int64)), .second, .val (.int (1 : Int32)), .unset] [])) _
      refine st3 _ ?_
      show Steps p.tables e below (T3.setTop (mkF m 108 #[.val (.long i0), .second, .val (.long i1), .second, .val (.long i2), .second, .val (.long i3), .second, .val (.int i4), .val (.int (i4 &&& (3 : Int32))), .val (.long i0), .second, .val (.long (0 : Int64)), .second, .val (.int (1 : Int32)), .unset] [(.ref b3)])) _
      refine XS.dup X3.here hx rfl (hb hby at_108) rfl rfl ?_
      show Steps p.tables e below (T3.setTop (mkF m 109 #[.val (.long i0), .second, .val (.long i1), .second, .val (.long i2), .second, .val (.long i3), .second, .val (.int i4), .val (.int (i4 &&& (3 : Int32))), .val (.long i0), .second, .val (.long (0 : Int64)), .second, .val (.int (1 : Int32)), .unset] [(.ref b3), (.ref b3)])) _
      refine XS.lloadN X3.here hx rfl (hb hby at_109) rfl ?_
      show Steps p.tables e below (T3.setTop (mkF m 110 #[.val (.long i0), .second, .val (.long i1), .second, .val (.long i2), .second, .val (.long i3), .second, .val (.int i4), .val (.int (i4 &&& (3 : Int32))), .val (.long i0), .second, .val (.long (0 : Int64)), .second, .val (.int (1 : Int32)), .unset] [(.long i0), (.ref b3), (.ref b3)])) _
      refine XS.lload X3.here hx rfl (hb hby at_110) rfl ?_
      show Steps p.tables e below (T3.setTop (mkF m 112 #[.val (.long i0), .second, .val (.long i1), .second, .val (.long i2), .second, .val (.long i3), .second, .val (.int i4), .val (.int (i4 &&& (3 : Int32))), .val (.long i0), .second, .val (.long (0 : Int64)), .second, .val (.int (1 : Int32)), .unset] [(.long i0), (.long i0), (.ref b3), (.ref b3)])) _
      refine XS.lload X3.here hx rfl (hb hby at_112) rfl ?_
      show Steps p.tables e below (T3.setTop (mkF m 114 #[.val (.long i0), .second, .val (.long i1), .second, .val (.long i2), .second, .val (.long i3), .second, .val (.int i4), .val (.int (i4 &&& (3 : Int32))), .val (.long i0), .second, .val (.long (0 : Int64)), .second, .val (.int (1 : Int32)), .unset] [(.long (0 : Int64)), (.long i0), (.long i0), (.ref b3), (.ref b3)])) _
      refine XS.lload X3.here hx rfl (hb hby at_114) rfl ?_
      show Steps p.tables e below (T3.setTop (mkF m 116 #[.val (.long i0), .second, .val (.long i1), .second, .val (.long i2), .second, .val (.long i3), .second, .val (.int i4), .val (.int (i4 &&& (3 : Int32))), .val (.long i0), .second, .val (.long (0 : Int64)), .second, .val (.int (1 : Int32)), .unset] [(.long i3), (.long (0 : Int64)), (.long i0), (.long i0), (.ref b3), (.ref b3)])) _
      refine st5.trans ?_
      show Steps p.tables e below (T5.setTop (mkF m 119 #[.val (.long i0), .second, .val (.long i1), .second, .val (.long i2), .second, .val (.long i3), .second, .val (.int i4), .val (.int (i4 &&& (3 : Int32))), .val (.long i0), .second, .val (.long (0 : Int64)), .second, .val (.int (1 : Int32)), .unset] [(.ref b3)])) _
      refine XS.astore X5.here hx rfl (hb hby at_119) rfl rfl (l' := #[.val (.long i0), .second, .val (.long i1), .second, .val (.long i2), .second, .val (.long i3), .second, .val (.int i4), .val (.int (i4 &&& (3 : Int32))), .val (.long i0), .second, .val (.long (0 : Int64)), .second, .val (.int (1 : Int32)), .val (.ref b3)]) rfl ?_
      show Steps p.tables e below (T5.setTop (mkF m 121 #[.val (.long i0), .second, .val (.long i1), .second, .val (.long i2), .second, .val (.long i3), .second, .val (.int i4), .val (.int (i4 &&& (3 : Int32))), .val (.long i0), .second, .val (.long (0 : Int64)), .second, .val (.int (1 : Int32)), .val (.ref b3)] [])) _
      refine XS.aload X5.here hx rfl (hb hby at_121) rfl rfl ?_
      show Steps p.tables e below (T5.setTop (mkF m 123 #[.val (.long i0), .second, .val (.long i1), .second, .val (.long i2), .second, .val (.long i3), .second, .val (.int i4), .val (.int (i4 &&& (3 : Int32))), .val (.long i0), .second, .val (.long (0 : Int64)), .second, .val (.int (1 : Int32)), .val (.ref b3)] [(.ref b3)])) _
      refine st7.trans ?_
      show Steps p.tables e below (T7.setTop (mkF m 126 #[.val (.long i0), .second, .val (.long i1), .second, .val (.long i2), .second, .val (.long i3), .second, .val (.int i4), .val (.int (i4 &&& (3 : Int32))), .val (.long i0), .second, .val (.long (0 : Int64)), .second, .val (.int (1 : Int32)), .val (.ref b3)] [(.int (own_c i0 i0 (0 : Int64)))])) _
      refine XS.iload X7.here hx rfl (hb hby at_126) rfl ?_
      show Steps p.tables e below (T7.setTop (mkF m 128 #[.val (.long i0), .second, .val (.long i1), .second, .val (.long i2), .second, .val (.long i3), .second, .val (.int i4), .val (.int (i4 &&& (3 : Int32))), .val (.long i0), .second, .val (.long (0 : Int64)), .second, .val (.int (1 : Int32)), .val (.ref b3)] [(.int (1 : Int32)), (.int (own_c i0 i0 (0 : Int64)))])) _
      refine XS.icmpNo X7.here hx rfl (hb hby at_128) rfl (teq (by simp [own_c, own_up, own_xor, hc2])).2 ?_
      show Steps p.tables e below (T7.setTop (mkF m 131 #[.val (.long i0), .second, .val (.long i1), .second, .val (.long i2), .second, .val (.long i3), .second, .val (.int i4), .val (.int (i4 &&& (3 : Int32))), .val (.long i0), .second, .val (.long (0 : Int64)), .second, .val (.int (1 : Int32)), .val (.ref b3)] [])) _
      refine XS.iconst X7.here hx rfl (hb hby at_131) ?_
      show Steps p.tables e below (T7.setTop (mkF m 132 #[.val (.long i0), .second, .val (.long i1), .second, .val (.long i2), .second, .val (.long i3), .second, .val (.int i4), .val (.int (i4 &&& (3 : Int32))), .val (.long i0), .second, .val (.long (0 : Int64)), .second, .val (.int (1 : Int32)), .val (.ref b3)] [(.int (1 : Int32))])) _
      refine XS.goto X7.here hx rfl (pc0 := 132) (pc' := 136) rfl (hb hby at_132) (by decide) (by decide) ?_
      show Steps p.tables e below (T7.setTop (mkF m 136 #[.val (.long i0), .second, .val (.long i1), .second, .val (.long i2), .second, .val (.long i3), .second, .val (.int i4), .val (.int (i4 &&& (3 : Int32))), .val (.long i0), .second, .val (.long (0 : Int64)), .second, .val (.int (1 : Int32)), .val (.ref b3)] [(.int (1 : Int32))])) _
      exact retN X7 hx (t := .boolean) Bd.returns (by simp) (hb hby at_136) hr
    · show QL n0 _ T7.heap _
      rw [hh7]
      exact ⟨rfl, N7⟩
  · skip
    have pre8 : ∀ t, Steps p.tables e below (s₁.setTop (mkF m 26 #[.val (.long i0), .second, .val (.long i1), .second, .val (.long i2), .second, .val (.long i3), .second, .val (.int i4), .val (.int (i4 &&& (3 : Int32))), .unset, .unset, .unset, .unset, .unset, .unset] [(.int (1 : Int32)), (.int (i4 &&& (3 : Int32)))])) t → Steps p.tables e below (s₁.setTop (entryFrame m #[(.long i0), (.long i1), (.long i2), (.long i3), (.int i4)] maxLocals)) t := fun t kt => pre1 t (by
        show Steps p.tables e below (s₁.setTop (mkF m 8 #[.val (.long i0), .second, .val (.long i1), .second, .val (.long i2), .second, .val (.long i3), .second, .val (.int i4), .val (.int (i4 &&& (3 : Int32))), .unset, .unset, .unset, .unset, .unset, .unset] [(.int (i4 &&& (3 : Int32)))])) _
        refine XS.ifYes X0.here hx rfl (pc0 := 8) (pc' := 23) rfl (hb hby at_8) rfl ((if0 _ _).trans (feq hc2).2) (by decide) (by decide) ?_
        show Steps p.tables e below (s₁.setTop (mkF m 23 #[.val (.long i0), .second, .val (.long i1), .second, .val (.long i2), .second, .val (.long i3), .second, .val (.int i4), .val (.int (i4 &&& (3 : Int32))), .unset, .unset, .unset, .unset, .unset, .unset] [])) _
        refine XS.iload X0.here hx rfl (hb hby at_23) rfl ?_
        show Steps p.tables e below (s₁.setTop (mkF m 25 #[.val (.long i0), .second, .val (.long i1), .second, .val (.long i2), .second, .val (.long i3), .second, .val (.int i4), .val (.int (i4 &&& (3 : Int32))), .unset, .unset, .unset, .unset, .unset, .unset] [(.int (i4 &&& (3 : Int32)))])) _
        refine XS.iconst X0.here hx rfl (hb hby at_25) ?_
        exact kt)
    by_cases hc9 : (i4 &&& (3 : Int32)) = (1 : Int32)
    · skip
      have pre10 : ∀ t, Steps p.tables e below (s₁.setTop (mkF m 36 #[.val (.long i0), .second, .val (.long i1), .second, .val (.long i2), .second, .val (.long i3), .second, .val (.int i4), .val (.int (i4 &&& (3 : Int32))), .val (.long i0), .second, .unset, .unset, .unset, .unset] [(.int (lcmpW i2 (0 : Int64)))])) t → Steps p.tables e below (s₁.setTop (entryFrame m #[(.long i0), (.long i1), (.long i2), (.long i3), (.int i4)] maxLocals)) t := fun t kt => pre8 t (by
          show Steps p.tables e below (s₁.setTop (mkF m 26 #[.val (.long i0), .second, .val (.long i1), .second, .val (.long i2), .second, .val (.long i3), .second, .val (.int i4), .val (.int (i4 &&& (3 : Int32))), .unset, .unset, .unset, .unset, .unset, .unset] [(.int (1 : Int32)), (.int (i4 &&& (3 : Int32)))])) _
          refine XS.icmpNo X0.here hx rfl (hb hby at_26) rfl (teq hc9).2 ?_
          show Steps p.tables e below (s₁.setTop (mkF m 29 #[.val (.long i0), .second, .val (.long i1), .second, .val (.long i2), .second, .val (.long i3), .second, .val (.int i4), .val (.int (i4 &&& (3 : Int32))), .unset, .unset, .unset, .unset, .unset, .unset] [])) _
          refine XS.lloadN X0.here hx rfl (hb hby at_29) rfl ?_
          show Steps p.tables e below (s₁.setTop (mkF m 30 #[.val (.long i0), .second, .val (.long i1), .second, .val (.long i2), .second, .val (.long i3), .second, .val (.int i4), .val (.int (i4 &&& (3 : Int32))), .unset, .unset, .unset, .unset, .unset, .unset] [(.long i0)])) _
          refine XS.lstore X0.here hx rfl (hb hby at_30) rfl (l' := #[.val (.long i0), .second, .val (.long i1), .second, .val (.long i2), .second, .val (.long i3), .second, .val (.int i4), .val (.int (i4 &&& (3 : Int32))), .val (.long i0), .second, .unset, .unset, .unset, .unset]) rfl ?_
          show Steps p.tables e below (s₁.setTop (mkF m 32 #[.val (.long i0), .second, .val (.long i1), .second, .val (.long i2), .second, .val (.long i3), .second, .val (.int i4), .val (.int (i4 &&& (3 : Int32))), .val (.long i0), .second, .unset, .unset, .unset, .unset] [])) _
          refine XS.lload X0.here hx rfl (hb hby at_32) rfl ?_
          show Steps p.tables e below (s₁.setTop (mkF m 34 #[.val (.long i0), .second, .val (.long i1), .second, .val (.long i2), .second, .val (.long i3), .second, .val (.int i4), .val (.int (i4 &&& (3 : Int32))), .val (.long i0), .second, .unset, .unset, .unset, .unset] [(.long i2)])) _
          refine XS.lconst X0.here hx rfl (hb hby at_34) ?_
          show Steps p.tables e below (s₁.setTop (mkF m 35 #[.val (.long i0), .second, .val (.long i1), .second, .val (.long i2), .second, .val (.long i3), .second, .val (.int i4), .val (.int (i4 &&& (3 : Int32))), .val (.long i0), .second, .unset, .unset, .unset, .unset] [(.long (0 : Int64)), (.long i2)])) _
          refine XS.lcmp X0.here hx rfl (hb hby at_35) rfl ?_
          exact kt)
      by_cases hc11 : i2 = (0 : Int64)
      · skip
        obtain ⟨T12, h12, X12, e12, E12, A12, D12, -, st12⟩ := newO X0 hx hZ hown (hw _ (List.mem_of_getElem? (i := 0) rfl)) (hw _ (List.mem_of_getElem? (i := 1) rfl)) (hw _ (List.mem_of_getElem? (i := 2) rfl)) e0 (g := (mkF m 105 #[.val (.long i0), .second, .val (.long i1), .second, .val (.long i2), .second, .val (.long i3), .second, .val (.int i4), .val (.int (i4 &&& (3 : Int32))), .val (.long i0), .second, .val (.long (1 : Int64)), .second, .val (.int (0 : Int32)), .unset] [])) rfl (hb hby at_105) (by decide) (by decide)
        obtain ⟨b12, g12⟩ : ∃ z, z = h0.size := ⟨_, rfl⟩
        rw [← g12] at A12 D12 st12
        have gb12 : n0 ≤ b12 := by rw [g12, ← O0.1]; exact O0.2.1
        have F12_expected : Fld Z h12 b12 "com/example/carbonfold/carbonfold/bench/Fanout$Result" "expected" "J" (.long (0 : Int64)) := D12 (Or.inr (hw _ (List.mem_of_getElem? (i := 15) rfl))) (ty := .long) (by decide)
        have F12_seen : Fld Z h12 b12 "com/example/carbonfold/carbonfold/bench/Fanout$Result" "seen" "J" (.long (0 : Int64)) := D12 (Or.inr (hw _ (List.mem_of_getElem? (i := 17) rfl))) (ty := .long) (by decide)
        have F12_extra : Fld Z h12 b12 "com/example/carbonfold/carbonfold/bench/Fanout$Result" "extra" "J" (.long (0 : Int64)) := D12 (Or.inr (hw _ (List.mem_of_getElem? (i := 19) rfl))) (ty := .long) (by decide)
        have F12_nanos : Fld Z h12 b12 "com/example/carbonfold/carbonfold/bench/Fanout$Result" "nanos" "J" (.long (0 : Int64)) := D12 (Or.inr (hw _ (List.mem_of_getElem? (i := 21) rfl))) (ty := .long) (by decide)
        have O13 : Old Z n0 h12 := (O0.ext E12)
        obtain ⟨_, _, ⟨T14, L14, k14, n14⟩, -, X14, ⟨Lc14, hQ14, l14, y14, z14⟩, st14⟩ := X12.specialBack hx (y := (⟨"com/example/carbonfold/carbonfold/bench/Fanout$Result", "<init>", "(JJJJ)V"⟩ : MethodName)) rfl hown (mvT hZ (hw _ (List.mem_of_getElem? (i := 3) rfl))) (mvT hZ (hw _ (List.mem_of_getElem? (i := 4) rfl))) (mvT hZ (hw _ (List.mem_of_getElem? (i := 5) rfl))) (by decide) (backOf (W := 1) (rmI l Z a0 hw [] b12 i0 i0 (1 : Int64) i3 h12 n0 O13 A12 F12_expected F12_seen F12_extra F12_nanos gb12) hZ (hw _ (List.mem_of_getElem? (i := 5) rfl)) (hw _ (List.mem_of_getElem? (i := 2) rfl)) (by decide) (by decide)) (g := (mkF m 116 #[.val (.long i0), .second, .val (.long i1), .second, .val (.long i2), .second, .val (.long i3), .second, .val (.int i4), .val (.int (i4 &&& (3 : Int32))), .val (.long i0), .second, .val (.long (1 : Int64)), .second, .val (.int (0 : Int32)), .unset] [(.long i3), (.long (1 : Int64)), (.long i0), (.long i0), (.ref b12), (.ref b12)])) rfl (by rw [hml]; rfl) (Steps.refl _) (a := b12) (argsL := [(.long i0), (.long i0), (.long (1 : Int64)), (.long i3)]) (rest := [(.ref b12)]) (lenOf pd_1 rfl) rfl (by show 2 * 0 + _ ≤ _; exact Nat.le_of_eq rfl) (hb hby at_116) (fun _ _ => ⟨rfl, e12, (by decide : 1 + 0 ≤ _), (by decide : 4 + 0 ≤ _)⟩)
        dsimp only [Pt.U, Pt.locs, Pt.cells, Pt.slots] at X14 l14 y14 z14 st14 hQ14
        subst l14 y14 z14
        obtain ⟨rfl, N14q, K14, Ex14, F14_expected, F14_seen, F14_extra, F14_nanos⟩ := hQ14
        have N14 := Fr.app N0 N14q
        have O15 : Old Z n0 T14.heap := (O13.keep K14 (allS gb12 all0))
        obtain ⟨cq16, kq16, q16a, q16b, q16c⟩ := isOf hZ rfl Ex14
        obtain ⟨_, _, ⟨T16, L16, k16, n16⟩, -, X16, ⟨Lc16, hQ16, l16, y16, z16⟩, st16⟩ := X14.virtualBack hx (y := (⟨"com/example/carbonfold/carbonfold/bench/Fanout$Result", "complete", "()Z"⟩ : MethodName)) (z := (⟨"com/example/carbonfold/carbonfold/bench/Fanout$Result", "complete", "()Z"⟩ : MethodName)) hown (mvT hZ (hw _ (List.mem_of_getElem? (i := 22) rfl))) (mvT hZ (hw _ (List.mem_of_getElem? (i := 23) rfl))) (notFace_of_selects (args := #[]) (mvT hZ (hw _ (List.mem_of_getElem? (i := 25) rfl)))) (mvT hZ (hw _ (List.mem_of_getElem? (i := 25) rfl))) (mvT hZ (hw _ (List.mem_of_getElem? (i := 24) rfl))) (by decide) (backOf (W := 0) (rmC l Z a0 hw [] b12 i0 i0 (1 : Int64) T14.heap n0 O15 F14_expected F14_seen F14_extra) hZ (hw _ (List.mem_of_getElem? (i := 26) rfl)) (hw _ (List.mem_of_getElem? (i := 2) rfl)) (by decide) (by decide)) q16a q16c (g := (mkF m 123 #[.val (.long i0), .second, .val (.long i1), .second, .val (.long i2), .second, .val (.long i3), .second, .val (.int i4), .val (.int (i4 &&& (3 : Int32))), .val (.long i0), .second, .val (.long (1 : Int64)), .second, .val (.int (0 : Int32)), .val (.ref b12)] [(.ref b12)])) rfl (by rw [hml]; rfl) (Steps.refl _) (argsL := []) (rest := []) (lenOf pd_2 rfl) rfl (by show 2 * 0 + _ ≤ _; exact Nat.le_of_eq rfl) (hb hby at_123) (fun _ _ => ⟨rfl, rfl, (by decide : 1 + 0 ≤ _), (by decide : 4 + 0 ≤ _)⟩)
        dsimp only [Pt.U, Pt.locs, Pt.cells, Pt.slots] at X16 l16 y16 z16 st16 hQ16
        subst l16 y16 z16
        obtain ⟨rfl, N16q, hh16⟩ := hQ16
        have N16 := Fr.app N14 N16q
        obtain ⟨fs, hr, hrun, hended, hW, hsame⟩ := X16.leave (v := some (.int (1 : Int32))) (fun h => by rw [Bd.returns] at h; cases h)
        refine ⟨_, _, pre10 _ ?_, hrun, hended, _, _, rfl, ?_, ⟨_, rfl⟩, hW, hsame.mono (by decide) (by decide)⟩
        · skip
          show Steps p.tables e below (s₁.setTop (mkF m 36 #[.val (.long i0), .second, .val (.long i1), .second, .val (.long i2), .second, .val (.long i3), .second, .val (.int i4), .val (.int (i4 &&& (3 : Int32))), .val (.long i0), .second, .unset, .unset, .unset, .unset] [(.int (lcmpW i2 (0 : Int64)))])) _
          refine XS.ifNo X0.here hx rfl (hb hby at_36) rfl ((if0 _ _).trans (teq ((lw_eq _ _).mpr hc11)).2) ?_
          show Steps p.tables e below (s₁.setTop (mkF m 39 #[.val (.long i0), .second, .val (.long i1), .second, .val (.long i2), .second, .val (.long i3), .second, .val (.int i4), .val (.int (i4 &&& (3 : Int32))), .val (.long i0), .second, .unset, .unset, .unset, .unset] [])) _
          refine XS.lconst X0.here hx rfl (hb hby at_39) ?_
          show Steps p.tables e below (s₁.setTop (mkF m 40 #[.val (.long i0), .second, .val (.long i1), .second, .val (.long i2), .second, .val (.long i3), .second, .val (.int i4), .val (.int (i4 &&& (3 : Int32))), .val (.long i0), .second, .unset, .unset, .unset, .unset] [(.long (1 : Int64))])) _
          refine XS.goto X0.here hx rfl (pc0 := 40) (pc' := 45) rfl (hb hby at_40) (by decide) (by decide) ?_
          show Steps p.tables e below (s₁.setTop (mkF m 45 #[.val (.long i0), .second, .val (.long i1), .second, .val (.long i2), .second, .val (.long i3), .second, .val (.int i4), .val (.int (i4 &&& (3 : Int32))), .val (.long i0), .second, .unset, .unset, .unset, .unset] [(.long (1 : Int64))])) _
          refine XS.lstore X0.here hx rfl (hb hby at_45) rfl (l' := #[.val (.long i0), .second, .val (.long i1), .second, .val (.long i2), .second, .val (.long i3), .second, .val (.int i4), .val (.int (i4 &&& (3 : Int32))), .val (.long i0), .second, .val (.long (1 : Int64)), .second, .unset, .unset]) rfl ?_
          show Steps p.tables e below (s₁.setTop (mkF m 47 #[.val (.long i0), .second, .val (.long i1), .second, .val (.long i2), .second, .val (.long i3), .second, .val (.int i4), .val (.int (i4 &&& (3 : Int32))), .val (.long i0), .second, .val (.long (1 : Int64)), .second, .unset, .unset] [])) _
          refine XS.iconst X0.here hx rfl (hb hby at_47) ?_
          show Steps p.tables e below (s₁.setTop (mkF m 48 #[.val (.long i0), .second, .val (.long i1), .second, .val (.long i2), .second, .val (.long i3), .second, .val (.int i4), .val (.int (i4 &&& (3 : Int32))), .val (.long i0), .second, .val (.long (1 : Int64)), .second, .unset, .unset] [(.int (0 : Int32))])) _
          refine XS.istore X0.here hx rfl (hb hby at_48) rfl (l' := #[.val (.long i0), .second, .val (.long i1), .second, .val (.long i2), .second, .val (.long i3), .second, .val (.int i4), .val (.int (i4 &&& (3 : Int32))), .val (.long i0), .second, .val (.long (1 : Int64)), .second, .val (.int (0 : Int32)), .unset]) rfl ?_
          show Steps p.tables e below (s₁.setTop (mkF m 50 #[.val (.long i0), .second, .val (.long i1), .second, .val (.long i2), .second, .val (.long i3), .second, .val (.int i4), .val (.int (i4 &&& (3 : Int32))), .val (.long i0), .second, .val (.long (1 : Int64)), .second, .val (.int (0 : Int32)), .unset] [])) _
          refine XS.goto X0.here hx rfl (pc0 := 50) (pc' := 105) rfl (hb hby at_50) (by decide) (by decide) ?_
          show Steps p.tables e below (s₁.setTop (mkF m 105 #[.val (.long i0), .second, .val (.long i1), .second, .val (.long i2), .second, .val (.long i3), .second, .val (.int i4), .val (.int (i4 &&& (3 : Int32))), .val (.long i0), .second, .val (.long (1 : Int64)), .second, .val (.int (0 : Int32)), .unset] [])) _
          refine st12 _ ?_
          show Steps p.tables e below (T12.setTop (mkF m 108 #[.val (.long i0), .second, .val (.long i1), .second, .val (.long i2), .second, .val (.long i3), .second, .val (.int i4), .val (.int (i4 &&& (3 : Int32))), .val (.long i0), .second, .val (.long (1 : Int64)), .second, .val (.int (0 : Int32)), .unset] [(.ref b12)])) _
          refine XS.dup X12.here hx rfl (hb hby at_108) rfl rfl ?_
          show Steps p.tables e below (T12.setTop (mkF m 109 #[.val (.long i0), .second, .val (.long i1), .second, .val (.long i2), .second, .val (.long i3), .second, .val (.int i4), .val (.int (i4 &&& (3 : Int32))), .val (.long i0), .second, .val (.long (1 : Int64)), .second, .val (.int (0 : Int32)), .unset] [(.ref b12), (.ref b12)])) _
          refine XS.lloadN X12.here hx rfl (hb hby at_109) rfl ?_
          show Steps p.tables e below (T12.setTop (mkF m 110 #[.val (.long i0), .second, .val (.long i1), .second, .val (.long i2), .second, .val (.long i3), .second, .val (.int i4), .val (.int (i4 &&& (3 : Int32))), .val (.long i0), .second, .val (.long (1 : Int64)), .second, .val (.int (0 : Int32)), .unset] [(.long i0), (.ref b12), (.ref b12)])) _
          refine XS.lload X12.here hx rfl (hb hby at_110) rfl ?_
          show Steps p.tables e below (T12.setTop (mkF m 112 #[.val (.long i0), .second, .val (.long i1), .second, .val (.long i2), .second, .val (.long i3), .second, .val (.int i4), .val (.int (i4 &&& (3 : Int32))), .val (.long i0), .second, .val (.long (1 : Int64)), .second, .val (.int (0 : Int32)), .unset] [(.long i0), (.long i0), (.ref b12), (.ref b12)])) _
          refine XS.lload X12.here hx rfl (hb hby at_112) rfl ?_
          show Steps p.tables e below (T12.setTop (mkF m 114 #[.val (.long i0), .second, .val (.long i1), .second, .val (.long i2), .second, .val (.long i3), .second, .val (.int i4), .val (.int (i4 &&& (3 : Int32))), .val (.long i0), .second, .val (.long (1 : Int64)), .second, .val (.int (0 : Int32)), .unset] [(.long (1 : Int64)), (.long i0), (.long i0), (.ref b12), (.ref b12)])) _
          refine XS.lload X12.here hx rfl (hb hby at_114) rfl ?_
          show Steps p.tables e below (T12.setTop (mkF m 116 #[.val (.long i0), .second, .val (.long i1), .second, .val (.long i2), .second, .val (.long i3), .second, .val (.int i4), .val (.int (i4 &&& (3 : Int32))), .val (.long i0), .second, .val (.long (1 : Int64)), .second, .val (.int (0 : Int32)), .unset] [(.long i3), (.long (1 : Int64)), (.long i0), (.long i0), (.ref b12), (.ref b12)])) _
          refine st14.trans ?_
          show Steps p.tables e below (T14.setTop (mkF m 119 #[.val (.long i0), .second, .val (.long i1), .second, .val (.long i2), .second, .val (.long i3), .second, .val (.int i4), .val (.int (i4 &&& (3 : Int32))), .val (.long i0), .second, .val (.long (1 : Int64)), .second, .val (.int (0 : Int32)), .unset] [(.ref b12)])) _
          refine XS.astore X14.here hx rfl (hb hby at_119) rfl rfl (l' := #[.val (.long i0), .second, .val (.long i1), .second, .val (.long i2), .second, .val (.long i3), .second, .val (.int i4), .val (.int (i4 &&& (3 : Int32))), .val (.long i0), .second, .val (.long (1 : Int64)), .second, .val (.int (0 : Int32)), .val (.ref b12)]) rfl ?_
          show Steps p.tables e below (T14.setTop (mkF m 121 #[.val (.long i0), .second, .val (.long i1), .second, .val (.long i2), .second, .val (.long i3), .second, .val (.int i4), .val (.int (i4 &&& (3 : Int32))), .val (.long i0), .second, .val (.long (1 : Int64)), .second, .val (.int (0 : Int32)), .val (.ref b12)] [])) _
          refine XS.aload X14.here hx rfl (hb hby at_121) rfl rfl ?_
          show Steps p.tables e below (T14.setTop (mkF m 123 #[.val (.long i0), .second, .val (.long i1), .second, .val (.long i2), .second, .val (.long i3), .second, .val (.int i4), .val (.int (i4 &&& (3 : Int32))), .val (.long i0), .second, .val (.long (1 : Int64)), .second, .val (.int (0 : Int32)), .val (.ref b12)] [(.ref b12)])) _
          refine st16.trans ?_
          show Steps p.tables e below (T16.setTop (mkF m 126 #[.val (.long i0), .second, .val (.long i1), .second, .val (.long i2), .second, .val (.long i3), .second, .val (.int i4), .val (.int (i4 &&& (3 : Int32))), .val (.long i0), .second, .val (.long (1 : Int64)), .second, .val (.int (0 : Int32)), .val (.ref b12)] [(.int (own_c i0 i0 (1 : Int64)))])) _
          refine XS.iload X16.here hx rfl (hb hby at_126) rfl ?_
          show Steps p.tables e below (T16.setTop (mkF m 128 #[.val (.long i0), .second, .val (.long i1), .second, .val (.long i2), .second, .val (.long i3), .second, .val (.int i4), .val (.int (i4 &&& (3 : Int32))), .val (.long i0), .second, .val (.long (1 : Int64)), .second, .val (.int (0 : Int32)), .val (.ref b12)] [(.int (0 : Int32)), (.int (own_c i0 i0 (1 : Int64)))])) _
          refine XS.icmpNo X16.here hx rfl (hb hby at_128) rfl (teq (by simp [own_c, own_up, own_xor, hc2, hc9, hc11])).2 ?_
          show Steps p.tables e below (T16.setTop (mkF m 131 #[.val (.long i0), .second, .val (.long i1), .second, .val (.long i2), .second, .val (.long i3), .second, .val (.int i4), .val (.int (i4 &&& (3 : Int32))), .val (.long i0), .second, .val (.long (1 : Int64)), .second, .val (.int (0 : Int32)), .val (.ref b12)] [])) _
          refine XS.iconst X16.here hx rfl (hb hby at_131) ?_
          show Steps p.tables e below (T16.setTop (mkF m 132 #[.val (.long i0), .second, .val (.long i1), .second, .val (.long i2), .second, .val (.long i3), .second, .val (.int i4), .val (.int (i4 &&& (3 : Int32))), .val (.long i0), .second, .val (.long (1 : Int64)), .second, .val (.int (0 : Int32)), .val (.ref b12)] [(.int (1 : Int32))])) _
          refine XS.goto X16.here hx rfl (pc0 := 132) (pc' := 136) rfl (hb hby at_132) (by decide) (by decide) ?_
          show Steps p.tables e below (T16.setTop (mkF m 136 #[.val (.long i0), .second, .val (.long i1), .second, .val (.long i2), .second, .val (.long i3), .second, .val (.int i4), .val (.int (i4 &&& (3 : Int32))), .val (.long i0), .second, .val (.long (1 : Int64)), .second, .val (.int (0 : Int32)), .val (.ref b12)] [(.int (1 : Int32))])) _
          exact retN X16 hx (t := .boolean) Bd.returns (by simp) (hb hby at_136) hr
        · show QL n0 _ T16.heap _
          rw [hh16]
          exact ⟨rfl, N16⟩
      · skip
        obtain ⟨T17, h17, X17, e17, E17, A17, D17, -, st17⟩ := newO X0 hx hZ hown (hw _ (List.mem_of_getElem? (i := 0) rfl)) (hw _ (List.mem_of_getElem? (i := 1) rfl)) (hw _ (List.mem_of_getElem? (i := 2) rfl)) e0 (g := (mkF m 105 #[.val (.long i0), .second, .val (.long i1), .second, .val (.long i2), .second, .val (.long i3), .second, .val (.int i4), .val (.int (i4 &&& (3 : Int32))), .val (.long i0), .second, .val (.long i2), .second, .val (.int (0 : Int32)), .unset] [])) rfl (hb hby at_105) (by decide) (by decide)
        obtain ⟨b17, g17⟩ : ∃ z, z = h0.size := ⟨_, rfl⟩
        rw [← g17] at A17 D17 st17
        have gb17 : n0 ≤ b17 := by rw [g17, ← O0.1]; exact O0.2.1
        have F17_expected : Fld Z h17 b17 "com/example/carbonfold/carbonfold/bench/Fanout$Result" "expected" "J" (.long (0 : Int64)) := D17 (Or.inr (hw _ (List.mem_of_getElem? (i := 15) rfl))) (ty := .long) (by decide)
        have F17_seen : Fld Z h17 b17 "com/example/carbonfold/carbonfold/bench/Fanout$Result" "seen" "J" (.long (0 : Int64)) := D17 (Or.inr (hw _ (List.mem_of_getElem? (i := 17) rfl))) (ty := .long) (by decide)
        have F17_extra : Fld Z h17 b17 "com/example/carbonfold/carbonfold/bench/Fanout$Result" "extra" "J" (.long (0 : Int64)) := D17 (Or.inr (hw _ (List.mem_of_getElem? (i := 19) rfl))) (ty := .long) (by decide)
        have F17_nanos : Fld Z h17 b17 "com/example/carbonfold/carbonfold/bench/Fanout$Result" "nanos" "J" (.long (0 : Int64)) := D17 (Or.inr (hw _ (List.mem_of_getElem? (i := 21) rfl))) (ty := .long) (by decide)
        have O18 : Old Z n0 h17 := (O0.ext E17)
        obtain ⟨_, _, ⟨T19, L19, k19, n19⟩, -, X19, ⟨Lc19, hQ19, l19, y19, z19⟩, st19⟩ := X17.specialBack hx (y := (⟨"com/example/carbonfold/carbonfold/bench/Fanout$Result", "<init>", "(JJJJ)V"⟩ : MethodName)) rfl hown (mvT hZ (hw _ (List.mem_of_getElem? (i := 3) rfl))) (mvT hZ (hw _ (List.mem_of_getElem? (i := 4) rfl))) (mvT hZ (hw _ (List.mem_of_getElem? (i := 5) rfl))) (by decide) (backOf (W := 1) (rmI l Z a0 hw [] b17 i0 i0 i2 i3 h17 n0 O18 A17 F17_expected F17_seen F17_extra F17_nanos gb17) hZ (hw _ (List.mem_of_getElem? (i := 5) rfl)) (hw _ (List.mem_of_getElem? (i := 2) rfl)) (by decide) (by decide)) (g := (mkF m 116 #[.val (.long i0), .second, .val (.long i1), .second, .val (.long i2), .second, .val (.long i3), .second, .val (.int i4), .val (.int (i4 &&& (3 : Int32))), .val (.long i0), .second, .val (.long i2), .second, .val (.int (0 : Int32)), .unset] [(.long i3), (.long i2), (.long i0), (.long i0), (.ref b17), (.ref b17)])) rfl (by rw [hml]; rfl) (Steps.refl _) (a := b17) (argsL := [(.long i0), (.long i0), (.long i2), (.long i3)]) (rest := [(.ref b17)]) (lenOf pd_1 rfl) rfl (by show 2 * 0 + _ ≤ _; exact Nat.le_of_eq rfl) (hb hby at_116) (fun _ _ => ⟨rfl, e17, (by decide : 1 + 0 ≤ _), (by decide : 4 + 0 ≤ _)⟩)
        dsimp only [Pt.U, Pt.locs, Pt.cells, Pt.slots] at X19 l19 y19 z19 st19 hQ19
        subst l19 y19 z19
        obtain ⟨rfl, N19q, K19, Ex19, F19_expected, F19_seen, F19_extra, F19_nanos⟩ := hQ19
        have N19 := Fr.app N0 N19q
        have O20 : Old Z n0 T19.heap := (O18.keep K19 (allS gb17 all0))
        obtain ⟨cq21, kq21, q21a, q21b, q21c⟩ := isOf hZ rfl Ex19
        obtain ⟨_, _, ⟨T21, L21, k21, n21⟩, -, X21, ⟨Lc21, hQ21, l21, y21, z21⟩, st21⟩ := X19.virtualBack hx (y := (⟨"com/example/carbonfold/carbonfold/bench/Fanout$Result", "complete", "()Z"⟩ : MethodName)) (z := (⟨"com/example/carbonfold/carbonfold/bench/Fanout$Result", "complete", "()Z"⟩ : MethodName)) hown (mvT hZ (hw _ (List.mem_of_getElem? (i := 22) rfl))) (mvT hZ (hw _ (List.mem_of_getElem? (i := 23) rfl))) (notFace_of_selects (args := #[]) (mvT hZ (hw _ (List.mem_of_getElem? (i := 25) rfl)))) (mvT hZ (hw _ (List.mem_of_getElem? (i := 25) rfl))) (mvT hZ (hw _ (List.mem_of_getElem? (i := 24) rfl))) (by decide) (backOf (W := 0) (rmC l Z a0 hw [] b17 i0 i0 i2 T19.heap n0 O20 F19_expected F19_seen F19_extra) hZ (hw _ (List.mem_of_getElem? (i := 26) rfl)) (hw _ (List.mem_of_getElem? (i := 2) rfl)) (by decide) (by decide)) q21a q21c (g := (mkF m 123 #[.val (.long i0), .second, .val (.long i1), .second, .val (.long i2), .second, .val (.long i3), .second, .val (.int i4), .val (.int (i4 &&& (3 : Int32))), .val (.long i0), .second, .val (.long i2), .second, .val (.int (0 : Int32)), .val (.ref b17)] [(.ref b17)])) rfl (by rw [hml]; rfl) (Steps.refl _) (argsL := []) (rest := []) (lenOf pd_2 rfl) rfl (by show 2 * 0 + _ ≤ _; exact Nat.le_of_eq rfl) (hb hby at_123) (fun _ _ => ⟨rfl, rfl, (by decide : 1 + 0 ≤ _), (by decide : 4 + 0 ≤ _)⟩)
        dsimp only [Pt.U, Pt.locs, Pt.cells, Pt.slots] at X21 l21 y21 z21 st21 hQ21
        subst l21 y21 z21
        obtain ⟨rfl, N21q, hh21⟩ := hQ21
        have N21 := Fr.app N19 N21q
        obtain ⟨fs, hr, hrun, hended, hW, hsame⟩ := X21.leave (v := some (.int (1 : Int32))) (fun h => by rw [Bd.returns] at h; cases h)
        refine ⟨_, _, pre10 _ ?_, hrun, hended, _, _, rfl, ?_, ⟨_, rfl⟩, hW, hsame.mono (by decide) (by decide)⟩
        · skip
          show Steps p.tables e below (s₁.setTop (mkF m 36 #[.val (.long i0), .second, .val (.long i1), .second, .val (.long i2), .second, .val (.long i3), .second, .val (.int i4), .val (.int (i4 &&& (3 : Int32))), .val (.long i0), .second, .unset, .unset, .unset, .unset] [(.int (lcmpW i2 (0 : Int64)))])) _
          refine XS.ifYes X0.here hx rfl (pc0 := 36) (pc' := 43) rfl (hb hby at_36) rfl ((if0 _ _).trans (feq (mt (lw_eq _ _).mp hc11)).2) (by decide) (by decide) ?_
          show Steps p.tables e below (s₁.setTop (mkF m 43 #[.val (.long i0), .second, .val (.long i1), .second, .val (.long i2), .second, .val (.long i3), .second, .val (.int i4), .val (.int (i4 &&& (3 : Int32))), .val (.long i0), .second, .unset, .unset, .unset, .unset] [])) _
          refine XS.lload X0.here hx rfl (hb hby at_43) rfl ?_
          show Steps p.tables e below (s₁.setTop (mkF m 45 #[.val (.long i0), .second, .val (.long i1), .second, .val (.long i2), .second, .val (.long i3), .second, .val (.int i4), .val (.int (i4 &&& (3 : Int32))), .val (.long i0), .second, .unset, .unset, .unset, .unset] [(.long i2)])) _
          refine XS.lstore X0.here hx rfl (hb hby at_45) rfl (l' := #[.val (.long i0), .second, .val (.long i1), .second, .val (.long i2), .second, .val (.long i3), .second, .val (.int i4), .val (.int (i4 &&& (3 : Int32))), .val (.long i0), .second, .val (.long i2), .second, .unset, .unset]) rfl ?_
          show Steps p.tables e below (s₁.setTop (mkF m 47 #[.val (.long i0), .second, .val (.long i1), .second, .val (.long i2), .second, .val (.long i3), .second, .val (.int i4), .val (.int (i4 &&& (3 : Int32))), .val (.long i0), .second, .val (.long i2), .second, .unset, .unset] [])) _
          refine XS.iconst X0.here hx rfl (hb hby at_47) ?_
          show Steps p.tables e below (s₁.setTop (mkF m 48 #[.val (.long i0), .second, .val (.long i1), .second, .val (.long i2), .second, .val (.long i3), .second, .val (.int i4), .val (.int (i4 &&& (3 : Int32))), .val (.long i0), .second, .val (.long i2), .second, .unset, .unset] [(.int (0 : Int32))])) _
          refine XS.istore X0.here hx rfl (hb hby at_48) rfl (l' := #[.val (.long i0), .second, .val (.long i1), .second, .val (.long i2), .second, .val (.long i3), .second, .val (.int i4), .val (.int (i4 &&& (3 : Int32))), .val (.long i0), .second, .val (.long i2), .second, .val (.int (0 : Int32)), .unset]) rfl ?_
          show Steps p.tables e below (s₁.setTop (mkF m 50 #[.val (.long i0), .second, .val (.long i1), .second, .val (.long i2), .second, .val (.long i3), .second, .val (.int i4), .val (.int (i4 &&& (3 : Int32))), .val (.long i0), .second, .val (.long i2), .second, .val (.int (0 : Int32)), .unset] [])) _
          refine XS.goto X0.here hx rfl (pc0 := 50) (pc' := 105) rfl (hb hby at_50) (by decide) (by decide) ?_
          show Steps p.tables e below (s₁.setTop (mkF m 105 #[.val (.long i0), .second, .val (.long i1), .second, .val (.long i2), .second, .val (.long i3), .second, .val (.int i4), .val (.int (i4 &&& (3 : Int32))), .val (.long i0), .second, .val (.long i2), .second, .val (.int (0 : Int32)), .unset] [])) _
          refine st17 _ ?_
          show Steps p.tables e below (T17.setTop (mkF m 108 #[.val (.long i0), .second, .val (.long i1), .second, .val (.long i2), .second, .val (.long i3), .second, .val (.int i4), .val (.int (i4 &&& (3 : Int32))), .val (.long i0), .second, .val (.long i2), .second, .val (.int (0 : Int32)), .unset] [(.ref b17)])) _
          refine XS.dup X17.here hx rfl (hb hby at_108) rfl rfl ?_
          show Steps p.tables e below (T17.setTop (mkF m 109 #[.val (.long i0), .second, .val (.long i1), .second, .val (.long i2), .second, .val (.long i3), .second, .val (.int i4), .val (.int (i4 &&& (3 : Int32))), .val (.long i0), .second, .val (.long i2), .second, .val (.int (0 : Int32)), .unset] [(.ref b17), (.ref b17)])) _
          refine XS.lloadN X17.here hx rfl (hb hby at_109) rfl ?_
          show Steps p.tables e below (T17.setTop (mkF m 110 #[.val (.long i0), .second, .val (.long i1), .second, .val (.long i2), .second, .val (.long i3), .second, .val (.int i4), .val (.int (i4 &&& (3 : Int32))), .val (.long i0), .second, .val (.long i2), .second, .val (.int (0 : Int32)), .unset] [(.long i0), (.ref b17), (.ref b17)])) _
          refine XS.lload X17.here hx rfl (hb hby at_110) rfl ?_
          show Steps p.tables e below (T17.setTop (mkF m 112 #[.val (.long i0), .second, .val (.long i1), .second, .val (.long i2), .second, .val (.long i3), .second, .val (.int i4), .val (.int (i4 &&& (3 : Int32))), .val (.long i0), .second, .val (.long i2), .second, .val (.int (0 : Int32)), .unset] [(.long i0), (.long i0), (.ref b17), (.ref b17)])) _
          refine XS.lload X17.here hx rfl (hb hby at_112) rfl ?_
          show Steps p.tables e below (T17.setTop (mkF m 114 #[.val (.long i0), .second, .val (.long i1), .second, .val (.long i2), .second, .val (.long i3), .second, .val (.int i4), .val (.int (i4 &&& (3 : Int32))), .val (.long i0), .second, .val (.long i2), .second, .val (.int (0 : Int32)), .unset] [(.long i2), (.long i0), (.long i0), (.ref b17), (.ref b17)])) _
          refine XS.lload X17.here hx rfl (hb hby at_114) rfl ?_
          show Steps p.tables e below (T17.setTop (mkF m 116 #[.val (.long i0), .second, .val (.long i1), .second, .val (.long i2), .second, .val (.long i3), .second, .val (.int i4), .val (.int (i4 &&& (3 : Int32))), .val (.long i0), .second, .val (.long i2), .second, .val (.int (0 : Int32)), .unset] [(.long i3), (.long i2), (.long i0), (.long i0), (.ref b17), (.ref b17)])) _
          refine st19.trans ?_
          show Steps p.tables e below (T19.setTop (mkF m 119 #[.val (.long i0), .second, .val (.long i1), .second, .val (.long i2), .second, .val (.long i3), .second, .val (.int i4), .val (.int (i4 &&& (3 : Int32))), .val (.long i0), .second, .val (.long i2), .second, .val (.int (0 : Int32)), .unset] [(.ref b17)])) _
          refine XS.astore X19.here hx rfl (hb hby at_119) rfl rfl (l' := #[.val (.long i0), .second, .val (.long i1), .second, .val (.long i2), .second, .val (.long i3), .second, .val (.int i4), .val (.int (i4 &&& (3 : Int32))), .val (.long i0), .second, .val (.long i2), .second, .val (.int (0 : Int32)), .val (.ref b17)]) rfl ?_
          show Steps p.tables e below (T19.setTop (mkF m 121 #[.val (.long i0), .second, .val (.long i1), .second, .val (.long i2), .second, .val (.long i3), .second, .val (.int i4), .val (.int (i4 &&& (3 : Int32))), .val (.long i0), .second, .val (.long i2), .second, .val (.int (0 : Int32)), .val (.ref b17)] [])) _
          refine XS.aload X19.here hx rfl (hb hby at_121) rfl rfl ?_
          show Steps p.tables e below (T19.setTop (mkF m 123 #[.val (.long i0), .second, .val (.long i1), .second, .val (.long i2), .second, .val (.long i3), .second, .val (.int i4), .val (.int (i4 &&& (3 : Int32))), .val (.long i0), .second, .val (.long i2), .second, .val (.int (0 : Int32)), .val (.ref b17)] [(.ref b17)])) _
          refine st21.trans ?_
          show Steps p.tables e below (T21.setTop (mkF m 126 #[.val (.long i0), .second, .val (.long i1), .second, .val (.long i2), .second, .val (.long i3), .second, .val (.int i4), .val (.int (i4 &&& (3 : Int32))), .val (.long i0), .second, .val (.long i2), .second, .val (.int (0 : Int32)), .val (.ref b17)] [(.int (own_c i0 i0 i2))])) _
          refine XS.iload X21.here hx rfl (hb hby at_126) rfl ?_
          show Steps p.tables e below (T21.setTop (mkF m 128 #[.val (.long i0), .second, .val (.long i1), .second, .val (.long i2), .second, .val (.long i3), .second, .val (.int i4), .val (.int (i4 &&& (3 : Int32))), .val (.long i0), .second, .val (.long i2), .second, .val (.int (0 : Int32)), .val (.ref b17)] [(.int (0 : Int32)), (.int (own_c i0 i0 i2))])) _
          refine XS.icmpNo X21.here hx rfl (hb hby at_128) rfl (teq (by simp [own_c, own_up, own_xor, hc2, hc9, hc11])).2 ?_
          show Steps p.tables e below (T21.setTop (mkF m 131 #[.val (.long i0), .second, .val (.long i1), .second, .val (.long i2), .second, .val (.long i3), .second, .val (.int i4), .val (.int (i4 &&& (3 : Int32))), .val (.long i0), .second, .val (.long i2), .second, .val (.int (0 : Int32)), .val (.ref b17)] [])) _
          refine XS.iconst X21.here hx rfl (hb hby at_131) ?_
          show Steps p.tables e below (T21.setTop (mkF m 132 #[.val (.long i0), .second, .val (.long i1), .second, .val (.long i2), .second, .val (.long i3), .second, .val (.int i4), .val (.int (i4 &&& (3 : Int32))), .val (.long i0), .second, .val (.long i2), .second, .val (.int (0 : Int32)), .val (.ref b17)] [(.int (1 : Int32))])) _
          refine XS.goto X21.here hx rfl (pc0 := 132) (pc' := 136) rfl (hb hby at_132) (by decide) (by decide) ?_
          show Steps p.tables e below (T21.setTop (mkF m 136 #[.val (.long i0), .second, .val (.long i1), .second, .val (.long i2), .second, .val (.long i3), .second, .val (.int i4), .val (.int (i4 &&& (3 : Int32))), .val (.long i0), .second, .val (.long i2), .second, .val (.int (0 : Int32)), .val (.ref b17)] [(.int (1 : Int32))])) _
          exact retN X21 hx (t := .boolean) Bd.returns (by simp) (hb hby at_136) hr
        · show QL n0 _ T21.heap _
          rw [hh21]
          exact ⟨rfl, N21⟩
    · skip
      have pre22 : ∀ t, Steps p.tables e below (s₁.setTop (mkF m 56 #[.val (.long i0), .second, .val (.long i1), .second, .val (.long i2), .second, .val (.long i3), .second, .val (.int i4), .val (.int (i4 &&& (3 : Int32))), .unset, .unset, .unset, .unset, .unset, .unset] [(.int (2 : Int32)), (.int (i4 &&& (3 : Int32)))])) t → Steps p.tables e below (s₁.setTop (entryFrame m #[(.long i0), (.long i1), (.long i2), (.long i3), (.int i4)] maxLocals)) t := fun t kt => pre8 t (by
          show Steps p.tables e below (s₁.setTop (mkF m 26 #[.val (.long i0), .second, .val (.long i1), .second, .val (.long i2), .second, .val (.long i3), .second, .val (.int i4), .val (.int (i4 &&& (3 : Int32))), .unset, .unset, .unset, .unset, .unset, .unset] [(.int (1 : Int32)), (.int (i4 &&& (3 : Int32)))])) _
          refine XS.icmpYes X0.here hx rfl (pc0 := 26) (pc' := 53) rfl (hb hby at_26) rfl (feq hc9).2 (by decide) (by decide) ?_
          show Steps p.tables e below (s₁.setTop (mkF m 53 #[.val (.long i0), .second, .val (.long i1), .second, .val (.long i2), .second, .val (.long i3), .second, .val (.int i4), .val (.int (i4 &&& (3 : Int32))), .unset, .unset, .unset, .unset, .unset, .unset] [])) _
          refine XS.iload X0.here hx rfl (hb hby at_53) rfl ?_
          show Steps p.tables e below (s₁.setTop (mkF m 55 #[.val (.long i0), .second, .val (.long i1), .second, .val (.long i2), .second, .val (.long i3), .second, .val (.int i4), .val (.int (i4 &&& (3 : Int32))), .unset, .unset, .unset, .unset, .unset, .unset] [(.int (i4 &&& (3 : Int32)))])) _
          refine XS.iconst X0.here hx rfl (hb hby at_55) ?_
          exact kt)
      by_cases hc23 : (i4 &&& (3 : Int32)) = (2 : Int32)
      · skip
        have pre24 : ∀ t, Steps p.tables e below (s₁.setTop (mkF m 62 #[.val (.long i0), .second, .val (.long i1), .second, .val (.long i2), .second, .val (.long i3), .second, .val (.int i4), .val (.int (i4 &&& (3 : Int32))), .unset, .unset, .unset, .unset, .unset, .unset] [(.int (lcmpW i1 i0))])) t → Steps p.tables e below (s₁.setTop (entryFrame m #[(.long i0), (.long i1), (.long i2), (.long i3), (.int i4)] maxLocals)) t := fun t kt => pre22 t (by
            show Steps p.tables e below (s₁.setTop (mkF m 56 #[.val (.long i0), .second, .val (.long i1), .second, .val (.long i2), .second, .val (.long i3), .second, .val (.int i4), .val (.int (i4 &&& (3 : Int32))), .unset, .unset, .unset, .unset, .unset, .unset] [(.int (2 : Int32)), (.int (i4 &&& (3 : Int32)))])) _
            refine XS.icmpNo X0.here hx rfl (hb hby at_56) rfl (teq hc23).2 ?_
            show Steps p.tables e below (s₁.setTop (mkF m 59 #[.val (.long i0), .second, .val (.long i1), .second, .val (.long i2), .second, .val (.long i3), .second, .val (.int i4), .val (.int (i4 &&& (3 : Int32))), .unset, .unset, .unset, .unset, .unset, .unset] [])) _
            refine XS.lloadN X0.here hx rfl (hb hby at_59) rfl ?_
            show Steps p.tables e below (s₁.setTop (mkF m 60 #[.val (.long i0), .second, .val (.long i1), .second, .val (.long i2), .second, .val (.long i3), .second, .val (.int i4), .val (.int (i4 &&& (3 : Int32))), .unset, .unset, .unset, .unset, .unset, .unset] [(.long i1)])) _
            refine XS.lloadN X0.here hx rfl (hb hby at_60) rfl ?_
            show Steps p.tables e below (s₁.setTop (mkF m 61 #[.val (.long i0), .second, .val (.long i1), .second, .val (.long i2), .second, .val (.long i3), .second, .val (.int i4), .val (.int (i4 &&& (3 : Int32))), .unset, .unset, .unset, .unset, .unset, .unset] [(.long i0), (.long i1)])) _
            refine XS.lcmp X0.here hx rfl (hb hby at_61) rfl ?_
            exact kt)
        by_cases hc25 : i1 = i0
        · skip
          obtain ⟨T26, h26, X26, e26, E26, A26, D26, -, st26⟩ := newO X0 hx hZ hown (hw _ (List.mem_of_getElem? (i := 0) rfl)) (hw _ (List.mem_of_getElem? (i := 1) rfl)) (hw _ (List.mem_of_getElem? (i := 2) rfl)) e0 (g := (mkF m 105 #[.val (.long i0), .second, .val (.long i1), .second, .val (.long i2), .second, .val (.long i3), .second, .val (.int i4), .val (.int (i4 &&& (3 : Int32))), .val (.long (i0 + (1 : Int64))), .second, .val (.long (0 : Int64)), .second, .val (.int (0 : Int32)), .unset] [])) rfl (hb hby at_105) (by decide) (by decide)
          obtain ⟨b26, g26⟩ : ∃ z, z = h0.size := ⟨_, rfl⟩
          rw [← g26] at A26 D26 st26
          have gb26 : n0 ≤ b26 := by rw [g26, ← O0.1]; exact O0.2.1
          have F26_expected : Fld Z h26 b26 "com/example/carbonfold/carbonfold/bench/Fanout$Result" "expected" "J" (.long (0 : Int64)) := D26 (Or.inr (hw _ (List.mem_of_getElem? (i := 15) rfl))) (ty := .long) (by decide)
          have F26_seen : Fld Z h26 b26 "com/example/carbonfold/carbonfold/bench/Fanout$Result" "seen" "J" (.long (0 : Int64)) := D26 (Or.inr (hw _ (List.mem_of_getElem? (i := 17) rfl))) (ty := .long) (by decide)
          have F26_extra : Fld Z h26 b26 "com/example/carbonfold/carbonfold/bench/Fanout$Result" "extra" "J" (.long (0 : Int64)) := D26 (Or.inr (hw _ (List.mem_of_getElem? (i := 19) rfl))) (ty := .long) (by decide)
          have F26_nanos : Fld Z h26 b26 "com/example/carbonfold/carbonfold/bench/Fanout$Result" "nanos" "J" (.long (0 : Int64)) := D26 (Or.inr (hw _ (List.mem_of_getElem? (i := 21) rfl))) (ty := .long) (by decide)
          have O27 : Old Z n0 h26 := (O0.ext E26)
          obtain ⟨_, _, ⟨T28, L28, k28, n28⟩, -, X28, ⟨Lc28, hQ28, l28, y28, z28⟩, st28⟩ := X26.specialBack hx (y := (⟨"com/example/carbonfold/carbonfold/bench/Fanout$Result", "<init>", "(JJJJ)V"⟩ : MethodName)) rfl hown (mvT hZ (hw _ (List.mem_of_getElem? (i := 3) rfl))) (mvT hZ (hw _ (List.mem_of_getElem? (i := 4) rfl))) (mvT hZ (hw _ (List.mem_of_getElem? (i := 5) rfl))) (by decide) (backOf (W := 1) (rmI l Z a0 hw [] b26 i0 (i0 + (1 : Int64)) (0 : Int64) i3 h26 n0 O27 A26 F26_expected F26_seen F26_extra F26_nanos gb26) hZ (hw _ (List.mem_of_getElem? (i := 5) rfl)) (hw _ (List.mem_of_getElem? (i := 2) rfl)) (by decide) (by decide)) (g := (mkF m 116 #[.val (.long i0), .second, .val (.long i1), .second, .val (.long i2), .second, .val (.long i3), .second, .val (.int i4), .val (.int (i4 &&& (3 : Int32))), .val (.long (i0 + (1 : Int64))), .second, .val (.long (0 : Int64)), .second, .val (.int (0 : Int32)), .unset] [(.long i3), (.long (0 : Int64)), (.long (i0 + (1 : Int64))), (.long i0), (.ref b26), (.ref b26)])) rfl (by rw [hml]; rfl) (Steps.refl _) (a := b26) (argsL := [(.long i0), (.long (i0 + (1 : Int64))), (.long (0 : Int64)), (.long i3)]) (rest := [(.ref b26)]) (lenOf pd_1 rfl) rfl (by show 2 * 0 + _ ≤ _; exact Nat.le_of_eq rfl) (hb hby at_116) (fun _ _ => ⟨rfl, e26, (by decide : 1 + 0 ≤ _), (by decide : 4 + 0 ≤ _)⟩)
          dsimp only [Pt.U, Pt.locs, Pt.cells, Pt.slots] at X28 l28 y28 z28 st28 hQ28
          subst l28 y28 z28
          obtain ⟨rfl, N28q, K28, Ex28, F28_expected, F28_seen, F28_extra, F28_nanos⟩ := hQ28
          have N28 := Fr.app N0 N28q
          have O29 : Old Z n0 T28.heap := (O27.keep K28 (allS gb26 all0))
          obtain ⟨cq30, kq30, q30a, q30b, q30c⟩ := isOf hZ rfl Ex28
          obtain ⟨_, _, ⟨T30, L30, k30, n30⟩, -, X30, ⟨Lc30, hQ30, l30, y30, z30⟩, st30⟩ := X28.virtualBack hx (y := (⟨"com/example/carbonfold/carbonfold/bench/Fanout$Result", "complete", "()Z"⟩ : MethodName)) (z := (⟨"com/example/carbonfold/carbonfold/bench/Fanout$Result", "complete", "()Z"⟩ : MethodName)) hown (mvT hZ (hw _ (List.mem_of_getElem? (i := 22) rfl))) (mvT hZ (hw _ (List.mem_of_getElem? (i := 23) rfl))) (notFace_of_selects (args := #[]) (mvT hZ (hw _ (List.mem_of_getElem? (i := 25) rfl)))) (mvT hZ (hw _ (List.mem_of_getElem? (i := 25) rfl))) (mvT hZ (hw _ (List.mem_of_getElem? (i := 24) rfl))) (by decide) (backOf (W := 0) (rmC l Z a0 hw [] b26 i0 (i0 + (1 : Int64)) (0 : Int64) T28.heap n0 O29 F28_expected F28_seen F28_extra) hZ (hw _ (List.mem_of_getElem? (i := 26) rfl)) (hw _ (List.mem_of_getElem? (i := 2) rfl)) (by decide) (by decide)) q30a q30c (g := (mkF m 123 #[.val (.long i0), .second, .val (.long i1), .second, .val (.long i2), .second, .val (.long i3), .second, .val (.int i4), .val (.int (i4 &&& (3 : Int32))), .val (.long (i0 + (1 : Int64))), .second, .val (.long (0 : Int64)), .second, .val (.int (0 : Int32)), .val (.ref b26)] [(.ref b26)])) rfl (by rw [hml]; rfl) (Steps.refl _) (argsL := []) (rest := []) (lenOf pd_2 rfl) rfl (by show 2 * 0 + _ ≤ _; exact Nat.le_of_eq rfl) (hb hby at_123) (fun _ _ => ⟨rfl, rfl, (by decide : 1 + 0 ≤ _), (by decide : 4 + 0 ≤ _)⟩)
          dsimp only [Pt.U, Pt.locs, Pt.cells, Pt.slots] at X30 l30 y30 z30 st30 hQ30
          subst l30 y30 z30
          obtain ⟨rfl, N30q, hh30⟩ := hQ30
          have N30 := Fr.app N28 N30q
          obtain ⟨fs, hr, hrun, hended, hW, hsame⟩ := X30.leave (v := some (.int (1 : Int32))) (fun h => by rw [Bd.returns] at h; cases h)
          refine ⟨_, _, pre24 _ ?_, hrun, hended, _, _, rfl, ?_, ⟨_, rfl⟩, hW, hsame.mono (by decide) (by decide)⟩
          · skip
            show Steps p.tables e below (s₁.setTop (mkF m 62 #[.val (.long i0), .second, .val (.long i1), .second, .val (.long i2), .second, .val (.long i3), .second, .val (.int i4), .val (.int (i4 &&& (3 : Int32))), .unset, .unset, .unset, .unset, .unset, .unset] [(.int (lcmpW i1 i0))])) _
            refine XS.ifNo X0.here hx rfl (hb hby at_62) rfl ((if0 _ _).trans (teq ((lw_eq _ _).mpr hc25)).2) ?_
            show Steps p.tables e below (s₁.setTop (mkF m 65 #[.val (.long i0), .second, .val (.long i1), .second, .val (.long i2), .second, .val (.long i3), .second, .val (.int i4), .val (.int (i4 &&& (3 : Int32))), .unset, .unset, .unset, .unset, .unset, .unset] [])) _
            refine XS.lloadN X0.here hx rfl (hb hby at_65) rfl ?_
            show Steps p.tables e below (s₁.setTop (mkF m 66 #[.val (.long i0), .second, .val (.long i1), .second, .val (.long i2), .second, .val (.long i3), .second, .val (.int i4), .val (.int (i4 &&& (3 : Int32))), .unset, .unset, .unset, .unset, .unset, .unset] [(.long i0)])) _
            refine XS.lconst X0.here hx rfl (hb hby at_66) ?_
            show Steps p.tables e below (s₁.setTop (mkF m 67 #[.val (.long i0), .second, .val (.long i1), .second, .val (.long i2), .second, .val (.long i3), .second, .val (.int i4), .val (.int (i4 &&& (3 : Int32))), .unset, .unset, .unset, .unset, .unset, .unset] [(.long (1 : Int64)), (.long i0)])) _
            refine XS.ladd X0.here hx rfl (hb hby at_67) rfl ?_
            show Steps p.tables e below (s₁.setTop (mkF m 68 #[.val (.long i0), .second, .val (.long i1), .second, .val (.long i2), .second, .val (.long i3), .second, .val (.int i4), .val (.int (i4 &&& (3 : Int32))), .unset, .unset, .unset, .unset, .unset, .unset] [(.long (i0 + (1 : Int64)))])) _
            refine XS.goto X0.here hx rfl (pc0 := 68) (pc' := 72) rfl (hb hby at_68) (by decide) (by decide) ?_
            show Steps p.tables e below (s₁.setTop (mkF m 72 #[.val (.long i0), .second, .val (.long i1), .second, .val (.long i2), .second, .val (.long i3), .second, .val (.int i4), .val (.int (i4 &&& (3 : Int32))), .unset, .unset, .unset, .unset, .unset, .unset] [(.long (i0 + (1 : Int64)))])) _
            refine XS.lstore X0.here hx rfl (hb hby at_72) rfl (l' := #[.val (.long i0), .second, .val (.long i1), .second, .val (.long i2), .second, .val (.long i3), .second, .val (.int i4), .val (.int (i4 &&& (3 : Int32))), .val (.long (i0 + (1 : Int64))), .second, .unset, .unset, .unset, .unset]) rfl ?_
            show Steps p.tables e below (s₁.setTop (mkF m 74 #[.val (.long i0), .second, .val (.long i1), .second, .val (.long i2), .second, .val (.long i3), .second, .val (.int i4), .val (.int (i4 &&& (3 : Int32))), .val (.long (i0 + (1 : Int64))), .second, .unset, .unset, .unset, .unset] [])) _
            refine XS.lconst X0.here hx rfl (hb hby at_74) ?_
            show Steps p.tables e below (s₁.setTop (mkF m 75 #[.val (.long i0), .second, .val (.long i1), .second, .val (.long i2), .second, .val (.long i3), .second, .val (.int i4), .val (.int (i4 &&& (3 : Int32))), .val (.long (i0 + (1 : Int64))), .second, .unset, .unset, .unset, .unset] [(.long (0 : Int64))])) _
            refine XS.lstore X0.here hx rfl (hb hby at_75) rfl (l' := #[.val (.long i0), .second, .val (.long i1), .second, .val (.long i2), .second, .val (.long i3), .second, .val (.int i4), .val (.int (i4 &&& (3 : Int32))), .val (.long (i0 + (1 : Int64))), .second, .val (.long (0 : Int64)), .second, .unset, .unset]) rfl ?_
            show Steps p.tables e below (s₁.setTop (mkF m 77 #[.val (.long i0), .second, .val (.long i1), .second, .val (.long i2), .second, .val (.long i3), .second, .val (.int i4), .val (.int (i4 &&& (3 : Int32))), .val (.long (i0 + (1 : Int64))), .second, .val (.long (0 : Int64)), .second, .unset, .unset] [])) _
            refine XS.iconst X0.here hx rfl (hb hby at_77) ?_
            show Steps p.tables e below (s₁.setTop (mkF m 78 #[.val (.long i0), .second, .val (.long i1), .second, .val (.long i2), .second, .val (.long i3), .second, .val (.int i4), .val (.int (i4 &&& (3 : Int32))), .val (.long (i0 + (1 : Int64))), .second, .val (.long (0 : Int64)), .second, .unset, .unset] [(.int (0 : Int32))])) _
            refine XS.istore X0.here hx rfl (hb hby at_78) rfl (l' := #[.val (.long i0), .second, .val (.long i1), .second, .val (.long i2), .second, .val (.long i3), .second, .val (.int i4), .val (.int (i4 &&& (3 : Int32))), .val (.long (i0 + (1 : Int64))), .second, .val (.long (0 : Int64)), .second, .val (.int (0 : Int32)), .unset]) rfl ?_
            show Steps p.tables e below (s₁.setTop (mkF m 80 #[.val (.long i0), .second, .val (.long i1), .second, .val (.long i2), .second, .val (.long i3), .second, .val (.int i4), .val (.int (i4 &&& (3 : Int32))), .val (.long (i0 + (1 : Int64))), .second, .val (.long (0 : Int64)), .second, .val (.int (0 : Int32)), .unset] [])) _
            refine XS.goto X0.here hx rfl (pc0 := 80) (pc' := 105) rfl (hb hby at_80) (by decide) (by decide) ?_
            show Steps p.tables e below (s₁.setTop (mkF m 105 #[.val (.long i0), .second, .val (.long i1), .second, .val (.long i2), .second, .val (.long i3), .second, .val (.int i4), .val (.int (i4 &&& (3 : Int32))), .val (.long (i0 + (1 : Int64))), .second, .val (.long (0 : Int64)), .second, .val (.int (0 : Int32)), .unset] [])) _
            refine st26 _ ?_
            show Steps p.tables e below (T26.setTop (mkF m 108 #[.val (.long i0), .second, .val (.long i1), .second, .val (.long i2), .second, .val (.long i3), .second, .val (.int i4), .val (.int (i4 &&& (3 : Int32))), .val (.long (i0 + (1 : Int64))), .second, .val (.long (0 : Int64)), .second, .val (.int (0 : Int32)), .unset] [(.ref b26)])) _
            refine XS.dup X26.here hx rfl (hb hby at_108) rfl rfl ?_
            show Steps p.tables e below (T26.setTop (mkF m 109 #[.val (.long i0), .second, .val (.long i1), .second, .val (.long i2), .second, .val (.long i3), .second, .val (.int i4), .val (.int (i4 &&& (3 : Int32))), .val (.long (i0 + (1 : Int64))), .second, .val (.long (0 : Int64)), .second, .val (.int (0 : Int32)), .unset] [(.ref b26), (.ref b26)])) _
            refine XS.lloadN X26.here hx rfl (hb hby at_109) rfl ?_
            show Steps p.tables e below (T26.setTop (mkF m 110 #[.val (.long i0), .second, .val (.long i1), .second, .val (.long i2), .second, .val (.long i3), .second, .val (.int i4), .val (.int (i4 &&& (3 : Int32))), .val (.long (i0 + (1 : Int64))), .second, .val (.long (0 : Int64)), .second, .val (.int (0 : Int32)), .unset] [(.long i0), (.ref b26), (.ref b26)])) _
            refine XS.lload X26.here hx rfl (hb hby at_110) rfl ?_
            show Steps p.tables e below (T26.setTop (mkF m 112 #[.val (.long i0), .second, .val (.long i1), .second, .val (.long i2), .second, .val (.long i3), .second, .val (.int i4), .val (.int (i4 &&& (3 : Int32))), .val (.long (i0 + (1 : Int64))), .second, .val (.long (0 : Int64)), .second, .val (.int (0 : Int32)), .unset] [(.long (i0 + (1 : Int64))), (.long i0), (.ref b26), (.ref b26)])) _
            refine XS.lload X26.here hx rfl (hb hby at_112) rfl ?_
            show Steps p.tables e below (T26.setTop (mkF m 114 #[.val (.long i0), .second, .val (.long i1), .second, .val (.long i2), .second, .val (.long i3), .second, .val (.int i4), .val (.int (i4 &&& (3 : Int32))), .val (.long (i0 + (1 : Int64))), .second, .val (.long (0 : Int64)), .second, .val (.int (0 : Int32)), .unset] [(.long (0 : Int64)), (.long (i0 + (1 : Int64))), (.long i0), (.ref b26), (.ref b26)])) _
            refine XS.lload X26.here hx rfl (hb hby at_114) rfl ?_
            show Steps p.tables e below (T26.setTop (mkF m 116 #[.val (.long i0), .second, .val (.long i1), .second, .val (.long i2), .second, .val (.long i3), .second, .val (.int i4), .val (.int (i4 &&& (3 : Int32))), .val (.long (i0 + (1 : Int64))), .second, .val (.long (0 : Int64)), .second, .val (.int (0 : Int32)), .unset] [(.long i3), (.long (0 : Int64)), (.long (i0 + (1 : Int64))), (.long i0), (.ref b26), (.ref b26)])) _
            refine st28.trans ?_
            show Steps p.tables e below (T28.setTop (mkF m 119 #[.val (.long i0), .second, .val (.long i1), .second, .val (.long i2), .second, .val (.long i3), .second, .val (.int i4), .val (.int (i4 &&& (3 : Int32))), .val (.long (i0 + (1 : Int64))), .second, .val (.long (0 : Int64)), .second, .val (.int (0 : Int32)), .unset] [(.ref b26)])) _
            refine XS.astore X28.here hx rfl (hb hby at_119) rfl rfl (l' := #[.val (.long i0), .second, .val (.long i1), .second, .val (.long i2), .second, .val (.long i3), .second, .val (.int i4), .val (.int (i4 &&& (3 : Int32))), .val (.long (i0 + (1 : Int64))), .second, .val (.long (0 : Int64)), .second, .val (.int (0 : Int32)), .val (.ref b26)]) rfl ?_
            show Steps p.tables e below (T28.setTop (mkF m 121 #[.val (.long i0), .second, .val (.long i1), .second, .val (.long i2), .second, .val (.long i3), .second, .val (.int i4), .val (.int (i4 &&& (3 : Int32))), .val (.long (i0 + (1 : Int64))), .second, .val (.long (0 : Int64)), .second, .val (.int (0 : Int32)), .val (.ref b26)] [])) _
            refine XS.aload X28.here hx rfl (hb hby at_121) rfl rfl ?_
            show Steps p.tables e below (T28.setTop (mkF m 123 #[.val (.long i0), .second, .val (.long i1), .second, .val (.long i2), .second, .val (.long i3), .second, .val (.int i4), .val (.int (i4 &&& (3 : Int32))), .val (.long (i0 + (1 : Int64))), .second, .val (.long (0 : Int64)), .second, .val (.int (0 : Int32)), .val (.ref b26)] [(.ref b26)])) _
            refine st30.trans ?_
            show Steps p.tables e below (T30.setTop (mkF m 126 #[.val (.long i0), .second, .val (.long i1), .second, .val (.long i2), .second, .val (.long i3), .second, .val (.int i4), .val (.int (i4 &&& (3 : Int32))), .val (.long (i0 + (1 : Int64))), .second, .val (.long (0 : Int64)), .second, .val (.int (0 : Int32)), .val (.ref b26)] [(.int (own_c i0 (i0 + (1 : Int64)) (0 : Int64)))])) _
            refine XS.iload X30.here hx rfl (hb hby at_126) rfl ?_
            show Steps p.tables e below (T30.setTop (mkF m 128 #[.val (.long i0), .second, .val (.long i1), .second, .val (.long i2), .second, .val (.long i3), .second, .val (.int i4), .val (.int (i4 &&& (3 : Int32))), .val (.long (i0 + (1 : Int64))), .second, .val (.long (0 : Int64)), .second, .val (.int (0 : Int32)), .val (.ref b26)] [(.int (0 : Int32)), (.int (own_c i0 (i0 + (1 : Int64)) (0 : Int64)))])) _
            refine XS.icmpNo X30.here hx rfl (hb hby at_128) rfl (teq (by simp [own_c, own_up, own_xor, hc2, hc9, hc23, hc25])).2 ?_
            show Steps p.tables e below (T30.setTop (mkF m 131 #[.val (.long i0), .second, .val (.long i1), .second, .val (.long i2), .second, .val (.long i3), .second, .val (.int i4), .val (.int (i4 &&& (3 : Int32))), .val (.long (i0 + (1 : Int64))), .second, .val (.long (0 : Int64)), .second, .val (.int (0 : Int32)), .val (.ref b26)] [])) _
            refine XS.iconst X30.here hx rfl (hb hby at_131) ?_
            show Steps p.tables e below (T30.setTop (mkF m 132 #[.val (.long i0), .second, .val (.long i1), .second, .val (.long i2), .second, .val (.long i3), .second, .val (.int i4), .val (.int (i4 &&& (3 : Int32))), .val (.long (i0 + (1 : Int64))), .second, .val (.long (0 : Int64)), .second, .val (.int (0 : Int32)), .val (.ref b26)] [(.int (1 : Int32))])) _
            refine XS.goto X30.here hx rfl (pc0 := 132) (pc' := 136) rfl (hb hby at_132) (by decide) (by decide) ?_
            show Steps p.tables e below (T30.setTop (mkF m 136 #[.val (.long i0), .second, .val (.long i1), .second, .val (.long i2), .second, .val (.long i3), .second, .val (.int i4), .val (.int (i4 &&& (3 : Int32))), .val (.long (i0 + (1 : Int64))), .second, .val (.long (0 : Int64)), .second, .val (.int (0 : Int32)), .val (.ref b26)] [(.int (1 : Int32))])) _
            exact retN X30 hx (t := .boolean) Bd.returns (by simp) (hb hby at_136) hr
          · show QL n0 _ T30.heap _
            rw [hh30]
            exact ⟨rfl, N30⟩
        · skip
          obtain ⟨T31, h31, X31, e31, E31, A31, D31, -, st31⟩ := newO X0 hx hZ hown (hw _ (List.mem_of_getElem? (i := 0) rfl)) (hw _ (List.mem_of_getElem? (i := 1) rfl)) (hw _ (List.mem_of_getElem? (i := 2) rfl)) e0 (g := (mkF m 105 #[.val (.long i0), .second, .val (.long i1), .second, .val (.long i2), .second, .val (.long i3), .second, .val (.int i4), .val (.int (i4 &&& (3 : Int32))), .val (.long i1), .second, .val (.long (0 : Int64)), .second, .val (.int (0 : Int32)), .unset] [])) rfl (hb hby at_105) (by decide) (by decide)
          obtain ⟨b31, g31⟩ : ∃ z, z = h0.size := ⟨_, rfl⟩
          rw [← g31] at A31 D31 st31
          have gb31 : n0 ≤ b31 := by rw [g31, ← O0.1]; exact O0.2.1
          have F31_expected : Fld Z h31 b31 "com/example/carbonfold/carbonfold/bench/Fanout$Result" "expected" "J" (.long (0 : Int64)) := D31 (Or.inr (hw _ (List.mem_of_getElem? (i := 15) rfl))) (ty := .long) (by decide)
          have F31_seen : Fld Z h31 b31 "com/example/carbonfold/carbonfold/bench/Fanout$Result" "seen" "J" (.long (0 : Int64)) := D31 (Or.inr (hw _ (List.mem_of_getElem? (i := 17) rfl))) (ty := .long) (by decide)
          have F31_extra : Fld Z h31 b31 "com/example/carbonfold/carbonfold/bench/Fanout$Result" "extra" "J" (.long (0 : Int64)) := D31 (Or.inr (hw _ (List.mem_of_getElem? (i := 19) rfl))) (ty := .long) (by decide)
          have F31_nanos : Fld Z h31 b31 "com/example/carbonfold/carbonfold/bench/Fanout$Result" "nanos" "J" (.long (0 : Int64)) := D31 (Or.inr (hw _ (List.mem_of_getElem? (i := 21) rfl))) (ty := .long) (by decide)
          have O32 : Old Z n0 h31 := (O0.ext E31)
          obtain ⟨_, _, ⟨T33, L33, k33, n33⟩, -, X33, ⟨Lc33, hQ33, l33, y33, z33⟩, st33⟩ := X31.specialBack hx (y := (⟨"com/example/carbonfold/carbonfold/bench/Fanout$Result", "<init>", "(JJJJ)V"⟩ : MethodName)) rfl hown (mvT hZ (hw _ (List.mem_of_getElem? (i := 3) rfl))) (mvT hZ (hw _ (List.mem_of_getElem? (i := 4) rfl))) (mvT hZ (hw _ (List.mem_of_getElem? (i := 5) rfl))) (by decide) (backOf (W := 1) (rmI l Z a0 hw [] b31 i0 i1 (0 : Int64) i3 h31 n0 O32 A31 F31_expected F31_seen F31_extra F31_nanos gb31) hZ (hw _ (List.mem_of_getElem? (i := 5) rfl)) (hw _ (List.mem_of_getElem? (i := 2) rfl)) (by decide) (by decide)) (g := (mkF m 116 #[.val (.long i0), .second, .val (.long i1), .second, .val (.long i2), .second, .val (.long i3), .second, .val (.int i4), .val (.int (i4 &&& (3 : Int32))), .val (.long i1), .second, .val (.long (0 : Int64)), .second, .val (.int (0 : Int32)), .unset] [(.long i3), (.long (0 : Int64)), (.long i1), (.long i0), (.ref b31), (.ref b31)])) rfl (by rw [hml]; rfl) (Steps.refl _) (a := b31) (argsL := [(.long i0), (.long i1), (.long (0 : Int64)), (.long i3)]) (rest := [(.ref b31)]) (lenOf pd_1 rfl) rfl (by show 2 * 0 + _ ≤ _; exact Nat.le_of_eq rfl) (hb hby at_116) (fun _ _ => ⟨rfl, e31, (by decide : 1 + 0 ≤ _), (by decide : 4 + 0 ≤ _)⟩)
          dsimp only [Pt.U, Pt.locs, Pt.cells, Pt.slots] at X33 l33 y33 z33 st33 hQ33
          subst l33 y33 z33
          obtain ⟨rfl, N33q, K33, Ex33, F33_expected, F33_seen, F33_extra, F33_nanos⟩ := hQ33
          have N33 := Fr.app N0 N33q
          have O34 : Old Z n0 T33.heap := (O32.keep K33 (allS gb31 all0))
          obtain ⟨cq35, kq35, q35a, q35b, q35c⟩ := isOf hZ rfl Ex33
          obtain ⟨_, _, ⟨T35, L35, k35, n35⟩, -, X35, ⟨Lc35, hQ35, l35, y35, z35⟩, st35⟩ := X33.virtualBack hx (y := (⟨"com/example/carbonfold/carbonfold/bench/Fanout$Result", "complete", "()Z"⟩ : MethodName)) (z := (⟨"com/example/carbonfold/carbonfold/bench/Fanout$Result", "complete", "()Z"⟩ : MethodName)) hown (mvT hZ (hw _ (List.mem_of_getElem? (i := 22) rfl))) (mvT hZ (hw _ (List.mem_of_getElem? (i := 23) rfl))) (notFace_of_selects (args := #[]) (mvT hZ (hw _ (List.mem_of_getElem? (i := 25) rfl)))) (mvT hZ (hw _ (List.mem_of_getElem? (i := 25) rfl))) (mvT hZ (hw _ (List.mem_of_getElem? (i := 24) rfl))) (by decide) (backOf (W := 0) (rmC l Z a0 hw [] b31 i0 i1 (0 : Int64) T33.heap n0 O34 F33_expected F33_seen F33_extra) hZ (hw _ (List.mem_of_getElem? (i := 26) rfl)) (hw _ (List.mem_of_getElem? (i := 2) rfl)) (by decide) (by decide)) q35a q35c (g := (mkF m 123 #[.val (.long i0), .second, .val (.long i1), .second, .val (.long i2), .second, .val (.long i3), .second, .val (.int i4), .val (.int (i4 &&& (3 : Int32))), .val (.long i1), .second, .val (.long (0 : Int64)), .second, .val (.int (0 : Int32)), .val (.ref b31)] [(.ref b31)])) rfl (by rw [hml]; rfl) (Steps.refl _) (argsL := []) (rest := []) (lenOf pd_2 rfl) rfl (by show 2 * 0 + _ ≤ _; exact Nat.le_of_eq rfl) (hb hby at_123) (fun _ _ => ⟨rfl, rfl, (by decide : 1 + 0 ≤ _), (by decide : 4 + 0 ≤ _)⟩)
          dsimp only [Pt.U, Pt.locs, Pt.cells, Pt.slots] at X35 l35 y35 z35 st35 hQ35
          subst l35 y35 z35
          obtain ⟨rfl, N35q, hh35⟩ := hQ35
          have N35 := Fr.app N33 N35q
          obtain ⟨fs, hr, hrun, hended, hW, hsame⟩ := X35.leave (v := some (.int (1 : Int32))) (fun h => by rw [Bd.returns] at h; cases h)
          refine ⟨_, _, pre24 _ ?_, hrun, hended, _, _, rfl, ?_, ⟨_, rfl⟩, hW, hsame.mono (by decide) (by decide)⟩
          · skip
            show Steps p.tables e below (s₁.setTop (mkF m 62 #[.val (.long i0), .second, .val (.long i1), .second, .val (.long i2), .second, .val (.long i3), .second, .val (.int i4), .val (.int (i4 &&& (3 : Int32))), .unset, .unset, .unset, .unset, .unset, .unset] [(.int (lcmpW i1 i0))])) _
            refine XS.ifYes X0.here hx rfl (pc0 := 62) (pc' := 71) rfl (hb hby at_62) rfl ((if0 _ _).trans (feq (mt (lw_eq _ _).mp hc25)).2) (by decide) (by decide) ?_
            show Steps p.tables e below (s₁.setTop (mkF m 71 #[.val (.long i0), .second, .val (.long i1), .second, .val (.long i2), .second, .val (.long i3), .second, .val (.int i4), .val (.int (i4 &&& (3 : Int32))), .unset, .unset, .unset, .unset, .unset, .unset] [])) _
            refine XS.lloadN X0.here hx rfl (hb hby at_71) rfl ?_
            show Steps p.tables e below (s₁.setTop (mkF m 72 #[.val (.long i0), .second, .val (.long i1), .second, .val (.long i2), .second, .val (.long i3), .second, .val (.int i4), .val (.int (i4 &&& (3 : Int32))), .unset, .unset, .unset, .unset, .unset, .unset] [(.long i1)])) _
            refine XS.lstore X0.here hx rfl (hb hby at_72) rfl (l' := #[.val (.long i0), .second, .val (.long i1), .second, .val (.long i2), .second, .val (.long i3), .second, .val (.int i4), .val (.int (i4 &&& (3 : Int32))), .val (.long i1), .second, .unset, .unset, .unset, .unset]) rfl ?_
            show Steps p.tables e below (s₁.setTop (mkF m 74 #[.val (.long i0), .second, .val (.long i1), .second, .val (.long i2), .second, .val (.long i3), .second, .val (.int i4), .val (.int (i4 &&& (3 : Int32))), .val (.long i1), .second, .unset, .unset, .unset, .unset] [])) _
            refine XS.lconst X0.here hx rfl (hb hby at_74) ?_
            show Steps p.tables e below (s₁.setTop (mkF m 75 #[.val (.long i0), .second, .val (.long i1), .second, .val (.long i2), .second, .val (.long i3), .second, .val (.int i4), .val (.int (i4 &&& (3 : Int32))), .val (.long i1), .second, .unset, .unset, .unset, .unset] [(.long (0 : Int64))])) _
            refine XS.lstore X0.here hx rfl (hb hby at_75) rfl (l' := #[.val (.long i0), .second, .val (.long i1), .second, .val (.long i2), .second, .val (.long i3), .second, .val (.int i4), .val (.int (i4 &&& (3 : Int32))), .val (.long i1), .second, .val (.long (0 : Int64)), .second, .unset, .unset]) rfl ?_
            show Steps p.tables e below (s₁.setTop (mkF m 77 #[.val (.long i0), .second, .val (.long i1), .second, .val (.long i2), .second, .val (.long i3), .second, .val (.int i4), .val (.int (i4 &&& (3 : Int32))), .val (.long i1), .second, .val (.long (0 : Int64)), .second, .unset, .unset] [])) _
            refine XS.iconst X0.here hx rfl (hb hby at_77) ?_
            show Steps p.tables e below (s₁.setTop (mkF m 78 #[.val (.long i0), .second, .val (.long i1), .second, .val (.long i2), .second, .val (.long i3), .second, .val (.int i4), .val (.int (i4 &&& (3 : Int32))), .val (.long i1), .second, .val (.long (0 : Int64)), .second, .unset, .unset] [(.int (0 : Int32))])) _
            refine XS.istore X0.here hx rfl (hb hby at_78) rfl (l' := #[.val (.long i0), .second, .val (.long i1), .second, .val (.long i2), .second, .val (.long i3), .second, .val (.int i4), .val (.int (i4 &&& (3 : Int32))), .val (.long i1), .second, .val (.long (0 : Int64)), .second, .val (.int (0 : Int32)), .unset]) rfl ?_
            show Steps p.tables e below (s₁.setTop (mkF m 80 #[.val (.long i0), .second, .val (.long i1), .second, .val (.long i2), .second, .val (.long i3), .second, .val (.int i4), .val (.int (i4 &&& (3 : Int32))), .val (.long i1), .second, .val (.long (0 : Int64)), .second, .val (.int (0 : Int32)), .unset] [])) _
            refine XS.goto X0.here hx rfl (pc0 := 80) (pc' := 105) rfl (hb hby at_80) (by decide) (by decide) ?_
            show Steps p.tables e below (s₁.setTop (mkF m 105 #[.val (.long i0), .second, .val (.long i1), .second, .val (.long i2), .second, .val (.long i3), .second, .val (.int i4), .val (.int (i4 &&& (3 : Int32))), .val (.long i1), .second, .val (.long (0 : Int64)), .second, .val (.int (0 : Int32)), .unset] [])) _
            refine st31 _ ?_
            show Steps p.tables e below (T31.setTop (mkF m 108 #[.val (.long i0), .second, .val (.long i1), .second, .val (.long i2), .second, .val (.long i3), .second, .val (.int i4), .val (.int (i4 &&& (3 : Int32))), .val (.long i1), .second, .val (.long (0 : Int64)), .second, .val (.int (0 : Int32)), .unset] [(.ref b31)])) _
            refine XS.dup X31.here hx rfl (hb hby at_108) rfl rfl ?_
            show Steps p.tables e below (T31.setTop (mkF m 109 #[.val (.long i0), .second, .val (.long i1), .second, .val (.long i2), .second, .val (.long i3), .second, .val (.int i4), .val (.int (i4 &&& (3 : Int32))), .val (.long i1), .second, .val (.long (0 : Int64)), .second, .val (.int (0 : Int32)), .unset] [(.ref b31), (.ref b31)])) _
            refine XS.lloadN X31.here hx rfl (hb hby at_109) rfl ?_
            show Steps p.tables e below (T31.setTop (mkF m 110 #[.val (.long i0), .second, .val (.long i1), .second, .val (.long i2), .second, .val (.long i3), .second, .val (.int i4), .val (.int (i4 &&& (3 : Int32))), .val (.long i1), .second, .val (.long (0 : Int64)), .second, .val (.int (0 : Int32)), .unset] [(.long i0), (.ref b31), (.ref b31)])) _
            refine XS.lload X31.here hx rfl (hb hby at_110) rfl ?_
            show Steps p.tables e below (T31.setTop (mkF m 112 #[.val (.long i0), .second, .val (.long i1), .second, .val (.long i2), .second, .val (.long i3), .second, .val (.int i4), .val (.int (i4 &&& (3 : Int32))), .val (.long i1), .second, .val (.long (0 : Int64)), .second, .val (.int (0 : Int32)), .unset] [(.long i1), (.long i0), (.ref b31), (.ref b31)])) _
            refine XS.lload X31.here hx rfl (hb hby at_112) rfl ?_
            show Steps p.tables e below (T31.setTop (mkF m 114 #[.val (.long i0), .second, .val (.long i1), .second, .val (.long i2), .second, .val (.long i3), .second, .val (.int i4), .val (.int (i4 &&& (3 : Int32))), .val (.long i1), .second, .val (.long (0 : Int64)), .second, .val (.int (0 : Int32)), .unset] [(.long (0 : Int64)), (.long i1), (.long i0), (.ref b31), (.ref b31)])) _
            refine XS.lload X31.here hx rfl (hb hby at_114) rfl ?_
            show Steps p.tables e below (T31.setTop (mkF m 116 #[.val (.long i0), .second, .val (.long i1), .second, .val (.long i2), .second, .val (.long i3), .second, .val (.int i4), .val (.int (i4 &&& (3 : Int32))), .val (.long i1), .second, .val (.long (0 : Int64)), .second, .val (.int (0 : Int32)), .unset] [(.long i3), (.long (0 : Int64)), (.long i1), (.long i0), (.ref b31), (.ref b31)])) _
            refine st33.trans ?_
            show Steps p.tables e below (T33.setTop (mkF m 119 #[.val (.long i0), .second, .val (.long i1), .second, .val (.long i2), .second, .val (.long i3), .second, .val (.int i4), .val (.int (i4 &&& (3 : Int32))), .val (.long i1), .second, .val (.long (0 : Int64)), .second, .val (.int (0 : Int32)), .unset] [(.ref b31)])) _
            refine XS.astore X33.here hx rfl (hb hby at_119) rfl rfl (l' := #[.val (.long i0), .second, .val (.long i1), .second, .val (.long i2), .second, .val (.long i3), .second, .val (.int i4), .val (.int (i4 &&& (3 : Int32))), .val (.long i1), .second, .val (.long (0 : Int64)), .second, .val (.int (0 : Int32)), .val (.ref b31)]) rfl ?_
            show Steps p.tables e below (T33.setTop (mkF m 121 #[.val (.long i0), .second, .val (.long i1), .second, .val (.long i2), .second, .val (.long i3), .second, .val (.int i4), .val (.int (i4 &&& (3 : Int32))), .val (.long i1), .second, .val (.long (0 : Int64)), .second, .val (.int (0 : Int32)), .val (.ref b31)] [])) _
            refine XS.aload X33.here hx rfl (hb hby at_121) rfl rfl ?_
            show Steps p.tables e below (T33.setTop (mkF m 123 #[.val (.long i0), .second, .val (.long i1), .second, .val (.long i2), .second, .val (.long i3), .second, .val (.int i4), .val (.int (i4 &&& (3 : Int32))), .val (.long i1), .second, .val (.long (0 : Int64)), .second, .val (.int (0 : Int32)), .val (.ref b31)] [(.ref b31)])) _
            refine st35.trans ?_
            show Steps p.tables e below (T35.setTop (mkF m 126 #[.val (.long i0), .second, .val (.long i1), .second, .val (.long i2), .second, .val (.long i3), .second, .val (.int i4), .val (.int (i4 &&& (3 : Int32))), .val (.long i1), .second, .val (.long (0 : Int64)), .second, .val (.int (0 : Int32)), .val (.ref b31)] [(.int (own_c i0 i1 (0 : Int64)))])) _
            refine XS.iload X35.here hx rfl (hb hby at_126) rfl ?_
            show Steps p.tables e below (T35.setTop (mkF m 128 #[.val (.long i0), .second, .val (.long i1), .second, .val (.long i2), .second, .val (.long i3), .second, .val (.int i4), .val (.int (i4 &&& (3 : Int32))), .val (.long i1), .second, .val (.long (0 : Int64)), .second, .val (.int (0 : Int32)), .val (.ref b31)] [(.int (0 : Int32)), (.int (own_c i0 i1 (0 : Int64)))])) _
            refine XS.icmpNo X35.here hx rfl (hb hby at_128) rfl (teq (by simp [own_c, own_up, own_xor, hc2, hc9, hc23, hc25])).2 ?_
            show Steps p.tables e below (T35.setTop (mkF m 131 #[.val (.long i0), .second, .val (.long i1), .second, .val (.long i2), .second, .val (.long i3), .second, .val (.int i4), .val (.int (i4 &&& (3 : Int32))), .val (.long i1), .second, .val (.long (0 : Int64)), .second, .val (.int (0 : Int32)), .val (.ref b31)] [])) _
            refine XS.iconst X35.here hx rfl (hb hby at_131) ?_
            show Steps p.tables e below (T35.setTop (mkF m 132 #[.val (.long i0), .second, .val (.long i1), .second, .val (.long i2), .second, .val (.long i3), .second, .val (.int i4), .val (.int (i4 &&& (3 : Int32))), .val (.long i1), .second, .val (.long (0 : Int64)), .second, .val (.int (0 : Int32)), .val (.ref b31)] [(.int (1 : Int32))])) _
            refine XS.goto X35.here hx rfl (pc0 := 132) (pc' := 136) rfl (hb hby at_132) (by decide) (by decide) ?_
            show Steps p.tables e below (T35.setTop (mkF m 136 #[.val (.long i0), .second, .val (.long i1), .second, .val (.long i2), .second, .val (.long i3), .second, .val (.int i4), .val (.int (i4 &&& (3 : Int32))), .val (.long i1), .second, .val (.long (0 : Int64)), .second, .val (.int (0 : Int32)), .val (.ref b31)] [(.int (1 : Int32))])) _
            exact retN X35 hx (t := .boolean) Bd.returns (by simp) (hb hby at_136) hr
          · show QL n0 _ T35.heap _
            rw [hh35]
            exact ⟨rfl, N35⟩
      · skip
        have pre36 : ∀ t, Steps p.tables e below (s₁.setTop (mkF m 86 #[.val (.long i0), .second, .val (.long i1), .second, .val (.long i2), .second, .val (.long i3), .second, .val (.int i4), .val (.int (i4 &&& (3 : Int32))), .unset, .unset, .unset, .unset, .unset, .unset] [(.int (lcmpW i1 i0))])) t → Steps p.tables e below (s₁.setTop (entryFrame m #[(.long i0), (.long i1), (.long i2), (.long i3), (.int i4)] maxLocals)) t := fun t kt => pre22 t (by
            show Steps p.tables e below (s₁.setTop (mkF m 56 #[.val (.long i0), .second, .val (.long i1), .second, .val (.long i2), .second, .val (.long i3), .second, .val (.int i4), .val (.int (i4 &&& (3 : Int32))), .unset, .unset, .unset, .unset, .unset, .unset] [(.int (2 : Int32)), (.int (i4 &&& (3 : Int32)))])) _
            refine XS.icmpYes X0.here hx rfl (pc0 := 56) (pc' := 83) rfl (hb hby at_56) rfl (feq hc23).2 (by decide) (by decide) ?_
            show Steps p.tables e below (s₁.setTop (mkF m 83 #[.val (.long i0), .second, .val (.long i1), .second, .val (.long i2), .second, .val (.long i3), .second, .val (.int i4), .val (.int (i4 &&& (3 : Int32))), .unset, .unset, .unset, .unset, .unset, .unset] [])) _
            refine XS.lloadN X0.here hx rfl (hb hby at_83) rfl ?_
            show Steps p.tables e below (s₁.setTop (mkF m 84 #[.val (.long i0), .second, .val (.long i1), .second, .val (.long i2), .second, .val (.long i3), .second, .val (.int i4), .val (.int (i4 &&& (3 : Int32))), .unset, .unset, .unset, .unset, .unset, .unset] [(.long i1)])) _
            refine XS.lloadN X0.here hx rfl (hb hby at_84) rfl ?_
            show Steps p.tables e below (s₁.setTop (mkF m 85 #[.val (.long i0), .second, .val (.long i1), .second, .val (.long i2), .second, .val (.long i3), .second, .val (.int i4), .val (.int (i4 &&& (3 : Int32))), .unset, .unset, .unset, .unset, .unset, .unset] [(.long i0), (.long i1)])) _
            refine XS.lcmp X0.here hx rfl (hb hby at_85) rfl ?_
            exact kt)
        by_cases hc37 : i1 = i0
        · skip
          obtain ⟨T38, h38, X38, e38, E38, A38, D38, -, st38⟩ := newO X0 hx hZ hown (hw _ (List.mem_of_getElem? (i := 0) rfl)) (hw _ (List.mem_of_getElem? (i := 1) rfl)) (hw _ (List.mem_of_getElem? (i := 2) rfl)) e0 (g := (mkF m 105 #[.val (.long i0), .second, .val (.long i1), .second, .val (.long i2), .second, .val (.long i3), .second, .val (.int i4), .val (.int (i4 &&& (3 : Int32))), .val (.long (i0 ^^^ (1 : Int64))), .second, .val (.long i2), .second, .val (.int (0 : Int32)), .unset] [])) rfl (hb hby at_105) (by decide) (by decide)
          obtain ⟨b38, g38⟩ : ∃ z, z = h0.size := ⟨_, rfl⟩
          rw [← g38] at A38 D38 st38
          have gb38 : n0 ≤ b38 := by rw [g38, ← O0.1]; exact O0.2.1
          have F38_expected : Fld Z h38 b38 "com/example/carbonfold/carbonfold/bench/Fanout$Result" "expected" "J" (.long (0 : Int64)) := D38 (Or.inr (hw _ (List.mem_of_getElem? (i := 15) rfl))) (ty := .long) (by decide)
          have F38_seen : Fld Z h38 b38 "com/example/carbonfold/carbonfold/bench/Fanout$Result" "seen" "J" (.long (0 : Int64)) := D38 (Or.inr (hw _ (List.mem_of_getElem? (i := 17) rfl))) (ty := .long) (by decide)
          have F38_extra : Fld Z h38 b38 "com/example/carbonfold/carbonfold/bench/Fanout$Result" "extra" "J" (.long (0 : Int64)) := D38 (Or.inr (hw _ (List.mem_of_getElem? (i := 19) rfl))) (ty := .long) (by decide)
          have F38_nanos : Fld Z h38 b38 "com/example/carbonfold/carbonfold/bench/Fanout$Result" "nanos" "J" (.long (0 : Int64)) := D38 (Or.inr (hw _ (List.mem_of_getElem? (i := 21) rfl))) (ty := .long) (by decide)
          have O39 : Old Z n0 h38 := (O0.ext E38)
          obtain ⟨_, _, ⟨T40, L40, k40, n40⟩, -, X40, ⟨Lc40, hQ40, l40, y40, z40⟩, st40⟩ := X38.specialBack hx (y := (⟨"com/example/carbonfold/carbonfold/bench/Fanout$Result", "<init>", "(JJJJ)V"⟩ : MethodName)) rfl hown (mvT hZ (hw _ (List.mem_of_getElem? (i := 3) rfl))) (mvT hZ (hw _ (List.mem_of_getElem? (i := 4) rfl))) (mvT hZ (hw _ (List.mem_of_getElem? (i := 5) rfl))) (by decide) (backOf (W := 1) (rmI l Z a0 hw [] b38 i0 (i0 ^^^ (1 : Int64)) i2 i3 h38 n0 O39 A38 F38_expected F38_seen F38_extra F38_nanos gb38) hZ (hw _ (List.mem_of_getElem? (i := 5) rfl)) (hw _ (List.mem_of_getElem? (i := 2) rfl)) (by decide) (by decide)) (g := (mkF m 116 #[.val (.long i0), .second, .val (.long i1), .second, .val (.long i2), .second, .val (.long i3), .second, .val (.int i4), .val (.int (i4 &&& (3 : Int32))), .val (.long (i0 ^^^ (1 : Int64))), .second, .val (.long i2), .second, .val (.int (0 : Int32)), .unset] [(.long i3), (.long i2), (.long (i0 ^^^ (1 : Int64))), (.long i0), (.ref b38), (.ref b38)])) rfl (by rw [hml]; rfl) (Steps.refl _) (a := b38) (argsL := [(.long i0), (.long (i0 ^^^ (1 : Int64))), (.long i2), (.long i3)]) (rest := [(.ref b38)]) (lenOf pd_1 rfl) rfl (by show 2 * 0 + _ ≤ _; exact Nat.le_of_eq rfl) (hb hby at_116) (fun _ _ => ⟨rfl, e38, (by decide : 1 + 0 ≤ _), (by decide : 4 + 0 ≤ _)⟩)
          dsimp only [Pt.U, Pt.locs, Pt.cells, Pt.slots] at X40 l40 y40 z40 st40 hQ40
          subst l40 y40 z40
          obtain ⟨rfl, N40q, K40, Ex40, F40_expected, F40_seen, F40_extra, F40_nanos⟩ := hQ40
          have N40 := Fr.app N0 N40q
          have O41 : Old Z n0 T40.heap := (O39.keep K40 (allS gb38 all0))
          obtain ⟨cq42, kq42, q42a, q42b, q42c⟩ := isOf hZ rfl Ex40
          obtain ⟨_, _, ⟨T42, L42, k42, n42⟩, -, X42, ⟨Lc42, hQ42, l42, y42, z42⟩, st42⟩ := X40.virtualBack hx (y := (⟨"com/example/carbonfold/carbonfold/bench/Fanout$Result", "complete", "()Z"⟩ : MethodName)) (z := (⟨"com/example/carbonfold/carbonfold/bench/Fanout$Result", "complete", "()Z"⟩ : MethodName)) hown (mvT hZ (hw _ (List.mem_of_getElem? (i := 22) rfl))) (mvT hZ (hw _ (List.mem_of_getElem? (i := 23) rfl))) (notFace_of_selects (args := #[]) (mvT hZ (hw _ (List.mem_of_getElem? (i := 25) rfl)))) (mvT hZ (hw _ (List.mem_of_getElem? (i := 25) rfl))) (mvT hZ (hw _ (List.mem_of_getElem? (i := 24) rfl))) (by decide) (backOf (W := 0) (rmC l Z a0 hw [] b38 i0 (i0 ^^^ (1 : Int64)) i2 T40.heap n0 O41 F40_expected F40_seen F40_extra) hZ (hw _ (List.mem_of_getElem? (i := 26) rfl)) (hw _ (List.mem_of_getElem? (i := 2) rfl)) (by decide) (by decide)) q42a q42c (g := (mkF m 123 #[.val (.long i0), .second, .val (.long i1), .second, .val (.long i2), .second, .val (.long i3), .second, .val (.int i4), .val (.int (i4 &&& (3 : Int32))), .val (.long (i0 ^^^ (1 : Int64))), .second, .val (.long i2), .second, .val (.int (0 : Int32)), .val (.ref b38)] [(.ref b38)])) rfl (by rw [hml]; rfl) (Steps.refl _) (argsL := []) (rest := []) (lenOf pd_2 rfl) rfl (by show 2 * 0 + _ ≤ _; exact Nat.le_of_eq rfl) (hb hby at_123) (fun _ _ => ⟨rfl, rfl, (by decide : 1 + 0 ≤ _), (by decide : 4 + 0 ≤ _)⟩)
          dsimp only [Pt.U, Pt.locs, Pt.cells, Pt.slots] at X42 l42 y42 z42 st42 hQ42
          subst l42 y42 z42
          obtain ⟨rfl, N42q, hh42⟩ := hQ42
          have N42 := Fr.app N40 N42q
          obtain ⟨fs, hr, hrun, hended, hW, hsame⟩ := X42.leave (v := some (.int (1 : Int32))) (fun h => by rw [Bd.returns] at h; cases h)
          refine ⟨_, _, pre36 _ ?_, hrun, hended, _, _, rfl, ?_, ⟨_, rfl⟩, hW, hsame.mono (by decide) (by decide)⟩
          · skip
            show Steps p.tables e below (s₁.setTop (mkF m 86 #[.val (.long i0), .second, .val (.long i1), .second, .val (.long i2), .second, .val (.long i3), .second, .val (.int i4), .val (.int (i4 &&& (3 : Int32))), .unset, .unset, .unset, .unset, .unset, .unset] [(.int (lcmpW i1 i0))])) _
            refine XS.ifNo X0.here hx rfl (hb hby at_86) rfl ((if0 _ _).trans (teq ((lw_eq _ _).mpr hc37)).2) ?_
            show Steps p.tables e below (s₁.setTop (mkF m 89 #[.val (.long i0), .second, .val (.long i1), .second, .val (.long i2), .second, .val (.long i3), .second, .val (.int i4), .val (.int (i4 &&& (3 : Int32))), .unset, .unset, .unset, .unset, .unset, .unset] [])) _
            refine XS.lloadN X0.here hx rfl (hb hby at_89) rfl ?_
            show Steps p.tables e below (s₁.setTop (mkF m 90 #[.val (.long i0), .second, .val (.long i1), .second, .val (.long i2), .second, .val (.long i3), .second, .val (.int i4), .val (.int (i4 &&& (3 : Int32))), .unset, .unset, .unset, .unset, .unset, .unset] [(.long i0)])) _
            refine XS.lconst X0.here hx rfl (hb hby at_90) ?_
            show Steps p.tables e below (s₁.setTop (mkF m 91 #[.val (.long i0), .second, .val (.long i1), .second, .val (.long i2), .second, .val (.long i3), .second, .val (.int i4), .val (.int (i4 &&& (3 : Int32))), .unset, .unset, .unset, .unset, .unset, .unset] [(.long (1 : Int64)), (.long i0)])) _
            refine XS.lxor X0.here hx rfl (hb hby at_91) rfl ?_
            show Steps p.tables e below (s₁.setTop (mkF m 92 #[.val (.long i0), .second, .val (.long i1), .second, .val (.long i2), .second, .val (.long i3), .second, .val (.int i4), .val (.int (i4 &&& (3 : Int32))), .unset, .unset, .unset, .unset, .unset, .unset] [(.long (i0 ^^^ (1 : Int64)))])) _
            refine XS.goto X0.here hx rfl (pc0 := 92) (pc' := 96) rfl (hb hby at_92) (by decide) (by decide) ?_
            show Steps p.tables e below (s₁.setTop (mkF m 96 #[.val (.long i0), .second, .val (.long i1), .second, .val (.long i2), .second, .val (.long i3), .second, .val (.int i4), .val (.int (i4 &&& (3 : Int32))), .unset, .unset, .unset, .unset, .unset, .unset] [(.long (i0 ^^^ (1 : Int64)))])) _
            refine XS.lstore X0.here hx rfl (hb hby at_96) rfl (l' := #[.val (.long i0), .second, .val (.long i1), .second, .val (.long i2), .second, .val (.long i3), .second, .val (.int i4), .val (.int (i4 &&& (3 : Int32))), .val (.long (i0 ^^^ (1 : Int64))), .second, .unset, .unset, .unset, .unset]) rfl ?_
            show Steps p.tables e below (s₁.setTop (mkF m 98 #[.val (.long i0), .second, .val (.long i1), .second, .val (.long i2), .second, .val (.long i3), .second, .val (.int i4), .val (.int (i4 &&& (3 : Int32))), .val (.long (i0 ^^^ (1 : Int64))), .second, .unset, .unset, .unset, .unset] [])) _
            refine XS.lload X0.here hx rfl (hb hby at_98) rfl ?_
            show Steps p.tables e below (s₁.setTop (mkF m 100 #[.val (.long i0), .second, .val (.long i1), .second, .val (.long i2), .second, .val (.long i3), .second, .val (.int i4), .val (.int (i4 &&& (3 : Int32))), .val (.long (i0 ^^^ (1 : Int64))), .second, .unset, .unset, .unset, .unset] [(.long i2)])) _
            refine XS.lstore X0.here hx rfl (hb hby at_100) rfl (l' := #[.val (.long i0), .second, .val (.long i1), .second, .val (.long i2), .second, .val (.long i3), .second, .val (.int i4), .val (.int (i4 &&& (3 : Int32))), .val (.long (i0 ^^^ (1 : Int64))), .second, .val (.long i2), .second, .unset, .unset]) rfl ?_
            show Steps p.tables e below (s₁.setTop (mkF m 102 #[.val (.long i0), .second, .val (.long i1), .second, .val (.long i2), .second, .val (.long i3), .second, .val (.int i4), .val (.int (i4 &&& (3 : Int32))), .val (.long (i0 ^^^ (1 : Int64))), .second, .val (.long i2), .second, .unset, .unset] [])) _
            refine XS.iconst X0.here hx rfl (hb hby at_102) ?_
            show Steps p.tables e below (s₁.setTop (mkF m 103 #[.val (.long i0), .second, .val (.long i1), .second, .val (.long i2), .second, .val (.long i3), .second, .val (.int i4), .val (.int (i4 &&& (3 : Int32))), .val (.long (i0 ^^^ (1 : Int64))), .second, .val (.long i2), .second, .unset, .unset] [(.int (0 : Int32))])) _
            refine XS.istore X0.here hx rfl (hb hby at_103) rfl (l' := #[.val (.long i0), .second, .val (.long i1), .second, .val (.long i2), .second, .val (.long i3), .second, .val (.int i4), .val (.int (i4 &&& (3 : Int32))), .val (.long (i0 ^^^ (1 : Int64))), .second, .val (.long i2), .second, .val (.int (0 : Int32)), .unset]) rfl ?_
            show Steps p.tables e below (s₁.setTop (mkF m 105 #[.val (.long i0), .second, .val (.long i1), .second, .val (.long i2), .second, .val (.long i3), .second, .val (.int i4), .val (.int (i4 &&& (3 : Int32))), .val (.long (i0 ^^^ (1 : Int64))), .second, .val (.long i2), .second, .val (.int (0 : Int32)), .unset] [])) _
            refine st38 _ ?_
            show Steps p.tables e below (T38.setTop (mkF m 108 #[.val (.long i0), .second, .val (.long i1), .second, .val (.long i2), .second, .val (.long i3), .second, .val (.int i4), .val (.int (i4 &&& (3 : Int32))), .val (.long (i0 ^^^ (1 : Int64))), .second, .val (.long i2), .second, .val (.int (0 : Int32)), .unset] [(.ref b38)])) _
            refine XS.dup X38.here hx rfl (hb hby at_108) rfl rfl ?_
            show Steps p.tables e below (T38.setTop (mkF m 109 #[.val (.long i0), .second, .val (.long i1), .second, .val (.long i2), .second, .val (.long i3), .second, .val (.int i4), .val (.int (i4 &&& (3 : Int32))), .val (.long (i0 ^^^ (1 : Int64))), .second, .val (.long i2), .second, .val (.int (0 : Int32)), .unset] [(.ref b38), (.ref b38)])) _
            refine XS.lloadN X38.here hx rfl (hb hby at_109) rfl ?_
            show Steps p.tables e below (T38.setTop (mkF m 110 #[.val (.long i0), .second, .val (.long i1), .second, .val (.long i2), .second, .val (.long i3), .second, .val (.int i4), .val (.int (i4 &&& (3 : Int32))), .val (.long (i0 ^^^ (1 : Int64))), .second, .val (.long i2), .second, .val (.int (0 : Int32)), .unset] [(.long i0), (.ref b38), (.ref b38)])) _
            refine XS.lload X38.here hx rfl (hb hby at_110) rfl ?_
            show Steps p.tables e below (T38.setTop (mkF m 112 #[.val (.long i0), .second, .val (.long i1), .second, .val (.long i2), .second, .val (.long i3), .second, .val (.int i4), .val (.int (i4 &&& (3 : Int32))), .val (.long (i0 ^^^ (1 : Int64))), .second, .val (.long i2), .second, .val (.int (0 : Int32)), .unset] [(.long (i0 ^^^ (1 : Int64))), (.long i0), (.ref b38), (.ref b38)])) _
            refine XS.lload X38.here hx rfl (hb hby at_112) rfl ?_
            show Steps p.tables e below (T38.setTop (mkF m 114 #[.val (.long i0), .second, .val (.long i1), .second, .val (.long i2), .second, .val (.long i3), .second, .val (.int i4), .val (.int (i4 &&& (3 : Int32))), .val (.long (i0 ^^^ (1 : Int64))), .second, .val (.long i2), .second, .val (.int (0 : Int32)), .unset] [(.long i2), (.long (i0 ^^^ (1 : Int64))), (.long i0), (.ref b38), (.ref b38)])) _
            refine XS.lload X38.here hx rfl (hb hby at_114) rfl ?_
            show Steps p.tables e below (T38.setTop (mkF m 116 #[.val (.long i0), .second, .val (.long i1), .second, .val (.long i2), .second, .val (.long i3), .second, .val (.int i4), .val (.int (i4 &&& (3 : Int32))), .val (.long (i0 ^^^ (1 : Int64))), .second, .val (.long i2), .second, .val (.int (0 : Int32)), .unset] [(.long i3), (.long i2), (.long (i0 ^^^ (1 : Int64))), (.long i0), (.ref b38), (.ref b38)])) _
            refine st40.trans ?_
            show Steps p.tables e below (T40.setTop (mkF m 119 #[.val (.long i0), .second, .val (.long i1), .second, .val (.long i2), .second, .val (.long i3), .second, .val (.int i4), .val (.int (i4 &&& (3 : Int32))), .val (.long (i0 ^^^ (1 : Int64))), .second, .val (.long i2), .second, .val (.int (0 : Int32)), .unset] [(.ref b38)])) _
            refine XS.astore X40.here hx rfl (hb hby at_119) rfl rfl (l' := #[.val (.long i0), .second, .val (.long i1), .second, .val (.long i2), .second, .val (.long i3), .second, .val (.int i4), .val (.int (i4 &&& (3 : Int32))), .val (.long (i0 ^^^ (1 : Int64))), .second, .val (.long i2), .second, .val (.int (0 : Int32)), .val (.ref b38)]) rfl ?_
            show Steps p.tables e below (T40.setTop (mkF m 121 #[.val (.long i0), .second, .val (.long i1), .second, .val (.long i2), .second, .val (.long i3), .second, .val (.int i4), .val (.int (i4 &&& (3 : Int32))), .val (.long (i0 ^^^ (1 : Int64))), .second, .val (.long i2), .second, .val (.int (0 : Int32)), .val (.ref b38)] [])) _
            refine XS.aload X40.here hx rfl (hb hby at_121) rfl rfl ?_
            show Steps p.tables e below (T40.setTop (mkF m 123 #[.val (.long i0), .second, .val (.long i1), .second, .val (.long i2), .second, .val (.long i3), .second, .val (.int i4), .val (.int (i4 &&& (3 : Int32))), .val (.long (i0 ^^^ (1 : Int64))), .second, .val (.long i2), .second, .val (.int (0 : Int32)), .val (.ref b38)] [(.ref b38)])) _
            refine st42.trans ?_
            show Steps p.tables e below (T42.setTop (mkF m 126 #[.val (.long i0), .second, .val (.long i1), .second, .val (.long i2), .second, .val (.long i3), .second, .val (.int i4), .val (.int (i4 &&& (3 : Int32))), .val (.long (i0 ^^^ (1 : Int64))), .second, .val (.long i2), .second, .val (.int (0 : Int32)), .val (.ref b38)] [(.int (own_c i0 (i0 ^^^ (1 : Int64)) i2))])) _
            refine XS.iload X42.here hx rfl (hb hby at_126) rfl ?_
            show Steps p.tables e below (T42.setTop (mkF m 128 #[.val (.long i0), .second, .val (.long i1), .second, .val (.long i2), .second, .val (.long i3), .second, .val (.int i4), .val (.int (i4 &&& (3 : Int32))), .val (.long (i0 ^^^ (1 : Int64))), .second, .val (.long i2), .second, .val (.int (0 : Int32)), .val (.ref b38)] [(.int (0 : Int32)), (.int (own_c i0 (i0 ^^^ (1 : Int64)) i2))])) _
            refine XS.icmpNo X42.here hx rfl (hb hby at_128) rfl (teq (by simp [own_c, own_up, own_xor, hc2, hc9, hc23, hc37])).2 ?_
            show Steps p.tables e below (T42.setTop (mkF m 131 #[.val (.long i0), .second, .val (.long i1), .second, .val (.long i2), .second, .val (.long i3), .second, .val (.int i4), .val (.int (i4 &&& (3 : Int32))), .val (.long (i0 ^^^ (1 : Int64))), .second, .val (.long i2), .second, .val (.int (0 : Int32)), .val (.ref b38)] [])) _
            refine XS.iconst X42.here hx rfl (hb hby at_131) ?_
            show Steps p.tables e below (T42.setTop (mkF m 132 #[.val (.long i0), .second, .val (.long i1), .second, .val (.long i2), .second, .val (.long i3), .second, .val (.int i4), .val (.int (i4 &&& (3 : Int32))), .val (.long (i0 ^^^ (1 : Int64))), .second, .val (.long i2), .second, .val (.int (0 : Int32)), .val (.ref b38)] [(.int (1 : Int32))])) _
            refine XS.goto X42.here hx rfl (pc0 := 132) (pc' := 136) rfl (hb hby at_132) (by decide) (by decide) ?_
            show Steps p.tables e below (T42.setTop (mkF m 136 #[.val (.long i0), .second, .val (.long i1), .second, .val (.long i2), .second, .val (.long i3), .second, .val (.int i4), .val (.int (i4 &&& (3 : Int32))), .val (.long (i0 ^^^ (1 : Int64))), .second, .val (.long i2), .second, .val (.int (0 : Int32)), .val (.ref b38)] [(.int (1 : Int32))])) _
            exact retN X42 hx (t := .boolean) Bd.returns (by simp) (hb hby at_136) hr
          · show QL n0 _ T42.heap _
            rw [hh42]
            exact ⟨rfl, N42⟩
        · skip
          obtain ⟨T43, h43, X43, e43, E43, A43, D43, -, st43⟩ := newO X0 hx hZ hown (hw _ (List.mem_of_getElem? (i := 0) rfl)) (hw _ (List.mem_of_getElem? (i := 1) rfl)) (hw _ (List.mem_of_getElem? (i := 2) rfl)) e0 (g := (mkF m 105 #[.val (.long i0), .second, .val (.long i1), .second, .val (.long i2), .second, .val (.long i3), .second, .val (.int i4), .val (.int (i4 &&& (3 : Int32))), .val (.long i1), .second, .val (.long i2), .second, .val (.int (0 : Int32)), .unset] [])) rfl (hb hby at_105) (by decide) (by decide)
          obtain ⟨b43, g43⟩ : ∃ z, z = h0.size := ⟨_, rfl⟩
          rw [← g43] at A43 D43 st43
          have gb43 : n0 ≤ b43 := by rw [g43, ← O0.1]; exact O0.2.1
          have F43_expected : Fld Z h43 b43 "com/example/carbonfold/carbonfold/bench/Fanout$Result" "expected" "J" (.long (0 : Int64)) := D43 (Or.inr (hw _ (List.mem_of_getElem? (i := 15) rfl))) (ty := .long) (by decide)
          have F43_seen : Fld Z h43 b43 "com/example/carbonfold/carbonfold/bench/Fanout$Result" "seen" "J" (.long (0 : Int64)) := D43 (Or.inr (hw _ (List.mem_of_getElem? (i := 17) rfl))) (ty := .long) (by decide)
          have F43_extra : Fld Z h43 b43 "com/example/carbonfold/carbonfold/bench/Fanout$Result" "extra" "J" (.long (0 : Int64)) := D43 (Or.inr (hw _ (List.mem_of_getElem? (i := 19) rfl))) (ty := .long) (by decide)
          have F43_nanos : Fld Z h43 b43 "com/example/carbonfold/carbonfold/bench/Fanout$Result" "nanos" "J" (.long (0 : Int64)) := D43 (Or.inr (hw _ (List.mem_of_getElem? (i := 21) rfl))) (ty := .long) (by decide)
          have O44 : Old Z n0 h43 := (O0.ext E43)
          obtain ⟨_, _, ⟨T45, L45, k45, n45⟩, -, X45, ⟨Lc45, hQ45, l45, y45, z45⟩, st45⟩ := X43.specialBack hx (y := (⟨"com/example/carbonfold/carbonfold/bench/Fanout$Result", "<init>", "(JJJJ)V"⟩ : MethodName)) rfl hown (mvT hZ (hw _ (List.mem_of_getElem? (i := 3) rfl))) (mvT hZ (hw _ (List.mem_of_getElem? (i := 4) rfl))) (mvT hZ (hw _ (List.mem_of_getElem? (i := 5) rfl))) (by decide) (backOf (W := 1) (rmI l Z a0 hw [] b43 i0 i1 i2 i3 h43 n0 O44 A43 F43_expected F43_seen F43_extra F43_nanos gb43) hZ (hw _ (List.mem_of_getElem? (i := 5) rfl)) (hw _ (List.mem_of_getElem? (i := 2) rfl)) (by decide) (by decide)) (g := (mkF m 116 #[.val (.long i0), .second, .val (.long i1), .second, .val (.long i2), .second, .val (.long i3), .second, .val (.int i4), .val (.int (i4 &&& (3 : Int32))), .val (.long i1), .second, .val (.long i2), .second, .val (.int (0 : Int32)), .unset] [(.long i3), (.long i2), (.long i1), (.long i0), (.ref b43), (.ref b43)])) rfl (by rw [hml]; rfl) (Steps.refl _) (a := b43) (argsL := [(.long i0), (.long i1), (.long i2), (.long i3)]) (rest := [(.ref b43)]) (lenOf pd_1 rfl) rfl (by show 2 * 0 + _ ≤ _; exact Nat.le_of_eq rfl) (hb hby at_116) (fun _ _ => ⟨rfl, e43, (by decide : 1 + 0 ≤ _), (by decide : 4 + 0 ≤ _)⟩)
          dsimp only [Pt.U, Pt.locs, Pt.cells, Pt.slots] at X45 l45 y45 z45 st45 hQ45
          subst l45 y45 z45
          obtain ⟨rfl, N45q, K45, Ex45, F45_expected, F45_seen, F45_extra, F45_nanos⟩ := hQ45
          have N45 := Fr.app N0 N45q
          have O46 : Old Z n0 T45.heap := (O44.keep K45 (allS gb43 all0))
          obtain ⟨cq47, kq47, q47a, q47b, q47c⟩ := isOf hZ rfl Ex45
          obtain ⟨_, _, ⟨T47, L47, k47, n47⟩, -, X47, ⟨Lc47, hQ47, l47, y47, z47⟩, st47⟩ := X45.virtualBack hx (y := (⟨"com/example/carbonfold/carbonfold/bench/Fanout$Result", "complete", "()Z"⟩ : MethodName)) (z := (⟨"com/example/carbonfold/carbonfold/bench/Fanout$Result", "complete", "()Z"⟩ : MethodName)) hown (mvT hZ (hw _ (List.mem_of_getElem? (i := 22) rfl))) (mvT hZ (hw _ (List.mem_of_getElem? (i := 23) rfl))) (notFace_of_selects (args := #[]) (mvT hZ (hw _ (List.mem_of_getElem? (i := 25) rfl)))) (mvT hZ (hw _ (List.mem_of_getElem? (i := 25) rfl))) (mvT hZ (hw _ (List.mem_of_getElem? (i := 24) rfl))) (by decide) (backOf (W := 0) (rmC l Z a0 hw [] b43 i0 i1 i2 T45.heap n0 O46 F45_expected F45_seen F45_extra) hZ (hw _ (List.mem_of_getElem? (i := 26) rfl)) (hw _ (List.mem_of_getElem? (i := 2) rfl)) (by decide) (by decide)) q47a q47c (g := (mkF m 123 #[.val (.long i0), .second, .val (.long i1), .second, .val (.long i2), .second, .val (.long i3), .second, .val (.int i4), .val (.int (i4 &&& (3 : Int32))), .val (.long i1), .second, .val (.long i2), .second, .val (.int (0 : Int32)), .val (.ref b43)] [(.ref b43)])) rfl (by rw [hml]; rfl) (Steps.refl _) (argsL := []) (rest := []) (lenOf pd_2 rfl) rfl (by show 2 * 0 + _ ≤ _; exact Nat.le_of_eq rfl) (hb hby at_123) (fun _ _ => ⟨rfl, rfl, (by decide : 1 + 0 ≤ _), (by decide : 4 + 0 ≤ _)⟩)
          dsimp only [Pt.U, Pt.locs, Pt.cells, Pt.slots] at X47 l47 y47 z47 st47 hQ47
          subst l47 y47 z47
          obtain ⟨rfl, N47q, hh47⟩ := hQ47
          have N47 := Fr.app N45 N47q
          obtain ⟨fs, hr, hrun, hended, hW, hsame⟩ := X47.leave (v := some (.int (1 : Int32))) (fun h => by rw [Bd.returns] at h; cases h)
          refine ⟨_, _, pre36 _ ?_, hrun, hended, _, _, rfl, ?_, ⟨_, rfl⟩, hW, hsame.mono (by decide) (by decide)⟩
          · skip
            show Steps p.tables e below (s₁.setTop (mkF m 86 #[.val (.long i0), .second, .val (.long i1), .second, .val (.long i2), .second, .val (.long i3), .second, .val (.int i4), .val (.int (i4 &&& (3 : Int32))), .unset, .unset, .unset, .unset, .unset, .unset] [(.int (lcmpW i1 i0))])) _
            refine XS.ifYes X0.here hx rfl (pc0 := 86) (pc' := 95) rfl (hb hby at_86) rfl ((if0 _ _).trans (feq (mt (lw_eq _ _).mp hc37)).2) (by decide) (by decide) ?_
            show Steps p.tables e below (s₁.setTop (mkF m 95 #[.val (.long i0), .second, .val (.long i1), .second, .val (.long i2), .second, .val (.long i3), .second, .val (.int i4), .val (.int (i4 &&& (3 : Int32))), .unset, .unset, .unset, .unset, .unset, .unset] [])) _
            refine XS.lloadN X0.here hx rfl (hb hby at_95) rfl ?_
            show Steps p.tables e below (s₁.setTop (mkF m 96 #[.val (.long i0), .second, .val (.long i1), .second, .val (.long i2), .second, .val (.long i3), .second, .val (.int i4), .val (.int (i4 &&& (3 : Int32))), .unset, .unset, .unset, .unset, .unset, .unset] [(.long i1)])) _
            refine XS.lstore X0.here hx rfl (hb hby at_96) rfl (l' := #[.val (.long i0), .second, .val (.long i1), .second, .val (.long i2), .second, .val (.long i3), .second, .val (.int i4), .val (.int (i4 &&& (3 : Int32))), .val (.long i1), .second, .unset, .unset, .unset, .unset]) rfl ?_
            show Steps p.tables e below (s₁.setTop (mkF m 98 #[.val (.long i0), .second, .val (.long i1), .second, .val (.long i2), .second, .val (.long i3), .second, .val (.int i4), .val (.int (i4 &&& (3 : Int32))), .val (.long i1), .second, .unset, .unset, .unset, .unset] [])) _
            refine XS.lload X0.here hx rfl (hb hby at_98) rfl ?_
            show Steps p.tables e below (s₁.setTop (mkF m 100 #[.val (.long i0), .second, .val (.long i1), .second, .val (.long i2), .second, .val (.long i3), .second, .val (.int i4), .val (.int (i4 &&& (3 : Int32))), .val (.long i1), .second, .unset, .unset, .unset, .unset] [(.long i2)])) _
            refine XS.lstore X0.here hx rfl (hb hby at_100) rfl (l' := #[.val (.long i0), .second, .val (.long i1), .second, .val (.long i2), .second, .val (.long i3), .second, .val (.int i4), .val (.int (i4 &&& (3 : Int32))), .val (.long i1), .second, .val (.long i2), .second, .unset, .unset]) rfl ?_
            show Steps p.tables e below (s₁.setTop (mkF m 102 #[.val (.long i0), .second, .val (.long i1), .second, .val (.long i2), .second, .val (.long i3), .second, .val (.int i4), .val (.int (i4 &&& (3 : Int32))), .val (.long i1), .second, .val (.long i2), .second, .unset, .unset] [])) _
            refine XS.iconst X0.here hx rfl (hb hby at_102) ?_
            show Steps p.tables e below (s₁.setTop (mkF m 103 #[.val (.long i0), .second, .val (.long i1), .second, .val (.long i2), .second, .val (.long i3), .second, .val (.int i4), .val (.int (i4 &&& (3 : Int32))), .val (.long i1), .second, .val (.long i2), .second, .unset, .unset] [(.int (0 : Int32))])) _
            refine XS.istore X0.here hx rfl (hb hby at_103) rfl (l' := #[.val (.long i0), .second, .val (.long i1), .second, .val (.long i2), .second, .val (.long i3), .second, .val (.int i4), .val (.int (i4 &&& (3 : Int32))), .val (.long i1), .second, .val (.long i2), .second, .val (.int (0 : Int32)), .unset]) rfl ?_
            show Steps p.tables e below (s₁.setTop (mkF m 105 #[.val (.long i0), .second, .val (.long i1), .second, .val (.long i2), .second, .val (.long i3), .second, .val (.int i4), .val (.int (i4 &&& (3 : Int32))), .val (.long i1), .second, .val (.long i2), .second, .val (.int (0 : Int32)), .unset] [])) _
            refine st43 _ ?_
            show Steps p.tables e below (T43.setTop (mkF m 108 #[.val (.long i0), .second, .val (.long i1), .second, .val (.long i2), .second, .val (.long i3), .second, .val (.int i4), .val (.int (i4 &&& (3 : Int32))), .val (.long i1), .second, .val (.long i2), .second, .val (.int (0 : Int32)), .unset] [(.ref b43)])) _
            refine XS.dup X43.here hx rfl (hb hby at_108) rfl rfl ?_
            show Steps p.tables e below (T43.setTop (mkF m 109 #[.val (.long i0), .second, .val (.long i1), .second, .val (.long i2), .second, .val (.long i3), .second, .val (.int i4), .val (.int (i4 &&& (3 : Int32))), .val (.long i1), .second, .val (.long i2), .second, .val (.int (0 : Int32)), .unset] [(.ref b43), (.ref b43)])) _
            refine XS.lloadN X43.here hx rfl (hb hby at_109) rfl ?_
            show Steps p.tables e below (T43.setTop (mkF m 110 #[.val (.long i0), .second, .val (.long i1), .second, .val (.long i2), .second, .val (.long i3), .second, .val (.int i4), .val (.int (i4 &&& (3 : Int32))), .val (.long i1), .second, .val (.long i2), .second, .val (.int (0 : Int32)), .unset] [(.long i0), (.ref b43), (.ref b43)])) _
            refine XS.lload X43.here hx rfl (hb hby at_110) rfl ?_
            show Steps p.tables e below (T43.setTop (mkF m 112 #[.val (.long i0), .second, .val (.long i1), .second, .val (.long i2), .second, .val (.long i3), .second, .val (.int i4), .val (.int (i4 &&& (3 : Int32))), .val (.long i1), .second, .val (.long i2), .second, .val (.int (0 : Int32)), .unset] [(.long i1), (.long i0), (.ref b43), (.ref b43)])) _
            refine XS.lload X43.here hx rfl (hb hby at_112) rfl ?_
            show Steps p.tables e below (T43.setTop (mkF m 114 #[.val (.long i0), .second, .val (.long i1), .second, .val (.long i2), .second, .val (.long i3), .second, .val (.int i4), .val (.int (i4 &&& (3 : Int32))), .val (.long i1), .second, .val (.long i2), .second, .val (.int (0 : Int32)), .unset] [(.long i2), (.long i1), (.long i0), (.ref b43), (.ref b43)])) _
            refine XS.lload X43.here hx rfl (hb hby at_114) rfl ?_
            show Steps p.tables e below (T43.setTop (mkF m 116 #[.val (.long i0), .second, .val (.long i1), .second, .val (.long i2), .second, .val (.long i3), .second, .val (.int i4), .val (.int (i4 &&& (3 : Int32))), .val (.long i1), .second, .val (.long i2), .second, .val (.int (0 : Int32)), .unset] [(.long i3), (.long i2), (.long i1), (.long i0), (.ref b43), (.ref b43)])) _
            refine st45.trans ?_
            show Steps p.tables e below (T45.setTop (mkF m 119 #[.val (.long i0), .second, .val (.long i1), .second, .val (.long i2), .second, .val (.long i3), .second, .val (.int i4), .val (.int (i4 &&& (3 : Int32))), .val (.long i1), .second, .val (.long i2), .second, .val (.int (0 : Int32)), .unset] [(.ref b43)])) _
            refine XS.astore X45.here hx rfl (hb hby at_119) rfl rfl (l' := #[.val (.long i0), .second, .val (.long i1), .second, .val (.long i2), .second, .val (.long i3), .second, .val (.int i4), .val (.int (i4 &&& (3 : Int32))), .val (.long i1), .second, .val (.long i2), .second, .val (.int (0 : Int32)), .val (.ref b43)]) rfl ?_
            show Steps p.tables e below (T45.setTop (mkF m 121 #[.val (.long i0), .second, .val (.long i1), .second, .val (.long i2), .second, .val (.long i3), .second, .val (.int i4), .val (.int (i4 &&& (3 : Int32))), .val (.long i1), .second, .val (.long i2), .second, .val (.int (0 : Int32)), .val (.ref b43)] [])) _
            refine XS.aload X45.here hx rfl (hb hby at_121) rfl rfl ?_
            show Steps p.tables e below (T45.setTop (mkF m 123 #[.val (.long i0), .second, .val (.long i1), .second, .val (.long i2), .second, .val (.long i3), .second, .val (.int i4), .val (.int (i4 &&& (3 : Int32))), .val (.long i1), .second, .val (.long i2), .second, .val (.int (0 : Int32)), .val (.ref b43)] [(.ref b43)])) _
            refine st47.trans ?_
            show Steps p.tables e below (T47.setTop (mkF m 126 #[.val (.long i0), .second, .val (.long i1), .second, .val (.long i2), .second, .val (.long i3), .second, .val (.int i4), .val (.int (i4 &&& (3 : Int32))), .val (.long i1), .second, .val (.long i2), .second, .val (.int (0 : Int32)), .val (.ref b43)] [(.int (own_c i0 i1 i2))])) _
            refine XS.iload X47.here hx rfl (hb hby at_126) rfl ?_
            show Steps p.tables e below (T47.setTop (mkF m 128 #[.val (.long i0), .second, .val (.long i1), .second, .val (.long i2), .second, .val (.long i3), .second, .val (.int i4), .val (.int (i4 &&& (3 : Int32))), .val (.long i1), .second, .val (.long i2), .second, .val (.int (0 : Int32)), .val (.ref b43)] [(.int (0 : Int32)), (.int (own_c i0 i1 i2))])) _
            refine XS.icmpNo X47.here hx rfl (hb hby at_128) rfl (teq (by simp [own_c, own_up, own_xor, hc2, hc9, hc23, hc37])).2 ?_
            show Steps p.tables e below (T47.setTop (mkF m 131 #[.val (.long i0), .second, .val (.long i1), .second, .val (.long i2), .second, .val (.long i3), .second, .val (.int i4), .val (.int (i4 &&& (3 : Int32))), .val (.long i1), .second, .val (.long i2), .second, .val (.int (0 : Int32)), .val (.ref b43)] [])) _
            refine XS.iconst X47.here hx rfl (hb hby at_131) ?_
            show Steps p.tables e below (T47.setTop (mkF m 132 #[.val (.long i0), .second, .val (.long i1), .second, .val (.long i2), .second, .val (.long i3), .second, .val (.int i4), .val (.int (i4 &&& (3 : Int32))), .val (.long i1), .second, .val (.long i2), .second, .val (.int (0 : Int32)), .val (.ref b43)] [(.int (1 : Int32))])) _
            refine XS.goto X47.here hx rfl (pc0 := 132) (pc' := 136) rfl (hb hby at_132) (by decide) (by decide) ?_
            show Steps p.tables e below (T47.setTop (mkF m 136 #[.val (.long i0), .second, .val (.long i1), .second, .val (.long i2), .second, .val (.long i3), .second, .val (.int i4), .val (.int (i4 &&& (3 : Int32))), .val (.long i1), .second, .val (.long i2), .second, .val (.int (0 : Int32)), .val (.ref b43)] [(.int (1 : Int32))])) _
            exact retN X47 hx (t := .boolean) Bd.returns (by simp) (hb hby at_136) hr
          · show QL n0 _ T47.heap _
            rw [hh47]
            exact ⟨rfl, N47⟩
set_option maxRecDepth 65536 in
set_option maxHeartbeats 40000000 in
theorem comes_1 {Post : Tables → Env → Array Value → State → Outcome → State → Prop} (hpost : ∀ tb e args s v u, (limb_1_1.after args s (.returned v) u = true ∧ limb_1_2.after args s (.returned v) u = true ∧ True) → FrameEnd s (.returned v) u (Jvm.fieldLocs frame_1_writes args s ++ Jvm.arrayLocs frame_1_arrays args s ++ Jvm.staticLocs frame_1_statics s) 16 128 → Post tb e args s (.returned v) u) :
    ArmFor flags0 classFile x code maxLocals ret World_1 tables_1 room_1 Calls_1 rest_1 Pre_1 Post := by
  intro l hfl _ _ p e ha hc hk s m args below hf hA hF happ hP
  obtain ⟨hcalls, hrest, hpre⟩ := hP
  obtain ⟨-, -, -, hnamed, -, -, -, hat⟩ := (Spec.applies_iff hf).mp happ
  obtain ⟨hg, hn⟩ := and_e (Cond.before_iff.mp (show (Jvm.Cond.and given_1 narrow_1).before args s = true from hpre))
  obtain ⟨g0, r0⟩ := and_e hg
  obtain ⟨g1, r1⟩ := and_e r0
  obtain ⟨g2, r2⟩ := and_e r1
  obtain ⟨g3, r3⟩ := and_e r2
  obtain ⟨g4, r4⟩ := and_e r3
  obtain ⟨w0, w1, w2, w3, w4, rfl⟩ : ∃ w0 w1 w2 w3 w4 : Value, args = #[w0, w1, w2, w3, w4] := by
    have hs : args.size = 5 := by simpa [Cond.value, given_1] using g0
    obtain ⟨L⟩ := args
    match L, hs with
    | [w0, w1, w2, w3, w4], _ => exact ⟨w0, w1, w2, w3, w4, rfl⟩
  have hw := fun d (hd : d ∈ tables_1) => atoms_spec (ws := Jvm.Cond.code x code maxLocals ret :: tables_1) hat d (List.mem_cons_of_mem _ hd)
  have hfit : Fit s := fun {y c} hc i hi => by
    obtain ⟨ha, rfl⟩ := Array.getElem?_eq_some_iff.mp hc
    have q := List.all_eq_true.mp ((Array.all_eq_true_iff_forall_mem.mp hF) _ (Array.getElem_mem ha)) i (List.mem_range.mpr hi)
    simpa [Array.getElem?_eq_getElem hi] using q
  obtain ⟨i0, ei0⟩ := isL_v g1
  obtain rfl : w0 = (.long i0) := Option.some.inj ei0
  obtain ⟨i1, ei1⟩ := isL_v g2
  obtain rfl : w1 = (.long i1) := Option.some.inj ei1
  obtain ⟨i2, ei2⟩ := isL_v g3
  obtain rfl : w2 = (.long i2) := Option.some.inj ei2
  obtain ⟨i3, ei3⟩ := isL_v g4
  obtain rfl : w3 = (.long i3) := Option.some.inj ei3
  obtain ⟨i4, ei4⟩ := is_v r4
  obtain rfl : w4 = (.int i4) := Option.some.inj ei4
  obtain ⟨n, o, h1, h2, h3, _, L, rfl, ⟨rfl, N⟩, hq⟩ := rm0 l s _ hw tables_1 i0 i1 i2 i3 i4 s.heap s.heap.size (Old.start s) p e ha hc hk s m _ below hf ((Spec.applies_iff_loose hf).mp happ).1 ⟨rfl, State.Warmed39.refl s, rfl⟩ trivial
  refine ⟨n, _, h1, h2, h3, hpost _ _ _ _ _ _ ⟨Cond.after_iff.mpr rfl, Cond.after_iff.mpr (eq_i res_at (Term.int_eval (1)) rfl), trivial⟩ ⟨hq.1, hq.2.1, (hq.2.2.sift fun y hy => Or.inr (N y hy)).mono (by decide) (by decide)⟩⟩
theorem main_1_1 : Claimed_1_1 := comes_1 fun _ _ _ _ _ _ h hF => ⟨h.1, hF⟩
theorem main_1_2 : Claimed_1_2 := comes_1 fun _ _ _ _ _ _ h hF => ⟨h.2.1, hF⟩
end Jvm.Pilot.@@N@@
namespace Jvm.Pilot.@@N@@
open Jvm Jvm.ClassFile Sem Op Lib Jvm.Free Jvm.Stand Jvm.Pilot.@@N@@.Jvm.D
/-! MADE BY PROGRAM (witnessworld.py) out of the Statement's table words and the real class files: 10 classes; the members and pool entries that the words name. The judged class is class 1, her method 1. -/
namespace start1
open Jvm.ClassFile
def u (s : String) : CpInfo := .utf8 (stringToUtf16 s)
/-- a pool by its gaps: so many unusable entries, then the entry; so many at the end -/
def gap : Nat → List CpInfo → List CpInfo
  | 0, r => r
  | n + 1, r => .unusable :: gap n r
def poolList (es : List (Nat × CpInfo)) (last : Nat) : List CpInfo := es.foldr (fun e r => gap e.1 (e.2 :: r)) (gap last [])
def pool (es : List (Nat × CpInfo)) (last : Nat) : Array CpInfo := ⟨poolList es last⟩
def fileOf (pool : Array CpInfo) (this : Nat) (attrs : Array Attribute := #[]) (ms : Array MethodInfo := #[]) (fl : Nat := 33) (sup : Nat := 0) (ifs : Array Nat := #[]) (fds : Array FieldInfo := #[]) : ClassFile where
  minorVersion := 0
  majorVersion := 65
  constantPool := pool
  accessFlags := fl
  thisClass := this
  superClass := sup
  interfaces := ifs
  fields := fds
  methods := ms
  attributes := attrs
def plain (name : String) (sup : Option ClassId) : Class where
  name := name
  kind := .ordinary
  loader := none
  accessFlags := 33
  super := sup
  interfaces := #[]
  cf := none
  fields := #[]
  methods := #[]
  instanceTypes := #[]
  staticTypes := #[]
  resolved := #[]
  callSites := []
  init := .initialized
  statics := none
  mirror := none

def pool0 : Array CpInfo := pool [(5, u "<init>"), (0, u "()V"), (1, .class_ 10), (1, u "java/lang/Object")] 113

def k0c0 : Code := { maxStack := 0, maxLocals := 1, code := object_method_1_code, exceptionTable := #[], attributes := #[] }
def k0m0 : Method := { name := "<init>", desc := "()V", sig := { parameters := [], returnType := none }, accessFlags := 1, code := some k0c0 }
/-- java/lang/Object -/
def k0 : Class := { plain "java/lang/Object" none with
  accessFlags := 33
  interfaces := #[]
  cf := some (fileOf pool0 8 #[] #[{ accessFlags := 1, nameIndex := 5, descriptorIndex := 6, attributes := #[] }] 33 0 #[] #[])
  fields := #[]
  methods := #[k0m0]
  instanceTypes := #[]
  staticTypes := #[]
  resolved := Array.replicate 124 none
  statics := none }

def pool1 : Array CpInfo := pool [(2, .class_ 4), (1, u "java/lang/Object"), (0, u "<init>"), (0, u "()V"), (0, .class_ 8), (0, u "com/example/carbonfold/carbonfold/bench/Fanout$Result"), (0, .methodref 7 10), (0, .nameAndType 5 11), (0, u "(JJJJ)V"), (0, .methodref 7 13), (0, .nameAndType 14 15), (0, u "complete"), (0, u "()Z"), (0, .class_ 17), (0, u "com/example/carbonfold/carbonfold/bench/ResultCompletePinLaw"), (2, u "law"), (0, u "(JJJJI)Z")] 7

def k1m0 : Method := { name := "<init>", desc := "()V", sig := { parameters := [], returnType := none }, accessFlags := 1, code := none }
def k1c1 : Code := { maxStack := 10, maxLocals := 16, code := code, exceptionTable := #[], attributes := #[] }
def k1m1 : Method := { name := "law", desc := "(JJJJI)Z", sig := { parameters := [.long, .long, .long, .long, .int], returnType := some .boolean }, accessFlags := 9, code := some k1c1 }
/-- com/example/carbonfold/carbonfold/bench/ResultCompletePinLaw -/
def k1 : Class := { plain "com/example/carbonfold/carbonfold/bench/ResultCompletePinLaw" (some 0) with
  accessFlags := 49
  interfaces := #[]
  cf := some (fileOf pool1 16 #[] #[{ accessFlags := 1, nameIndex := 5, descriptorIndex := 6, attributes := #[] }, { accessFlags := 9, nameIndex := 20, descriptorIndex := 21, attributes := #[] }] 49 2 #[] #[])
  fields := #[]
  methods := #[k1m0, k1m1]
  instanceTypes := #[]
  staticTypes := #[]
  resolved := Array.replicate 29 none
  statics := none }

def pool2 : Array CpInfo := pool [(1, .methodref 2 3), (0, .class_ 4), (0, .nameAndType 5 6), (0, u "java/lang/Object"), (0, u "<init>"), (0, u "()V"), (0, .class_ 8), (0, u "java/lang/Record")] 13

def k2c0 : Code := { maxStack := 1, maxLocals := 1, code := jdk_30_method_1_code, exceptionTable := #[], attributes := #[] }
def k2m0 : Method := { name := "<init>", desc := "()V", sig := { parameters := [], returnType := none }, accessFlags := 4, code := some k2c0 }
/-- java/lang/Record -/
def k2 : Class := { plain "java/lang/Record" (some 0) with
  accessFlags := 1057
  interfaces := #[]
  cf := some (fileOf pool2 7 #[] #[{ accessFlags := 4, nameIndex := 5, descriptorIndex := 6, attributes := #[] }] 1057 2 #[] #[])
  fields := #[]
  methods := #[k2m0]
  instanceTypes := #[]
  staticTypes := #[]
  resolved := Array.replicate 22 none
  statics := none }

def pool3 : Array CpInfo := pool [(1, .methodref 2 3), (0, .class_ 4), (0, .nameAndType 5 6), (0, u "java/lang/Record"), (0, u "<init>"), (0, u "()V"), (0, .fieldref 8 9), (0, .class_ 10), (0, .nameAndType 11 12), (0, u "com/example/carbonfold/carbonfold/bench/Fanout$Result"), (0, u "expected"), (0, u "J"), (0, .fieldref 8 14), (0, .nameAndType 15 12), (0, u "seen"), (0, .fieldref 8 17), (0, .nameAndType 18 12), (0, u "extra"), (0, .fieldref 8 20), (0, .nameAndType 21 12), (0, u "nanos"), (22, u "(JJJJ)V"), (6, u "complete"), (0, u "()Z"), (6, .class_ 60), (0, u "com/example/carbonfold/carbonfold/bench/Fanout")] 22

def k3c0 : Code := { maxStack := 3, maxLocals := 9, code := prog_8_method_1_code, exceptionTable := #[], attributes := #[] }
def k3m0 : Method := { name := "<init>", desc := "(JJJJ)V", sig := { parameters := [.long, .long, .long, .long], returnType := none }, accessFlags := 1, code := some k3c0 }
def k3c1 : Code := { maxStack := 4, maxLocals := 1, code := prog_8_method_3_code, exceptionTable := #[], attributes := #[] }
def k3m1 : Method := { name := "complete", desc := "()Z", sig := { parameters := [], returnType := some .boolean }, accessFlags := 1, code := some k3c1 }
/-- com/example/carbonfold/carbonfold/bench/Fanout$Result -/
def k3 : Class := { plain "com/example/carbonfold/carbonfold/bench/Fanout$Result" (some 2) with
  accessFlags := 49
  interfaces := #[]
  cf := some (fileOf pool3 8 #[.nestHost 59] #[{ accessFlags := 1, nameIndex := 5, descriptorIndex := 44, attributes := #[] }, { accessFlags := 1, nameIndex := 51, descriptorIndex := 52, attributes := #[] }] 49 2 #[] #[{ accessFlags := 18, nameIndex := 11, descriptorIndex := 12, attributes := #[] }, { accessFlags := 18, nameIndex := 15, descriptorIndex := 12, attributes := #[] }, { accessFlags := 18, nameIndex := 18, descriptorIndex := 12, attributes := #[] }, { accessFlags := 18, nameIndex := 21, descriptorIndex := 12, attributes := #[] }])
  fields := #[{ name := "expected", type := .long, accessFlags := 18, slot := 0, constantValue := 0 }, { name := "seen", type := .long, accessFlags := 18, slot := 1, constantValue := 0 }, { name := "extra", type := .long, accessFlags := 18, slot := 2, constantValue := 0 }, { name := "nanos", type := .long, accessFlags := 18, slot := 3, constantValue := 0 }]
  methods := #[k3m0, k3m1]
  instanceTypes := #[.long, .long, .long, .long]
  staticTypes := #[]
  resolved := Array.replicate 83 none
  statics := none }

def pool4 : Array CpInfo := pool [(1, u "java/lang/Cloneable"), (0, .class_ 1), (0, u "java/lang/Object"), (0, .class_ 3)] 3

/-- java/lang/Cloneable -/
def k4 : Class := { plain "java/lang/Cloneable" (some 0) with
  accessFlags := 1537
  interfaces := #[]
  cf := some (fileOf pool4 2 #[] #[] 1537 4 #[] #[])
  fields := #[]
  methods := #[]
  instanceTypes := #[]
  staticTypes := #[]
  resolved := Array.replicate 8 none
  statics := none }

def pool5 : Array CpInfo := pool [(1, u "java/io/Serializable"), (0, .class_ 1), (0, u "java/lang/Object"), (0, .class_ 3)] 3

/-- java/io/Serializable -/
def k5 : Class := { plain "java/io/Serializable" (some 0) with
  accessFlags := 1537
  interfaces := #[]
  cf := some (fileOf pool5 2 #[] #[] 1537 4 #[] #[])
  fields := #[]
  methods := #[]
  instanceTypes := #[]
  staticTypes := #[]
  resolved := Array.replicate 8 none
  statics := none }

/-- the primitive byte -/
def k6 : Class := { plain "byte" none with kind := .primitive 'B', accessFlags := 0x411 }
/-- [B -/
def k7 : Class := { plain "[B" (some 0) with kind := .array 6 .byte, interfaces := #[4, 5], accessFlags := 1041 }

/-- the primitive int -/
def k8 : Class := { plain "int" none with kind := .primitive 'I', accessFlags := 0x411 }
/-- [I -/
def k9 : Class := { plain "[I" (some 0) with kind := .array 8 .int, interfaces := #[4, 5], accessFlags := 1041 }

def heap : Heap := #[]
def classes : Array Class := #[k0, k1, k2, k3, k4, k5, k6, k7, k8, k9]
def interned : List (Array UInt16 × Addr) := []
def slotsUsed : Nat := 0
def theMethod : MethodId := ⟨1, 1⟩
def args0 : Array Value := #[.long 5, .long 6, .long 7, .long 8, .int 1]
def aboutOver (below : List Frame) : State where
  vm := { classes := classes, interned := interned.toArray }
  heap := heap
  slotsUsed := slotsUsed
  threads := #[{ frames := .invoking theMethod args0 :: below }]
def below0 : List Frame := [.native { method := ⟨0, 0⟩, args := #[] }]
def about1 : State := aboutOver below0
def p0 : Program := .bare "" "" ""
def e0 : Env := launch0.env 0 0 0
theorem w_frames : about1.frames = Frame.invoking theMethod args0 :: below0 := rfl
set_option maxRecDepth 65536 in
theorem w_args : argsFit about1.vm theMethod args0 = true := by decide +kernel
set_option maxRecDepth 65536 in
theorem w_heap : heapFits about1 = true := by decide +kernel
set_option maxRecDepth 65536 in
theorem w_runnable : about1.curStatus? = some .runnable := by decide +kernel
set_option maxRecDepth 65536 in
theorem w_alone : about1.alone = true := by decide +kernel
set_option maxRecDepth 65536 in
theorem w_named : about1.methodNamed? x = some theMethod := by decide +kernel
set_option maxRecDepth 65536 in
theorem w_hears : about1.hears theMethod below0 = true := by decide +kernel
set_option maxRecDepth 65536 in
theorem w_ripe : about1.ripe theMethod args0 below0 = true := by decide +kernel
theorem w_running : about1.status = .running := rfl
set_option maxRecDepth 65536 in
theorem w_room : about1.hasRoom e0.platform room_1 = true :=
  launch0.hasRoom_least _ room_1 (by decide +kernel) (by decide +kernel) (by decide +kernel) (by decide +kernel) (by decide +kernel) (by decide +kernel)
theorem allAtoms_all (ts : List Jvm.Cond) (a : Array Jvm.Value) (st : Jvm.State) : (allAtoms ts).before a st = ts.all (fun c => c.before a st) := by
  induction ts with
  | nil => rfl
  | cons c t ih =>
    show (Jvm.Cond.and c (allAtoms t)).before a st = _
    rw [Jvm.Cond.before_and, ih, List.all_cons]
def words1 : List Jvm.Cond := Jvm.Cond.code x code maxLocals ret :: tables_1
/-- a 'code' word, met by the world's own term for the bytes: nothing is compared byte by byte -/
theorem code_word {y : MethodName} {bytes : ByteArray} {mx : Nat} {rt : Option FieldType} {a : Array Value} {s : State} {m : MethodId} {meth : Method} {c : Code} (h1 : s.methodNamed? y = some m) (h2 : s.vm.method? m = some meth) (h3 : meth.code = some c) (h4 : c.code = bytes)
    (h5 : (c.maxLocals == mx && c.exceptionTable.isEmpty && decide (c.maxStack ≤ mostOperands) && decide (meth.sig.returnType = rt) && !meth.locks && decide (parseMethodDescriptor y.desc = some meth.sig)) = true) : (Jvm.Cond.code y bytes mx rt).before a s = true := by
  simp only [Bool.and_eq_true, beq_iff_eq, Bool.not_eq_true', decide_eq_true_eq] at h5
  obtain ⟨⟨⟨⟨⟨g1, g2⟩, g3⟩, g4⟩, g5⟩, g6⟩ := h5
  simp [Cond.before, Cond.holds, Cond.value, h1, h2, h3, h4, g1, g2, g3, g4, g5, g6]
def isCode : Jvm.Cond → Bool
  | .code _ _ _ _ => true
  | _ => false
theorem all_split {L : List Jvm.Cond} {P : Jvm.Cond → Bool} (h1 : L.all (fun c => isCode c || P c) = true) (h2 : ∀ c ∈ L.filter isCode, P c = true) : L.all P = true := by
  refine List.all_eq_true.mpr fun c hc => ?_
  have h := List.all_eq_true.mp h1 c hc
  rcases Bool.eq_false_or_eq_true (isCode c) with hi | hi
  · exact h2 c (List.mem_filter.mpr ⟨hc, hi⟩)
  · simpa [hi] using h
set_option maxRecDepth 65536 in
theorem w_c0 : (Jvm.Cond.code x code maxLocals ret).before args0 about1 = true := code_word (m := ⟨1, 1⟩) (meth := k1m1) (c := k1c1) (by decide +kernel) rfl rfl rfl (by decide +kernel)
set_option maxRecDepth 65536 in
theorem w_c1 : (Jvm.Cond.code ({ cls := "com/example/carbonfold/carbonfold/bench/Fanout$Result", name := "<init>", desc := "(JJJJ)V" } : Jvm.MethodName) prog_8_method_1_code (9 : Nat) (Option.none : Option Jvm.ClassFile.FieldType)).before args0 about1 = true := code_word (m := ⟨3, 0⟩) (meth := k3m0) (c := k3c0) (by decide +kernel) rfl rfl rfl (by decide +kernel)
set_option maxRecDepth 65536 in
theorem w_c2 : (Jvm.Cond.code ({ cls := "java/lang/Record", name := "<init>", desc := "()V" } : Jvm.MethodName) jdk_30_method_1_code (1 : Nat) (Option.none : Option Jvm.ClassFile.FieldType)).before args0 about1 = true := code_word (m := ⟨2, 0⟩) (meth := k2m0) (c := k2c0) (by decide +kernel) rfl rfl rfl (by decide +kernel)
set_option maxRecDepth 65536 in
theorem w_c3 : (Jvm.Cond.code ({ cls := "java/lang/Object", name := "<init>", desc := "()V" } : Jvm.MethodName) object_method_1_code (1 : Nat) (Option.none : Option Jvm.ClassFile.FieldType)).before args0 about1 = true := code_word (m := ⟨0, 0⟩) (meth := k0m0) (c := k0c0) (by decide +kernel) rfl rfl rfl (by decide +kernel)
set_option maxRecDepth 65536 in
theorem w_c4 : (Jvm.Cond.code ({ cls := "com/example/carbonfold/carbonfold/bench/Fanout$Result", name := "complete", desc := "()Z" } : Jvm.MethodName) prog_8_method_3_code (1 : Nat) (Option.some Jvm.ClassFile.FieldType.boolean)).before args0 about1 = true := code_word (m := ⟨3, 1⟩) (meth := k3m1) (c := k3c1) (by decide +kernel) rfl rfl rfl (by decide +kernel)
def codes1 : List Jvm.Cond := [Jvm.Cond.code x code maxLocals ret, Jvm.Cond.code ({ cls := "com/example/carbonfold/carbonfold/bench/Fanout$Result", name := "<init>", desc := "(JJJJ)V" } : Jvm.MethodName) prog_8_method_1_code (9 : Nat) (Option.none : Option Jvm.ClassFile.FieldType), Jvm.Cond.code ({ cls := "java/lang/Record", name := "<init>", desc := "()V" } : Jvm.MethodName) jdk_30_method_1_code (1 : Nat) (Option.none : Option Jvm.ClassFile.FieldType), Jvm.Cond.code ({ cls := "java/lang/Object", name := "<init>", desc := "()V" } : Jvm.MethodName) object_method_1_code (1 : Nat) (Option.none : Option Jvm.ClassFile.FieldType), Jvm.Cond.code ({ cls := "com/example/carbonfold/carbonfold/bench/Fanout$Result", name := "complete", desc := "()Z" } : Jvm.MethodName) prog_8_method_3_code (1 : Nat) (Option.some Jvm.ClassFile.FieldType.boolean)]
set_option maxRecDepth 65536 in
theorem codes_eq : words1.filter isCode = codes1 := rfl
theorem w_codes : ∀ c ∈ words1.filter isCode, c.before args0 about1 = true := by
  rw [codes_eq]
  intro c hc
  simp only [codes1, List.mem_cons, List.not_mem_nil, or_false] at hc
  rcases hc with rfl | rfl | rfl | rfl | rfl
  · exact w_c0
  · exact w_c1
  · exact w_c2
  · exact w_c3
  · exact w_c4
set_option maxRecDepth 65536 in
theorem w_t1 : (words1.take 24).all (fun c => isCode c || c.before args0 about1) = true := by decide +kernel
set_option maxRecDepth 65536 in
theorem w_t2 : (words1.drop 24).all (fun c => isCode c || c.before args0 about1) = true := by decide +kernel
theorem w_tables : (allAtoms (Jvm.Cond.code x code maxLocals ret :: tables_1)).before args0 about1 = true := by
  rw [allAtoms_all]
  show words1.all (fun c => c.before args0 about1) = true
  refine all_split ?_ w_codes
  rw [← List.take_append_drop 24 words1, List.all_append, w_t1, w_t2]
  rfl
set_option maxRecDepth 65536 in
theorem w_case : (Jvm.Cond.and given_1 narrow_1).before args0 about1 = true := by decide +kernel
theorem w_applies : (headSpec (Jvm.Cond.code x code maxLocals ret :: tables_1) room_1).applies x e0.platform about1 = true :=
  (Spec.applies_iff w_frames).mpr ⟨w_running, w_runnable, w_alone, w_named, w_hears, w_ripe, w_room, w_tables⟩
theorem atStart : AtStart classFile x code maxLocals ret World_1 tables_1 room_1 Calls_1 rest_1 Pre_1 launch0 p0 e0 about1 theMethod args0 below0 :=
  ⟨lists_1, trivial, launch0.admits_env _ _ _, launch0.least_env, fairChoices_fair.cas, fairChoices_fair.clock, w_frames, w_args, w_heap, w_applies, trivial, trivial, w_case⟩
end start1
theorem witness_1 : WitnessClaimed_1 := ⟨start1.p0, start1.e0, start1.about1, start1.theMethod, start1.args0, start1.below0, start1.atStart⟩
end Jvm.Pilot.@@N@@
