import JvmDerived
import JvmDerived.Pilot.@@N@@Statement
import JvmDerived.Pilot.@@N@@Code
set_option linter.unusedVariables false
set_option linter.unusedSimpArgs false
namespace Jvm.RoadKit
open Sem ClassFile Op Lib Jvm.Stand Jvm.Free Jvm.LawKit
section New
variable {p : Program} {l : Launch} {e : Env} {R : Room} {s : State} {m : MethodId} {args : Array Value} {below : List Frame} {meth : Method} {c : Code} {T : State} {locs : List Loc} {cells slots : Nat}
theorem retI (X : Stand p l e R s m args below meth c T locs cells slots) (hx : p.tables.exec = Jvm.exec) {pc : Nat} {Ls : Array Slot} {z : Int32} {rest : List Value} (hret : meth.sig.returnType = some .int) (hd : decode c.code pc = .ok (.ireturn, 1)) {fs : List Frame}
    (hl : ∀ (f : JFrame) (acts : List Action), f.method = m → f.locked = none → f.entered = [] → (doReturn e (T.setTop f) acts (some (.int z))).1 = T.setFrames fs) : Steps p.tables e below (T.setTop (mkF m pc Ls (.int z :: rest))) (T.setFrames fs) := by
  have hm' : T.vm.method? m = some meth := X.method'
  have hn : narrow .int (.int z) = .int z := rfl
  show Steps p.tables e below (T.setTop { method := m, pc := pc, locals := Ls, stack := _ :: rest, locked := none }) _
  jvm_step X.here [X.here.top, hx, hd, hm', hret, hn]
  first | (intro acts; rw [hl _ acts rfl rfl rfl]) | rw [hl _ _ rfl rfl rfl]
  exact Steps.refl _
end New
end Jvm.RoadKit
namespace Jvm.Pilot.@@N@@
open Jvm Jvm.ClassFile Sem Op Lib Jvm.Free Jvm.Stand Jvm.LawKit Jvm.RoadKit Bundle Jvm.Pilot.@@N@@.Jvm.D
def QL (n0 : Nat) (v : Option Value) (h : Heap) (L : List Loc) : Prop := v = some (.int 1) ∧ Fr n0 L
def Q_rmI (Z : State) (a1 : Addr) (x2 : Int64) (x3 : Int64) (x4 : Int64) (x5 : Int64) (x6 : Int64) (h0 : Heap) (n0 : Nat) (v : Option Value) (h : Heap) (L : List Loc) : Prop := v = none ∧ Fr n0 L ∧ Keep h0 h [a1] ∧ Exa Z h a1 "com/example/abir/abir/RowCounts" ∧ Fld Z h a1 "com/example/abir/abir/RowCounts" "processed" "J" (.long x2) ∧ Fld Z h a1 "com/example/abir/abir/RowCounts" "inserted" "J" (.long x3) ∧ Fld Z h a1 "com/example/abir/abir/RowCounts" "updated" "J" (.long x4) ∧ Fld Z h a1 "com/example/abir/abir/RowCounts" "unchanged" "J" (.long x5) ∧ Fld Z h a1 "com/example/abir/abir/RowCounts" "errorRows" "J" (.long x6)
theorem pn_0 : plainName "com/example/abir/abir/RowCounts" = true := by first | (simp [plainName, overriddenIn]; done) | decide +kernel
theorem ef_0 (m : MethodId) (x0 : Addr) (x1 : Int64) (x2 : Int64) (x3 : Int64) (x4 : Int64) (x5 : Int64) : entryFrame m #[(.ref x0), (.long x1), (.long x2), (.long x3), (.long x4), (.long x5)] 11 = mkF m 0 #[.val (.ref x0), .val (.long x1), .second, .val (.long x2), .second, .val (.long x3), .second, .val (.long x4), .second, .val (.long x5), .second] [] := by first | (simp [entryFrame, mkF, argsToLocals, Value.category]; done) | rfl
theorem dc0_0 : decode prog_15_method_1_code 0 = .ok (.aload_n 0, 1) := by decide +kernel
theorem dc0_1 : decode prog_15_method_1_code 1 = .ok (.invokespecial 1, 3) := by decide +kernel
theorem dc0_4 : decode prog_15_method_1_code 4 = .ok (.aload_n 0, 1) := by decide +kernel
theorem dc0_5 : decode prog_15_method_1_code 5 = .ok (.lload_n 1, 1) := by decide +kernel
theorem dc0_6 : decode prog_15_method_1_code 6 = .ok (.putfield 7, 3) := by decide +kernel
theorem dc0_9 : decode prog_15_method_1_code 9 = .ok (.aload_n 0, 1) := by decide +kernel
theorem dc0_10 : decode prog_15_method_1_code 10 = .ok (.lload_n 3, 1) := by decide +kernel
theorem dc0_11 : decode prog_15_method_1_code 11 = .ok (.putfield 13, 3) := by decide +kernel
theorem dc0_14 : decode prog_15_method_1_code 14 = .ok (.aload_n 0, 1) := by decide +kernel
theorem dc0_15 : decode prog_15_method_1_code 15 = .ok (.lload 5, 2) := by decide +kernel
theorem dc0_17 : decode prog_15_method_1_code 17 = .ok (.putfield 16, 3) := by decide +kernel
theorem dc0_20 : decode prog_15_method_1_code 20 = .ok (.aload_n 0, 1) := by decide +kernel
theorem dc0_21 : decode prog_15_method_1_code 21 = .ok (.lload 7, 2) := by decide +kernel
theorem dc0_23 : decode prog_15_method_1_code 23 = .ok (.putfield 19, 3) := by decide +kernel
theorem dc0_26 : decode prog_15_method_1_code 26 = .ok (.aload_n 0, 1) := by decide +kernel
theorem dc0_27 : decode prog_15_method_1_code 27 = .ok (.lload 9, 2) := by decide +kernel
theorem dc0_29 : decode prog_15_method_1_code 29 = .ok (.putfield 22, 3) := by decide +kernel
theorem dc0_32 : decode prog_15_method_1_code 32 = .ok (.return_, 1) := by decide +kernel
set_option maxRecDepth 65536 in
set_option maxHeartbeats 40000000 in
theorem rmI (l : Launch) (Z : State) (a0 : Array Value) (hw : ∀ d ∈ tables_1, d.before a0 Z = true) (ws : List Jvm.Cond) (a1 : Addr) (x2 : Int64) (x3 : Int64) (x4 : Int64) (x5 : Int64) (x6 : Int64) (h0 : Heap) (n0 : Nat) (O0 : Old Z n0 h0) (E1 : Exa Z h0 a1 "com/example/abir/abir/RowCounts") (F_processed : Fld Z h0 a1 "com/example/abir/abir/RowCounts" "processed" "J" (.long (0 : Int64))) (F_inserted : Fld Z h0 a1 "com/example/abir/abir/RowCounts" "inserted" "J" (.long (0 : Int64))) (F_updated : Fld Z h0 a1 "com/example/abir/abir/RowCounts" "updated" "J" (.long (0 : Int64))) (F_unchanged : Fld Z h0 a1 "com/example/abir/abir/RowCounts" "unchanged" "J" (.long (0 : Int64))) (F_errorRows : Fld Z h0 a1 "com/example/abir/abir/RowCounts" "errorRows" "J" (.long (0 : Int64))) (g1 : n0 ≤ a1) :
    MetFree l (⟨"com/example/abir/abir/RowCounts", "<init>", "(JJJJJ)V"⟩ : MethodName) (head1 (Jvm.Cond.code (⟨"com/example/abir/abir/RowCounts", "<init>", "(JJJJJ)V"⟩ : MethodName) prog_15_method_1_code 11 none :: ws) ({ frames := 1, cells := 0, slots := 0, locals := 12 } : Room)) (fun a U => a = #[(.ref a1), (.long x2), (.long x3), (.long x4), (.long x5), (.long x6)] ∧ Z.Warmed39 U.vm ∧ U.heap = h0) (fun _ _ _ _ _ => True) (fun _ U o U' => ∃ v L, o = .returned v ∧ Q_rmI Z a1 x2 x3 x4 x5 x6 h0 n0 v U'.heap L ∧ FrameEnd U o U' L ({ frames := 1, cells := 0, slots := 0, locals := 12 } : Room).cells ({ frames := 1, cells := 0, slots := 0, locals := 12 } : Room).slots) := by
  refine MetFree.of_bodySF (plainFor_of_name pn_0) hisR ?_
  intro p e s m args below meth c s₁ Bd hml0 hP hK
  obtain ⟨rfl, hZ, hh⟩ := hP
  have hx := Bd.exec
  have hby := Bd.bytes
  have hml : c.maxLocals = 11 := hml0
  have hown : s.vm.findClass "com/example/abir/abir/RowCounts" = some m.cls := findClass_of_methodNamed Bd.named
  have hnm := (name_of_methodNamed Bd.named Bd.method).1
  have X0 : Stand p l e ({ frames := 1, cells := 0, slots := 0, locals := 12 } : Room) s m #[(.ref a1), (.long x2), (.long x3), (.long x4), (.long x5), (.long x6)] below meth c s₁ [] 0 0 := Stand.of_body Bd
  have e0 : s₁.heap = h0 := by rw [← hh, Bd.state]; rfl
  have N0 := Fr.nil n0
  have pre0 : ∀ t, Steps p.tables e below (s₁.setTop (mkF m 0 #[.val (.ref a1), .val (.long x2), .second, .val (.long x3), .second, .val (.long x4), .second, .val (.long x5), .second, .val (.long x6), .second] [])) t → Steps p.tables e below (s₁.setTop (entryFrame m #[(.ref a1), (.long x2), (.long x3), (.long x4), (.long x5), (.long x6)] 11)) t := fun t k => castTop (ef_0 m a1 x2 x3 x4 x5 x6) k
  obtain ⟨T1, X1, e1, st1⟩ := initO X0 hx hZ hown (hw _ (List.mem_of_getElem? (i := 7) rfl)) (hw _ (List.mem_of_getElem? (i := 8) rfl)) (hw _ (List.mem_of_getElem? (i := 9) rfl)) e0 (g := (mkF m 1 #[.val (.ref a1), .val (.long x2), .second, .val (.long x3), .second, .val (.long x4), .second, .val (.long x5), .second, .val (.long x6), .second] [(.ref a1)])) rfl (by rw [hml]; rfl) rfl (hb hby dc0_1) (by decide) (W := 0) (by show 2 * 0 + _ ≤ _; exact Nat.le_of_eq rfl) (by decide)
  obtain ⟨T2, h2, X2, e2, W2, st2⟩ := putF X1 hx hZ hown (host := "") (Or.inl (hw _ (List.mem_of_getElem? (i := 10) rfl))) Via.refl e1 F_processed E1 (Or.inr ⟨(hw _ (List.mem_of_getElem? (i := 11) rfl)), rfl, hnm⟩) (hw _ (List.mem_of_getElem? (i := 2) rfl)) (ty := .long) (by decide) rfl rfl (g := (mkF m 6 #[.val (.ref a1), .val (.long x2), .second, .val (.long x3), .second, .val (.long x4), .second, .val (.long x5), .second, .val (.long x6), .second] [(.long x2), (.ref a1)])) rfl rfl (hb hby dc0_6)
  have Fw2 : Fld Z h2 a1 "com/example/abir/abir/RowCounts" "processed" "J" (.long x2) := Fld.same W2 F_processed
  have N2 := Fr.snoc X2 N0 g1
  have f3 := (E1.wr W2)
  have f4 := (F_inserted.other W2 (Or.inr (slot_ne (Or.inr (hw _ (List.mem_of_getElem? (i := 13) rfl))) (Or.inr (hw _ (List.mem_of_getElem? (i := 11) rfl))) (by decide) (t := .long) (t' := .long) (by decide) (by decide))))
  obtain ⟨T5, h5, X5, e5, W5, st5⟩ := putF X2 hx hZ hown (host := "") (Or.inl (hw _ (List.mem_of_getElem? (i := 12) rfl))) Via.refl e2 f4 f3 (Or.inr ⟨(hw _ (List.mem_of_getElem? (i := 13) rfl)), rfl, hnm⟩) (hw _ (List.mem_of_getElem? (i := 2) rfl)) (ty := .long) (by decide) rfl rfl (g := (mkF m 11 #[.val (.ref a1), .val (.long x2), .second, .val (.long x3), .second, .val (.long x4), .second, .val (.long x5), .second, .val (.long x6), .second] [(.long x3), (.ref a1)])) rfl rfl (hb hby dc0_11)
  have Fw5 : Fld Z h5 a1 "com/example/abir/abir/RowCounts" "inserted" "J" (.long x3) := Fld.same W5 f4
  have N5 := Fr.snoc X5 N2 g1
  have f6 := (f3.wr W5)
  have f7 := ((F_updated.other W2 (Or.inr (slot_ne (Or.inr (hw _ (List.mem_of_getElem? (i := 15) rfl))) (Or.inr (hw _ (List.mem_of_getElem? (i := 11) rfl))) (by decide) (t := .long) (t' := .long) (by decide) (by decide)))).other W5 (Or.inr (slot_ne (Or.inr (hw _ (List.mem_of_getElem? (i := 15) rfl))) (Or.inr (hw _ (List.mem_of_getElem? (i := 13) rfl))) (by decide) (t := .long) (t' := .long) (by decide) (by decide))))
  obtain ⟨T8, h8, X8, e8, W8, st8⟩ := putF X5 hx hZ hown (host := "") (Or.inl (hw _ (List.mem_of_getElem? (i := 14) rfl))) Via.refl e5 f7 f6 (Or.inr ⟨(hw _ (List.mem_of_getElem? (i := 15) rfl)), rfl, hnm⟩) (hw _ (List.mem_of_getElem? (i := 2) rfl)) (ty := .long) (by decide) rfl rfl (g := (mkF m 17 #[.val (.ref a1), .val (.long x2), .second, .val (.long x3), .second, .val (.long x4), .second, .val (.long x5), .second, .val (.long x6), .second] [(.long x4), (.ref a1)])) rfl rfl (hb hby dc0_17)
  have Fw8 : Fld Z h8 a1 "com/example/abir/abir/RowCounts" "updated" "J" (.long x4) := Fld.same W8 f7
  have N8 := Fr.snoc X8 N5 g1
  have f9 := (f6.wr W8)
  have f10 := (((F_unchanged.other W2 (Or.inr (slot_ne (Or.inr (hw _ (List.mem_of_getElem? (i := 17) rfl))) (Or.inr (hw _ (List.mem_of_getElem? (i := 11) rfl))) (by decide) (t := .long) (t' := .long) (by decide) (by decide)))).other W5 (Or.inr (slot_ne (Or.inr (hw _ (List.mem_of_getElem? (i := 17) rfl))) (Or.inr (hw _ (List.mem_of_getElem? (i := 13) rfl))) (by decide) (t := .long) (t' := .long) (by decide) (by decide)))).other W8 (Or.inr (slot_ne (Or.inr (hw _ (List.mem_of_getElem? (i := 17) rfl))) (Or.inr (hw _ (List.mem_of_getElem? (i := 15) rfl))) (by decide) (t := .long) (t' := .long) (by decide) (by decide))))
  obtain ⟨T11, h11, X11, e11, W11, st11⟩ := putF X8 hx hZ hown (host := "") (Or.inl (hw _ (List.mem_of_getElem? (i := 16) rfl))) Via.refl e8 f10 f9 (Or.inr ⟨(hw _ (List.mem_of_getElem? (i := 17) rfl)), rfl, hnm⟩) (hw _ (List.mem_of_getElem? (i := 2) rfl)) (ty := .long) (by decide) rfl rfl (g := (mkF m 23 #[.val (.ref a1), .val (.long x2), .second, .val (.long x3), .second, .val (.long x4), .second, .val (.long x5), .second, .val (.long x6), .second] [(.long x5), (.ref a1)])) rfl rfl (hb hby dc0_23)
  have Fw11 : Fld Z h11 a1 "com/example/abir/abir/RowCounts" "unchanged" "J" (.long x5) := Fld.same W11 f10
  have N11 := Fr.snoc X11 N8 g1
  have f12 := (f9.wr W11)
  have f13 := ((((F_errorRows.other W2 (Or.inr (slot_ne (Or.inr (hw _ (List.mem_of_getElem? (i := 19) rfl))) (Or.inr (hw _ (List.mem_of_getElem? (i := 11) rfl))) (by decide) (t := .long) (t' := .long) (by decide) (by decide)))).other W5 (Or.inr (slot_ne (Or.inr (hw _ (List.mem_of_getElem? (i := 19) rfl))) (Or.inr (hw _ (List.mem_of_getElem? (i := 13) rfl))) (by decide) (t := .long) (t' := .long) (by decide) (by decide)))).other W8 (Or.inr (slot_ne (Or.inr (hw _ (List.mem_of_getElem? (i := 19) rfl))) (Or.inr (hw _ (List.mem_of_getElem? (i := 15) rfl))) (by decide) (t := .long) (t' := .long) (by decide) (by decide)))).other W11 (Or.inr (slot_ne (Or.inr (hw _ (List.mem_of_getElem? (i := 19) rfl))) (Or.inr (hw _ (List.mem_of_getElem? (i := 17) rfl))) (by decide) (t := .long) (t' := .long) (by decide) (by decide))))
  obtain ⟨T14, h14, X14, e14, W14, st14⟩ := putF X11 hx hZ hown (host := "") (Or.inl (hw _ (List.mem_of_getElem? (i := 18) rfl))) Via.refl e11 f13 f12 (Or.inr ⟨(hw _ (List.mem_of_getElem? (i := 19) rfl)), rfl, hnm⟩) (hw _ (List.mem_of_getElem? (i := 2) rfl)) (ty := .long) (by decide) rfl rfl (g := (mkF m 29 #[.val (.ref a1), .val (.long x2), .second, .val (.long x3), .second, .val (.long x4), .second, .val (.long x5), .second, .val (.long x6), .second] [(.long x6), (.ref a1)])) rfl rfl (hb hby dc0_29)
  have Fw14 : Fld Z h14 a1 "com/example/abir/abir/RowCounts" "errorRows" "J" (.long x6) := Fld.same W14 f13
  have N14 := Fr.snoc X14 N11 g1
  obtain ⟨fs, hr, hrun, hended, hW, hsame⟩ := X14.leave (v := none) (fun _ => rfl)
  have K15 : Keep h0 h14 [a1] := (Keep.wr (Keep.wr (Keep.wr (Keep.wr (Keep.wr (Keep.refl h0 [a1]) W2 (Or.inl (List.mem_of_getElem? (i := 0) rfl))) W5 (Or.inl (List.mem_of_getElem? (i := 0) rfl))) W8 (Or.inl (List.mem_of_getElem? (i := 0) rfl))) W11 (Or.inl (List.mem_of_getElem? (i := 0) rfl))) W14 (Or.inl (List.mem_of_getElem? (i := 0) rfl)))
  have f16 := (f12.wr W14)
  have f17 := ((((Fw2.other W5 (Or.inr (slot_ne (Or.inr (hw _ (List.mem_of_getElem? (i := 11) rfl))) (Or.inr (hw _ (List.mem_of_getElem? (i := 13) rfl))) (by decide) (t := .long) (t' := .long) (by decide) (by decide)))).other W8 (Or.inr (slot_ne (Or.inr (hw _ (List.mem_of_getElem? (i := 11) rfl))) (Or.inr (hw _ (List.mem_of_getElem? (i := 15) rfl))) (by decide) (t := .long) (t' := .long) (by decide) (by decide)))).other W11 (Or.inr (slot_ne (Or.inr (hw _ (List.mem_of_getElem? (i := 11) rfl))) (Or.inr (hw _ (List.mem_of_getElem? (i := 17) rfl))) (by decide) (t := .long) (t' := .long) (by decide) (by decide)))).other W14 (Or.inr (slot_ne (Or.inr (hw _ (List.mem_of_getElem? (i := 11) rfl))) (Or.inr (hw _ (List.mem_of_getElem? (i := 19) rfl))) (by decide) (t := .long) (t' := .long) (by decide) (by decide))))
  have f18 := (((Fw5.other W8 (Or.inr (slot_ne (Or.inr (hw _ (List.mem_of_getElem? (i := 13) rfl))) (Or.inr (hw _ (List.mem_of_getElem? (i := 15) rfl))) (by decide) (t := .long) (t' := .long) (by decide) (by decide)))).other W11 (Or.inr (slot_ne (Or.inr (hw _ (List.mem_of_getElem? (i := 13) rfl))) (Or.inr (hw _ (List.mem_of_getElem? (i := 17) rfl))) (by decide) (t := .long) (t' := .long) (by decide) (by decide)))).other W14 (Or.inr (slot_ne (Or.inr (hw _ (List.mem_of_getElem? (i := 13) rfl))) (Or.inr (hw _ (List.mem_of_getElem? (i := 19) rfl))) (by decide) (t := .long) (t' := .long) (by decide) (by decide))))
  have f19 := ((Fw8.other W11 (Or.inr (slot_ne (Or.inr (hw _ (List.mem_of_getElem? (i := 15) rfl))) (Or.inr (hw _ (List.mem_of_getElem? (i := 17) rfl))) (by decide) (t := .long) (t' := .long) (by decide) (by decide)))).other W14 (Or.inr (slot_ne (Or.inr (hw _ (List.mem_of_getElem? (i := 15) rfl))) (Or.inr (hw _ (List.mem_of_getElem? (i := 19) rfl))) (by decide) (t := .long) (t' := .long) (by decide) (by decide))))
  have f20 := (Fw11.other W14 (Or.inr (slot_ne (Or.inr (hw _ (List.mem_of_getElem? (i := 17) rfl))) (Or.inr (hw _ (List.mem_of_getElem? (i := 19) rfl))) (by decide) (t := .long) (t' := .long) (by decide) (by decide))))
  refine ⟨_, _, pre0 _ ?_, hrun, hended, _, _, rfl, ?_, ⟨_, rfl⟩, hW, hsame.mono (by decide) (by decide)⟩
  · skip
    show Steps p.tables e below (s₁.setTop (mkF m 0 #[.val (.ref a1), .val (.long x2), .second, .val (.long x3), .second, .val (.long x4), .second, .val (.long x5), .second, .val (.long x6), .second] [])) _
    refine XS.aloadN X0.here hx rfl (hb hby dc0_0) rfl rfl ?_
    show Steps p.tables e below (s₁.setTop (mkF m 1 #[.val (.ref a1), .val (.long x2), .second, .val (.long x3), .second, .val (.long x4), .second, .val (.long x5), .second, .val (.long x6), .second] [(.ref a1)])) _
    refine st1 _ ?_
    show Steps p.tables e below (T1.setTop (mkF m 4 #[.val (.ref a1), .val (.long x2), .second, .val (.long x3), .second, .val (.long x4), .second, .val (.long x5), .second, .val (.long x6), .second] [])) _
    refine XS.aloadN X1.here hx rfl (hb hby dc0_4) rfl rfl ?_
    show Steps p.tables e below (T1.setTop (mkF m 5 #[.val (.ref a1), .val (.long x2), .second, .val (.long x3), .second, .val (.long x4), .second, .val (.long x5), .second, .val (.long x6), .second] [(.ref a1)])) _
    refine XS.lloadN X1.here hx rfl (hb hby dc0_5) rfl ?_
    show Steps p.tables e below (T1.setTop (mkF m 6 #[.val (.ref a1), .val (.long x2), .second, .val (.long x3), .second, .val (.long x4), .second, .val (.long x5), .second, .val (.long x6), .second] [(.long x2), (.ref a1)])) _
    refine st2 _ ?_
    show Steps p.tables e below (T2.setTop (mkF m 9 #[.val (.ref a1), .val (.long x2), .second, .val (.long x3), .second, .val (.long x4), .second, .val (.long x5), .second, .val (.long x6), .second] [])) _
    refine XS.aloadN X2.here hx rfl (hb hby dc0_9) rfl rfl ?_
    show Steps p.tables e below (T2.setTop (mkF m 10 #[.val (.ref a1), .val (.long x2), .second, .val (.long x3), .second, .val (.long x4), .second, .val (.long x5), .second, .val (.long x6), .second] [(.ref a1)])) _
    refine XS.lloadN X2.here hx rfl (hb hby dc0_10) rfl ?_
    show Steps p.tables e below (T2.setTop (mkF m 11 #[.val (.ref a1), .val (.long x2), .second, .val (.long x3), .second, .val (.long x4), .second, .val (.long x5), .second, .val (.long x6), .second] [(.long x3), (.ref a1)])) _
    refine st5 _ ?_
    show Steps p.tables e below (T5.setTop (mkF m 14 #[.val (.ref a1), .val (.long x2), .second, .val (.long x3), .second, .val (.long x4), .second, .val (.long x5), .second, .val (.long x6), .second] [])) _
    refine XS.aloadN X5.here hx rfl (hb hby dc0_14) rfl rfl ?_
    show Steps p.tables e below (T5.setTop (mkF m 15 #[.val (.ref a1), .val (.long x2), .second, .val (.long x3), .second, .val (.long x4), .second, .val (.long x5), .second, .val (.long x6), .second] [(.ref a1)])) _
    refine XS.lload X5.here hx rfl (hb hby dc0_15) rfl ?_
    show Steps p.tables e below (T5.setTop (mkF m 17 #[.val (.ref a1), .val (.long x2), .second, .val (.long x3), .second, .val (.long x4), .second, .val (.long x5), .second, .val (.long x6), .second] [(.long x4), (.ref a1)])) _
    refine st8 _ ?_
    show Steps p.tables e below (T8.setTop (mkF m 20 #[.val (.ref a1), .val (.long x2), .second, .val (.long x3), .second, .val (.long x4), .second, .val (.long x5), .second, .val (.long x6), .second] [])) _
    refine XS.aloadN X8.here hx rfl (hb hby dc0_20) rfl rfl ?_
    show Steps p.tables e below (T8.setTop (mkF m 21 #[.val (.ref a1), .val (.long x2), .second, .val (.long x3), .second, .val (.long x4), .second, .val (.long x5), .second, .val (.long x6), .second] [(.ref a1)])) _
    refine XS.lload X8.here hx rfl (hb hby dc0_21) rfl ?_
    show Steps p.tables e below (T8.setTop (mkF m 23 #[.val (.ref a1), .val (.long x2), .second, .val (.long x3), .second, .val (.long x4), .second, .val (.long x5), .second, .val (.long x6), .second] [(.long x5), (.ref a1)])) _
    refine st11 _ ?_
    show Steps p.tables e below (T11.setTop (mkF m 26 #[.val (.ref a1), .val (.long x2), .second, .val (.long x3), .second, .val (.long x4), .second, .val (.long x5), .second, .val (.long x6), .second] [])) _
    refine XS.aloadN X11.here hx rfl (hb hby dc0_26) rfl rfl ?_
    show Steps p.tables e below (T11.setTop (mkF m 27 #[.val (.ref a1), .val (.long x2), .second, .val (.long x3), .second, .val (.long x4), .second, .val (.long x5), .second, .val (.long x6), .second] [(.ref a1)])) _
    refine XS.lload X11.here hx rfl (hb hby dc0_27) rfl ?_
    show Steps p.tables e below (T11.setTop (mkF m 29 #[.val (.ref a1), .val (.long x2), .second, .val (.long x3), .second, .val (.long x4), .second, .val (.long x5), .second, .val (.long x6), .second] [(.long x6), (.ref a1)])) _
    refine st14 _ ?_
    show Steps p.tables e below (T14.setTop (mkF m 32 #[.val (.ref a1), .val (.long x2), .second, .val (.long x3), .second, .val (.long x4), .second, .val (.long x5), .second, .val (.long x6), .second] [])) _
    exact X14.returnOut hx Bd.returns (hb hby dc0_32) hr
  · show Q_rmI Z a1 x2 x3 x4 x5 x6 h0 n0 _ T14.heap _
    rw [e14]
    exact ⟨rfl, N14, K15, f16, f17, f18, f19, f20, Fw14⟩
def Q_rmG_processed (w1 : Int64) (h0 : Heap) (n0 : Nat) (v : Option Value) (h : Heap) (L : List Loc) : Prop := v = some (.long w1) ∧ Fr n0 L ∧ h = h0
theorem ef_1 (m : MethodId) (x0 : Addr) : entryFrame m #[(.ref x0)] 1 = mkF m 0 #[.val (.ref x0)] [] := by first | (simp [entryFrame, mkF, argsToLocals, Value.category]; done) | rfl
theorem dc1_0 : decode prog_15_method_3_code 0 = .ok (.aload_n 0, 1) := by decide +kernel
theorem dc1_1 : decode prog_15_method_3_code 1 = .ok (.getfield 7, 3) := by decide +kernel
theorem dc1_4 : decode prog_15_method_3_code 4 = .ok (.lreturn, 1) := by decide +kernel
set_option maxRecDepth 65536 in
set_option maxHeartbeats 40000000 in
theorem rmG_processed (l : Launch) (Z : State) (a0 : Array Value) (hw : ∀ d ∈ tables_1, d.before a0 Z = true) (ws : List Jvm.Cond) (a1 : Addr) (w1 : Int64) (h0 : Heap) (n0 : Nat) (O0 : Old Z n0 h0) (F1 : Fld Z h0 a1 "com/example/abir/abir/RowCounts" "processed" "J" (.long w1)) :
    MetFree l (⟨"com/example/abir/abir/RowCounts", "processed", "()J"⟩ : MethodName) (head1 (Jvm.Cond.code (⟨"com/example/abir/abir/RowCounts", "processed", "()J"⟩ : MethodName) prog_15_method_3_code 1 (some .long) :: ws) ({ frames := 0, cells := 0, slots := 0, locals := 0 } : Room)) (fun a U => a = #[(.ref a1)] ∧ Z.Warmed39 U.vm ∧ U.heap = h0) (fun _ _ _ _ _ => True) (fun _ U o U' => ∃ v L, o = .returned v ∧ Q_rmG_processed w1 h0 n0 v U'.heap L ∧ FrameEnd U o U' L ({ frames := 0, cells := 0, slots := 0, locals := 0 } : Room).cells ({ frames := 0, cells := 0, slots := 0, locals := 0 } : Room).slots) := by
  refine MetFree.of_bodySF (plainFor_of_name pn_0) hisR ?_
  intro p e s m args below meth c s₁ Bd hml0 hP hK
  obtain ⟨rfl, hZ, hh⟩ := hP
  have hx := Bd.exec
  have hby := Bd.bytes
  have hml : c.maxLocals = 1 := hml0
  have hown : s.vm.findClass "com/example/abir/abir/RowCounts" = some m.cls := findClass_of_methodNamed Bd.named
  have hnm := (name_of_methodNamed Bd.named Bd.method).1
  have X0 : Stand p l e ({ frames := 0, cells := 0, slots := 0, locals := 0 } : Room) s m #[(.ref a1)] below meth c s₁ [] 0 0 := Stand.of_body Bd
  have e0 : s₁.heap = h0 := by rw [← hh, Bd.state]; rfl
  have N0 := Fr.nil n0
  have pre0 : ∀ t, Steps p.tables e below (s₁.setTop (mkF m 0 #[.val (.ref a1)] [])) t → Steps p.tables e below (s₁.setTop (entryFrame m #[(.ref a1)] 1)) t := fun t k => castTop (ef_1 m a1) k
  obtain ⟨T1, X1, e1, st1⟩ := getF X0 hx hZ hown (host := "") (Or.inl (hw _ (List.mem_of_getElem? (i := 10) rfl))) Via.refl e0 F1 (g := (mkF m 1 #[.val (.ref a1)] [(.ref a1)])) rfl rfl (hb hby dc1_1)
  obtain ⟨fs, hr, hrun, hended, hW, hsame⟩ := X1.leave (v := some (.long w1)) (fun h => by rw [Bd.returns] at h; cases h)
  refine ⟨_, _, pre0 _ ?_, hrun, hended, _, _, rfl, ?_, ⟨_, rfl⟩, hW, hsame.mono (by decide) (by decide)⟩
  · skip
    show Steps p.tables e below (s₁.setTop (mkF m 0 #[.val (.ref a1)] [])) _
    refine XS.aloadN X0.here hx rfl (hb hby dc1_0) rfl rfl ?_
    show Steps p.tables e below (s₁.setTop (mkF m 1 #[.val (.ref a1)] [(.ref a1)])) _
    refine st1 _ ?_
    show Steps p.tables e below (T1.setTop (mkF m 4 #[.val (.ref a1)] [(.long w1)])) _
    exact retOut X1 hx (t := .long) Bd.returns rfl (Or.inr (Or.inl ⟨rfl, rfl, _, rfl⟩)) (hb hby dc1_4) hr
  · show Q_rmG_processed w1 h0 n0 _ T1.heap _
    rw [e1]
    exact ⟨rfl, N0, rfl⟩
def Q_rmG_inserted (w1 : Int64) (h0 : Heap) (n0 : Nat) (v : Option Value) (h : Heap) (L : List Loc) : Prop := v = some (.long w1) ∧ Fr n0 L ∧ h = h0
theorem dc2_0 : decode prog_15_method_4_code 0 = .ok (.aload_n 0, 1) := by decide +kernel
theorem dc2_1 : decode prog_15_method_4_code 1 = .ok (.getfield 13, 3) := by decide +kernel
theorem dc2_4 : decode prog_15_method_4_code 4 = .ok (.lreturn, 1) := by decide +kernel
set_option maxRecDepth 65536 in
set_option maxHeartbeats 40000000 in
theorem rmG_inserted (l : Launch) (Z : State) (a0 : Array Value) (hw : ∀ d ∈ tables_1, d.before a0 Z = true) (ws : List Jvm.Cond) (a1 : Addr) (w1 : Int64) (h0 : Heap) (n0 : Nat) (O0 : Old Z n0 h0) (F1 : Fld Z h0 a1 "com/example/abir/abir/RowCounts" "inserted" "J" (.long w1)) :
    MetFree l (⟨"com/example/abir/abir/RowCounts", "inserted", "()J"⟩ : MethodName) (head1 (Jvm.Cond.code (⟨"com/example/abir/abir/RowCounts", "inserted", "()J"⟩ : MethodName) prog_15_method_4_code 1 (some .long) :: ws) ({ frames := 0, cells := 0, slots := 0, locals := 0 } : Room)) (fun a U => a = #[(.ref a1)] ∧ Z.Warmed39 U.vm ∧ U.heap = h0) (fun _ _ _ _ _ => True) (fun _ U o U' => ∃ v L, o = .returned v ∧ Q_rmG_inserted w1 h0 n0 v U'.heap L ∧ FrameEnd U o U' L ({ frames := 0, cells := 0, slots := 0, locals := 0 } : Room).cells ({ frames := 0, cells := 0, slots := 0, locals := 0 } : Room).slots) := by
  refine MetFree.of_bodySF (plainFor_of_name pn_0) hisR ?_
  intro p e s m args below meth c s₁ Bd hml0 hP hK
  obtain ⟨rfl, hZ, hh⟩ := hP
  have hx := Bd.exec
  have hby := Bd.bytes
  have hml : c.maxLocals = 1 := hml0
  have hown : s.vm.findClass "com/example/abir/abir/RowCounts" = some m.cls := findClass_of_methodNamed Bd.named
  have hnm := (name_of_methodNamed Bd.named Bd.method).1
  have X0 : Stand p l e ({ frames := 0, cells := 0, slots := 0, locals := 0 } : Room) s m #[(.ref a1)] below meth c s₁ [] 0 0 := Stand.of_body Bd
  have e0 : s₁.heap = h0 := by rw [← hh, Bd.state]; rfl
  have N0 := Fr.nil n0
  have pre0 : ∀ t, Steps p.tables e below (s₁.setTop (mkF m 0 #[.val (.ref a1)] [])) t → Steps p.tables e below (s₁.setTop (entryFrame m #[(.ref a1)] 1)) t := fun t k => castTop (ef_1 m a1) k
  obtain ⟨T1, X1, e1, st1⟩ := getF X0 hx hZ hown (host := "") (Or.inl (hw _ (List.mem_of_getElem? (i := 12) rfl))) Via.refl e0 F1 (g := (mkF m 1 #[.val (.ref a1)] [(.ref a1)])) rfl rfl (hb hby dc2_1)
  obtain ⟨fs, hr, hrun, hended, hW, hsame⟩ := X1.leave (v := some (.long w1)) (fun h => by rw [Bd.returns] at h; cases h)
  refine ⟨_, _, pre0 _ ?_, hrun, hended, _, _, rfl, ?_, ⟨_, rfl⟩, hW, hsame.mono (by decide) (by decide)⟩
  · skip
    show Steps p.tables e below (s₁.setTop (mkF m 0 #[.val (.ref a1)] [])) _
    refine XS.aloadN X0.here hx rfl (hb hby dc2_0) rfl rfl ?_
    show Steps p.tables e below (s₁.setTop (mkF m 1 #[.val (.ref a1)] [(.ref a1)])) _
    refine st1 _ ?_
    show Steps p.tables e below (T1.setTop (mkF m 4 #[.val (.ref a1)] [(.long w1)])) _
    exact retOut X1 hx (t := .long) Bd.returns rfl (Or.inr (Or.inl ⟨rfl, rfl, _, rfl⟩)) (hb hby dc2_4) hr
  · show Q_rmG_inserted w1 h0 n0 _ T1.heap _
    rw [e1]
    exact ⟨rfl, N0, rfl⟩
def Q_rmG_updated (w1 : Int64) (h0 : Heap) (n0 : Nat) (v : Option Value) (h : Heap) (L : List Loc) : Prop := v = some (.long w1) ∧ Fr n0 L ∧ h = h0
theorem dc3_0 : decode prog_15_method_5_code 0 = .ok (.aload_n 0, 1) := by decide +kernel
theorem dc3_1 : decode prog_15_method_5_code 1 = .ok (.getfield 16, 3) := by decide +kernel
theorem dc3_4 : decode prog_15_method_5_code 4 = .ok (.lreturn, 1) := by decide +kernel
set_option maxRecDepth 65536 in
set_option maxHeartbeats 40000000 in
theorem rmG_updated (l : Launch) (Z : State) (a0 : Array Value) (hw : ∀ d ∈ tables_1, d.before a0 Z = true) (ws : List Jvm.Cond) (a1 : Addr) (w1 : Int64) (h0 : Heap) (n0 : Nat) (O0 : Old Z n0 h0) (F1 : Fld Z h0 a1 "com/example/abir/abir/RowCounts" "updated" "J" (.long w1)) :
    MetFree l (⟨"com/example/abir/abir/RowCounts", "updated", "()J"⟩ : MethodName) (head1 (Jvm.Cond.code (⟨"com/example/abir/abir/RowCounts", "updated", "()J"⟩ : MethodName) prog_15_method_5_code 1 (some .long) :: ws) ({ frames := 0, cells := 0, slots := 0, locals := 0 } : Room)) (fun a U => a = #[(.ref a1)] ∧ Z.Warmed39 U.vm ∧ U.heap = h0) (fun _ _ _ _ _ => True) (fun _ U o U' => ∃ v L, o = .returned v ∧ Q_rmG_updated w1 h0 n0 v U'.heap L ∧ FrameEnd U o U' L ({ frames := 0, cells := 0, slots := 0, locals := 0 } : Room).cells ({ frames := 0, cells := 0, slots := 0, locals := 0 } : Room).slots) := by
  refine MetFree.of_bodySF (plainFor_of_name pn_0) hisR ?_
  intro p e s m args below meth c s₁ Bd hml0 hP hK
  obtain ⟨rfl, hZ, hh⟩ := hP
  have hx := Bd.exec
  have hby := Bd.bytes
  have hml : c.maxLocals = 1 := hml0
  have hown : s.vm.findClass "com/example/abir/abir/RowCounts" = some m.cls := findClass_of_methodNamed Bd.named
  have hnm := (name_of_methodNamed Bd.named Bd.method).1
  have X0 : Stand p l e ({ frames := 0, cells := 0, slots := 0, locals := 0 } : Room) s m #[(.ref a1)] below meth c s₁ [] 0 0 := Stand.of_body Bd
  have e0 : s₁.heap = h0 := by rw [← hh, Bd.state]; rfl
  have N0 := Fr.nil n0
  have pre0 : ∀ t, Steps p.tables e below (s₁.setTop (mkF m 0 #[.val (.ref a1)] [])) t → Steps p.tables e below (s₁.setTop (entryFrame m #[(.ref a1)] 1)) t := fun t k => castTop (ef_1 m a1) k
  obtain ⟨T1, X1, e1, st1⟩ := getF X0 hx hZ hown (host := "") (Or.inl (hw _ (List.mem_of_getElem? (i := 14) rfl))) Via.refl e0 F1 (g := (mkF m 1 #[.val (.ref a1)] [(.ref a1)])) rfl rfl (hb hby dc3_1)
  obtain ⟨fs, hr, hrun, hended, hW, hsame⟩ := X1.leave (v := some (.long w1)) (fun h => by rw [Bd.returns] at h; cases h)
  refine ⟨_, _, pre0 _ ?_, hrun, hended, _, _, rfl, ?_, ⟨_, rfl⟩, hW, hsame.mono (by decide) (by decide)⟩
  · skip
    show Steps p.tables e below (s₁.setTop (mkF m 0 #[.val (.ref a1)] [])) _
    refine XS.aloadN X0.here hx rfl (hb hby dc3_0) rfl rfl ?_
    show Steps p.tables e below (s₁.setTop (mkF m 1 #[.val (.ref a1)] [(.ref a1)])) _
    refine st1 _ ?_
    show Steps p.tables e below (T1.setTop (mkF m 4 #[.val (.ref a1)] [(.long w1)])) _
    exact retOut X1 hx (t := .long) Bd.returns rfl (Or.inr (Or.inl ⟨rfl, rfl, _, rfl⟩)) (hb hby dc3_4) hr
  · show Q_rmG_updated w1 h0 n0 _ T1.heap _
    rw [e1]
    exact ⟨rfl, N0, rfl⟩
def Q_rmG_unchanged (w1 : Int64) (h0 : Heap) (n0 : Nat) (v : Option Value) (h : Heap) (L : List Loc) : Prop := v = some (.long w1) ∧ Fr n0 L ∧ h = h0
theorem dc4_0 : decode prog_15_method_6_code 0 = .ok (.aload_n 0, 1) := by decide +kernel
theorem dc4_1 : decode prog_15_method_6_code 1 = .ok (.getfield 19, 3) := by decide +kernel
theorem dc4_4 : decode prog_15_method_6_code 4 = .ok (.lreturn, 1) := by decide +kernel
set_option maxRecDepth 65536 in
set_option maxHeartbeats 40000000 in
theorem rmG_unchanged (l : Launch) (Z : State) (a0 : Array Value) (hw : ∀ d ∈ tables_1, d.before a0 Z = true) (ws : List Jvm.Cond) (a1 : Addr) (w1 : Int64) (h0 : Heap) (n0 : Nat) (O0 : Old Z n0 h0) (F1 : Fld Z h0 a1 "com/example/abir/abir/RowCounts" "unchanged" "J" (.long w1)) :
    MetFree l (⟨"com/example/abir/abir/RowCounts", "unchanged", "()J"⟩ : MethodName) (head1 (Jvm.Cond.code (⟨"com/example/abir/abir/RowCounts", "unchanged", "()J"⟩ : MethodName) prog_15_method_6_code 1 (some .long) :: ws) ({ frames := 0, cells := 0, slots := 0, locals := 0 } : Room)) (fun a U => a = #[(.ref a1)] ∧ Z.Warmed39 U.vm ∧ U.heap = h0) (fun _ _ _ _ _ => True) (fun _ U o U' => ∃ v L, o = .returned v ∧ Q_rmG_unchanged w1 h0 n0 v U'.heap L ∧ FrameEnd U o U' L ({ frames := 0, cells := 0, slots := 0, locals := 0 } : Room).cells ({ frames := 0, cells := 0, slots := 0, locals := 0 } : Room).slots) := by
  refine MetFree.of_bodySF (plainFor_of_name pn_0) hisR ?_
  intro p e s m args below meth c s₁ Bd hml0 hP hK
  obtain ⟨rfl, hZ, hh⟩ := hP
  have hx := Bd.exec
  have hby := Bd.bytes
  have hml : c.maxLocals = 1 := hml0
  have hown : s.vm.findClass "com/example/abir/abir/RowCounts" = some m.cls := findClass_of_methodNamed Bd.named
  have hnm := (name_of_methodNamed Bd.named Bd.method).1
  have X0 : Stand p l e ({ frames := 0, cells := 0, slots := 0, locals := 0 } : Room) s m #[(.ref a1)] below meth c s₁ [] 0 0 := Stand.of_body Bd
  have e0 : s₁.heap = h0 := by rw [← hh, Bd.state]; rfl
  have N0 := Fr.nil n0
  have pre0 : ∀ t, Steps p.tables e below (s₁.setTop (mkF m 0 #[.val (.ref a1)] [])) t → Steps p.tables e below (s₁.setTop (entryFrame m #[(.ref a1)] 1)) t := fun t k => castTop (ef_1 m a1) k
  obtain ⟨T1, X1, e1, st1⟩ := getF X0 hx hZ hown (host := "") (Or.inl (hw _ (List.mem_of_getElem? (i := 16) rfl))) Via.refl e0 F1 (g := (mkF m 1 #[.val (.ref a1)] [(.ref a1)])) rfl rfl (hb hby dc4_1)
  obtain ⟨fs, hr, hrun, hended, hW, hsame⟩ := X1.leave (v := some (.long w1)) (fun h => by rw [Bd.returns] at h; cases h)
  refine ⟨_, _, pre0 _ ?_, hrun, hended, _, _, rfl, ?_, ⟨_, rfl⟩, hW, hsame.mono (by decide) (by decide)⟩
  · skip
    show Steps p.tables e below (s₁.setTop (mkF m 0 #[.val (.ref a1)] [])) _
    refine XS.aloadN X0.here hx rfl (hb hby dc4_0) rfl rfl ?_
    show Steps p.tables e below (s₁.setTop (mkF m 1 #[.val (.ref a1)] [(.ref a1)])) _
    refine st1 _ ?_
    show Steps p.tables e below (T1.setTop (mkF m 4 #[.val (.ref a1)] [(.long w1)])) _
    exact retOut X1 hx (t := .long) Bd.returns rfl (Or.inr (Or.inl ⟨rfl, rfl, _, rfl⟩)) (hb hby dc4_4) hr
  · show Q_rmG_unchanged w1 h0 n0 _ T1.heap _
    rw [e1]
    exact ⟨rfl, N0, rfl⟩
def Q_rmG_errorRows (w1 : Int64) (h0 : Heap) (n0 : Nat) (v : Option Value) (h : Heap) (L : List Loc) : Prop := v = some (.long w1) ∧ Fr n0 L ∧ h = h0
theorem dc5_0 : decode prog_15_method_7_code 0 = .ok (.aload_n 0, 1) := by decide +kernel
theorem dc5_1 : decode prog_15_method_7_code 1 = .ok (.getfield 22, 3) := by decide +kernel
theorem dc5_4 : decode prog_15_method_7_code 4 = .ok (.lreturn, 1) := by decide +kernel
set_option maxRecDepth 65536 in
set_option maxHeartbeats 40000000 in
theorem rmG_errorRows (l : Launch) (Z : State) (a0 : Array Value) (hw : ∀ d ∈ tables_1, d.before a0 Z = true) (ws : List Jvm.Cond) (a1 : Addr) (w1 : Int64) (h0 : Heap) (n0 : Nat) (O0 : Old Z n0 h0) (F1 : Fld Z h0 a1 "com/example/abir/abir/RowCounts" "errorRows" "J" (.long w1)) :
    MetFree l (⟨"com/example/abir/abir/RowCounts", "errorRows", "()J"⟩ : MethodName) (head1 (Jvm.Cond.code (⟨"com/example/abir/abir/RowCounts", "errorRows", "()J"⟩ : MethodName) prog_15_method_7_code 1 (some .long) :: ws) ({ frames := 0, cells := 0, slots := 0, locals := 0 } : Room)) (fun a U => a = #[(.ref a1)] ∧ Z.Warmed39 U.vm ∧ U.heap = h0) (fun _ _ _ _ _ => True) (fun _ U o U' => ∃ v L, o = .returned v ∧ Q_rmG_errorRows w1 h0 n0 v U'.heap L ∧ FrameEnd U o U' L ({ frames := 0, cells := 0, slots := 0, locals := 0 } : Room).cells ({ frames := 0, cells := 0, slots := 0, locals := 0 } : Room).slots) := by
  refine MetFree.of_bodySF (plainFor_of_name pn_0) hisR ?_
  intro p e s m args below meth c s₁ Bd hml0 hP hK
  obtain ⟨rfl, hZ, hh⟩ := hP
  have hx := Bd.exec
  have hby := Bd.bytes
  have hml : c.maxLocals = 1 := hml0
  have hown : s.vm.findClass "com/example/abir/abir/RowCounts" = some m.cls := findClass_of_methodNamed Bd.named
  have hnm := (name_of_methodNamed Bd.named Bd.method).1
  have X0 : Stand p l e ({ frames := 0, cells := 0, slots := 0, locals := 0 } : Room) s m #[(.ref a1)] below meth c s₁ [] 0 0 := Stand.of_body Bd
  have e0 : s₁.heap = h0 := by rw [← hh, Bd.state]; rfl
  have N0 := Fr.nil n0
  have pre0 : ∀ t, Steps p.tables e below (s₁.setTop (mkF m 0 #[.val (.ref a1)] [])) t → Steps p.tables e below (s₁.setTop (entryFrame m #[(.ref a1)] 1)) t := fun t k => castTop (ef_1 m a1) k
  obtain ⟨T1, X1, e1, st1⟩ := getF X0 hx hZ hown (host := "") (Or.inl (hw _ (List.mem_of_getElem? (i := 18) rfl))) Via.refl e0 F1 (g := (mkF m 1 #[.val (.ref a1)] [(.ref a1)])) rfl rfl (hb hby dc5_1)
  obtain ⟨fs, hr, hrun, hended, hW, hsame⟩ := X1.leave (v := some (.long w1)) (fun h => by rw [Bd.returns] at h; cases h)
  refine ⟨_, _, pre0 _ ?_, hrun, hended, _, _, rfl, ?_, ⟨_, rfl⟩, hW, hsame.mono (by decide) (by decide)⟩
  · skip
    show Steps p.tables e below (s₁.setTop (mkF m 0 #[.val (.ref a1)] [])) _
    refine XS.aloadN X0.here hx rfl (hb hby dc5_0) rfl rfl ?_
    show Steps p.tables e below (s₁.setTop (mkF m 1 #[.val (.ref a1)] [(.ref a1)])) _
    refine st1 _ ?_
    show Steps p.tables e below (T1.setTop (mkF m 4 #[.val (.ref a1)] [(.long w1)])) _
    exact retOut X1 hx (t := .long) Bd.returns rfl (Or.inr (Or.inl ⟨rfl, rfl, _, rfl⟩)) (hb hby dc5_4) hr
  · show Q_rmG_errorRows w1 h0 n0 _ T1.heap _
    rw [e1]
    exact ⟨rfl, N0, rfl⟩
def Qp (Z : State) (y0 y1 y2 y3 y4 z0 z1 z2 z3 z4 : Int64) (h0 : Heap) (n0 : Nat) (v : Option Value) (h : Heap) (L : List Loc) : Prop := ∃ b : Addr, v = some (.ref b) ∧ Fr n0 L ∧ n0 ≤ b ∧ h0.size ≤ b ∧ Keep h0 h [] ∧ Exa Z h b "com/example/abir/abir/RowCounts" ∧ Fld Z h b "com/example/abir/abir/RowCounts" "processed" "J" (.long (y0 + z0)) ∧ Fld Z h b "com/example/abir/abir/RowCounts" "inserted" "J" (.long (y1 + z1)) ∧ Fld Z h b "com/example/abir/abir/RowCounts" "updated" "J" (.long (y2 + z2)) ∧ Fld Z h b "com/example/abir/abir/RowCounts" "unchanged" "J" (.long (y3 + z3)) ∧ Fld Z h b "com/example/abir/abir/RowCounts" "errorRows" "J" (.long (y4 + z4))
theorem ef_2 (m : MethodId) (x0 : Addr) (x1 : Addr) : entryFrame m #[(.ref x0), (.ref x1)] 2 = mkF m 0 #[.val (.ref x0), .val (.ref x1)] [] := by first | (simp [entryFrame, mkF, argsToLocals, Value.category]; done) | rfl
theorem dc6_0 : decode prog_15_method_2_code 0 = .ok (.new 8, 3) := by decide +kernel
theorem dc6_3 : decode prog_15_method_2_code 3 = .ok (.dup, 1) := by decide +kernel
theorem dc6_4 : decode prog_15_method_2_code 4 = .ok (.aload_n 0, 1) := by decide +kernel
theorem dc6_5 : decode prog_15_method_2_code 5 = .ok (.getfield 7, 3) := by decide +kernel
theorem dc6_8 : decode prog_15_method_2_code 8 = .ok (.aload_n 1, 1) := by decide +kernel
theorem dc6_9 : decode prog_15_method_2_code 9 = .ok (.getfield 7, 3) := by decide +kernel
theorem dc6_12 : decode prog_15_method_2_code 12 = .ok (.ladd, 1) := by decide +kernel
theorem dc6_13 : decode prog_15_method_2_code 13 = .ok (.aload_n 0, 1) := by decide +kernel
theorem dc6_14 : decode prog_15_method_2_code 14 = .ok (.getfield 13, 3) := by decide +kernel
theorem dc6_17 : decode prog_15_method_2_code 17 = .ok (.aload_n 1, 1) := by decide +kernel
theorem dc6_18 : decode prog_15_method_2_code 18 = .ok (.getfield 13, 3) := by decide +kernel
theorem dc6_21 : decode prog_15_method_2_code 21 = .ok (.ladd, 1) := by decide +kernel
theorem dc6_22 : decode prog_15_method_2_code 22 = .ok (.aload_n 0, 1) := by decide +kernel
theorem dc6_23 : decode prog_15_method_2_code 23 = .ok (.getfield 16, 3) := by decide +kernel
theorem dc6_26 : decode prog_15_method_2_code 26 = .ok (.aload_n 1, 1) := by decide +kernel
theorem dc6_27 : decode prog_15_method_2_code 27 = .ok (.getfield 16, 3) := by decide +kernel
theorem dc6_30 : decode prog_15_method_2_code 30 = .ok (.ladd, 1) := by decide +kernel
theorem dc6_31 : decode prog_15_method_2_code 31 = .ok (.aload_n 0, 1) := by decide +kernel
theorem dc6_32 : decode prog_15_method_2_code 32 = .ok (.getfield 19, 3) := by decide +kernel
theorem dc6_35 : decode prog_15_method_2_code 35 = .ok (.aload_n 1, 1) := by decide +kernel
theorem dc6_36 : decode prog_15_method_2_code 36 = .ok (.getfield 19, 3) := by decide +kernel
theorem dc6_39 : decode prog_15_method_2_code 39 = .ok (.ladd, 1) := by decide +kernel
theorem dc6_40 : decode prog_15_method_2_code 40 = .ok (.aload_n 0, 1) := by decide +kernel
theorem dc6_41 : decode prog_15_method_2_code 41 = .ok (.getfield 22, 3) := by decide +kernel
theorem dc6_44 : decode prog_15_method_2_code 44 = .ok (.aload_n 1, 1) := by decide +kernel
theorem dc6_45 : decode prog_15_method_2_code 45 = .ok (.getfield 22, 3) := by decide +kernel
theorem dc6_48 : decode prog_15_method_2_code 48 = .ok (.ladd, 1) := by decide +kernel
theorem dc6_49 : decode prog_15_method_2_code 49 = .ok (.invokespecial 25, 3) := by decide +kernel
theorem pd_0 : parseMethodDescriptor "(JJJJJ)V" = some ⟨[.long, .long, .long, .long, .long], none⟩ := by decide +kernel
theorem dc6_52 : decode prog_15_method_2_code 52 = .ok (.areturn, 1) := by decide +kernel
set_option maxRecDepth 65536 in
set_option maxHeartbeats 40000000 in
theorem rmP (l : Launch) (Z : State) (a0 : Array Value) (hw : ∀ d ∈ tables_1, d.before a0 Z = true) (ws : List Jvm.Cond) (a1 a2 : Addr) (y0 y1 y2 y3 y4 z0 z1 z2 z3 z4 : Int64) (h0 : Heap) (n0 : Nat) (O0 : Old Z n0 h0) (Fa_processed : Fld Z h0 a1 "com/example/abir/abir/RowCounts" "processed" "J" (.long y0)) (Fa_inserted : Fld Z h0 a1 "com/example/abir/abir/RowCounts" "inserted" "J" (.long y1)) (Fa_updated : Fld Z h0 a1 "com/example/abir/abir/RowCounts" "updated" "J" (.long y2)) (Fa_unchanged : Fld Z h0 a1 "com/example/abir/abir/RowCounts" "unchanged" "J" (.long y3)) (Fa_errorRows : Fld Z h0 a1 "com/example/abir/abir/RowCounts" "errorRows" "J" (.long y4)) (Fb_processed : Fld Z h0 a2 "com/example/abir/abir/RowCounts" "processed" "J" (.long z0)) (Fb_inserted : Fld Z h0 a2 "com/example/abir/abir/RowCounts" "inserted" "J" (.long z1)) (Fb_updated : Fld Z h0 a2 "com/example/abir/abir/RowCounts" "updated" "J" (.long z2)) (Fb_unchanged : Fld Z h0 a2 "com/example/abir/abir/RowCounts" "unchanged" "J" (.long z3)) (Fb_errorRows : Fld Z h0 a2 "com/example/abir/abir/RowCounts" "errorRows" "J" (.long z4)) :
    MetFree l (⟨"com/example/abir/abir/RowCounts", "plus", "(Lcom/example/abir/abir/RowCounts;)Lcom/example/abir/abir/RowCounts;"⟩ : MethodName) (head1 (Jvm.Cond.code (⟨"com/example/abir/abir/RowCounts", "plus", "(Lcom/example/abir/abir/RowCounts;)Lcom/example/abir/abir/RowCounts;"⟩ : MethodName) prog_15_method_2_code 2 (some (.object "com/example/abir/abir/RowCounts")) :: ws) ({ frames := 2, cells := 1, slots := 5, locals := 35 } : Room)) (fun a U => a = #[(.ref a1), (.ref a2)] ∧ Z.Warmed39 U.vm ∧ U.heap = h0) (fun _ _ _ _ _ => True) (fun _ U o U' => ∃ v L, o = .returned v ∧ Qp Z y0 y1 y2 y3 y4 z0 z1 z2 z3 z4 h0 n0 v U'.heap L ∧ FrameEnd U o U' L ({ frames := 2, cells := 1, slots := 5, locals := 35 } : Room).cells ({ frames := 2, cells := 1, slots := 5, locals := 35 } : Room).slots) := by
  refine MetFree.of_bodySF (plainFor_of_name pn_0) hisR ?_
  intro p e s m args below meth c s₁ Bd hml0 hP hK
  obtain ⟨rfl, hZ, hh⟩ := hP
  have hx := Bd.exec
  have hby := Bd.bytes
  have hml : c.maxLocals = 2 := hml0
  have hown : s.vm.findClass "com/example/abir/abir/RowCounts" = some m.cls := findClass_of_methodNamed Bd.named
  have hnm := (name_of_methodNamed Bd.named Bd.method).1
  have X0 : Stand p l e ({ frames := 2, cells := 1, slots := 5, locals := 35 } : Room) s m #[(.ref a1), (.ref a2)] below meth c s₁ [] 0 0 := Stand.of_body Bd
  have e0 : s₁.heap = h0 := by rw [← hh, Bd.state]; rfl
  have N0 := Fr.nil n0
  have pre0 : ∀ t, Steps p.tables e below (s₁.setTop (mkF m 0 #[.val (.ref a1), .val (.ref a2)] [])) t → Steps p.tables e below (s₁.setTop (entryFrame m #[(.ref a1), (.ref a2)] 2)) t := fun t k => castTop (ef_2 m a1 a2) k
  obtain ⟨T1, h1, X1, e1, E1, A1, D1, -, st1⟩ := newO X0 hx hZ hown (hw _ (List.mem_of_getElem? (i := 25) rfl)) (hw _ (List.mem_of_getElem? (i := 2) rfl)) (hw _ (List.mem_of_getElem? (i := 3) rfl)) e0 (g := (mkF m 0 #[.val (.ref a1), .val (.ref a2)] [])) rfl (hb hby dc6_0) (by decide) (by decide)
  obtain ⟨b1, g1⟩ : ∃ z, z = h0.size := ⟨_, rfl⟩
  rw [← g1] at A1 D1 st1
  have gb1 : n0 ≤ b1 := by rw [g1, ← O0.1]; exact O0.2.1
  have ne1_a1 : a1 ≠ b1 := by rw [g1]; exact Nat.ne_of_lt (Fa_processed).lt
  have ne1_a2 : a2 ≠ b1 := by rw [g1]; exact Nat.ne_of_lt (Fb_processed).lt
  have sz1 : h0.size ≤ b1 := by rw [g1]; exact ((Keep.refl h0 [])).1
  have F1_processed : Fld Z h1 b1 "com/example/abir/abir/RowCounts" "processed" "J" (.long (0 : Int64)) := D1 (Or.inr (hw _ (List.mem_of_getElem? (i := 11) rfl))) (ty := .long) (by decide)
  have F1_inserted : Fld Z h1 b1 "com/example/abir/abir/RowCounts" "inserted" "J" (.long (0 : Int64)) := D1 (Or.inr (hw _ (List.mem_of_getElem? (i := 13) rfl))) (ty := .long) (by decide)
  have F1_updated : Fld Z h1 b1 "com/example/abir/abir/RowCounts" "updated" "J" (.long (0 : Int64)) := D1 (Or.inr (hw _ (List.mem_of_getElem? (i := 15) rfl))) (ty := .long) (by decide)
  have F1_unchanged : Fld Z h1 b1 "com/example/abir/abir/RowCounts" "unchanged" "J" (.long (0 : Int64)) := D1 (Or.inr (hw _ (List.mem_of_getElem? (i := 17) rfl))) (ty := .long) (by decide)
  have F1_errorRows : Fld Z h1 b1 "com/example/abir/abir/RowCounts" "errorRows" "J" (.long (0 : Int64)) := D1 (Or.inr (hw _ (List.mem_of_getElem? (i := 19) rfl))) (ty := .long) (by decide)
  have f2 := (Fa_processed.ext E1)
  obtain ⟨T3, X3, e3, st3⟩ := getF X1 hx hZ hown (host := "") (Or.inl (hw _ (List.mem_of_getElem? (i := 10) rfl))) Via.refl e1 f2 (g := (mkF m 5 #[.val (.ref a1), .val (.ref a2)] [(.ref a1), (.ref b1), (.ref b1)])) rfl rfl (hb hby dc6_5)
  have f4 := (Fb_processed.ext E1)
  obtain ⟨T5, X5, e5, st5⟩ := getF X3 hx hZ hown (host := "") (Or.inl (hw _ (List.mem_of_getElem? (i := 10) rfl))) Via.refl e3 f4 (g := (mkF m 9 #[.val (.ref a1), .val (.ref a2)] [(.ref a2), (.long y0), (.ref b1), (.ref b1)])) rfl rfl (hb hby dc6_9)
  have f6 := (Fa_inserted.ext E1)
  obtain ⟨T7, X7, e7, st7⟩ := getF X5 hx hZ hown (host := "") (Or.inl (hw _ (List.mem_of_getElem? (i := 12) rfl))) Via.refl e5 f6 (g := (mkF m 14 #[.val (.ref a1), .val (.ref a2)] [(.ref a1), (.long (y0 + z0)), (.ref b1), (.ref b1)])) rfl rfl (hb hby dc6_14)
  have f8 := (Fb_inserted.ext E1)
  obtain ⟨T9, X9, e9, st9⟩ := getF X7 hx hZ hown (host := "") (Or.inl (hw _ (List.mem_of_getElem? (i := 12) rfl))) Via.refl e7 f8 (g := (mkF m 18 #[.val (.ref a1), .val (.ref a2)] [(.ref a2), (.long y1), (.long (y0 + z0)), (.ref b1), (.ref b1)])) rfl rfl (hb hby dc6_18)
  have f10 := (Fa_updated.ext E1)
  obtain ⟨T11, X11, e11, st11⟩ := getF X9 hx hZ hown (host := "") (Or.inl (hw _ (List.mem_of_getElem? (i := 14) rfl))) Via.refl e9 f10 (g := (mkF m 23 #[.val (.ref a1), .val (.ref a2)] [(.ref a1), (.long (y1 + z1)), (.long (y0 + z0)), (.ref b1), (.ref b1)])) rfl rfl (hb hby dc6_23)
  have f12 := (Fb_updated.ext E1)
  obtain ⟨T13, X13, e13, st13⟩ := getF X11 hx hZ hown (host := "") (Or.inl (hw _ (List.mem_of_getElem? (i := 14) rfl))) Via.refl e11 f12 (g := (mkF m 27 #[.val (.ref a1), .val (.ref a2)] [(.ref a2), (.long y2), (.long (y1 + z1)), (.long (y0 + z0)), (.ref b1), (.ref b1)])) rfl rfl (hb hby dc6_27)
  have f14 := (Fa_unchanged.ext E1)
  obtain ⟨T15, X15, e15, st15⟩ := getF X13 hx hZ hown (host := "") (Or.inl (hw _ (List.mem_of_getElem? (i := 16) rfl))) Via.refl e13 f14 (g := (mkF m 32 #[.val (.ref a1), .val (.ref a2)] [(.ref a1), (.long (y2 + z2)), (.long (y1 + z1)), (.long (y0 + z0)), (.ref b1), (.ref b1)])) rfl rfl (hb hby dc6_32)
  have f16 := (Fb_unchanged.ext E1)
  obtain ⟨T17, X17, e17, st17⟩ := getF X15 hx hZ hown (host := "") (Or.inl (hw _ (List.mem_of_getElem? (i := 16) rfl))) Via.refl e15 f16 (g := (mkF m 36 #[.val (.ref a1), .val (.ref a2)] [(.ref a2), (.long y3), (.long (y2 + z2)), (.long (y1 + z1)), (.long (y0 + z0)), (.ref b1), (.ref b1)])) rfl rfl (hb hby dc6_36)
  have f18 := (Fa_errorRows.ext E1)
  obtain ⟨T19, X19, e19, st19⟩ := getF X17 hx hZ hown (host := "") (Or.inl (hw _ (List.mem_of_getElem? (i := 18) rfl))) Via.refl e17 f18 (g := (mkF m 41 #[.val (.ref a1), .val (.ref a2)] [(.ref a1), (.long (y3 + z3)), (.long (y2 + z2)), (.long (y1 + z1)), (.long (y0 + z0)), (.ref b1), (.ref b1)])) rfl rfl (hb hby dc6_41)
  have f20 := (Fb_errorRows.ext E1)
  obtain ⟨T21, X21, e21, st21⟩ := getF X19 hx hZ hown (host := "") (Or.inl (hw _ (List.mem_of_getElem? (i := 18) rfl))) Via.refl e19 f20 (g := (mkF m 45 #[.val (.ref a1), .val (.ref a2)] [(.ref a2), (.long y4), (.long (y3 + z3)), (.long (y2 + z2)), (.long (y1 + z1)), (.long (y0 + z0)), (.ref b1), (.ref b1)])) rfl rfl (hb hby dc6_45)
  have O22 : Old Z n0 h1 := (O0.ext E1)
  obtain ⟨_, _, ⟨T23, L23, k23, n23⟩, -, X23, ⟨Lc23, hQ23, l23, y23, z23⟩, st23⟩ := X21.specialBack hx (y := (⟨"com/example/abir/abir/RowCounts", "<init>", "(JJJJJ)V"⟩ : MethodName)) rfl hown (mvT hZ (hw _ (List.mem_of_getElem? (i := 26) rfl))) (mvT hZ (hw _ (List.mem_of_getElem? (i := 5) rfl))) (mvT hZ (hw _ (List.mem_of_getElem? (i := 6) rfl))) (by decide) (backOf (W := 1) (rmI l Z a0 hw [] b1 (y0 + z0) (y1 + z1) (y2 + z2) (y3 + z3) (y4 + z4) h1 n0 O22 A1 F1_processed F1_inserted F1_updated F1_unchanged F1_errorRows gb1) hZ (hw _ (List.mem_of_getElem? (i := 6) rfl)) (hw _ (List.mem_of_getElem? (i := 3) rfl)) (by decide) (by decide)) (g := (mkF m 49 #[.val (.ref a1), .val (.ref a2)] [(.long (y4 + z4)), (.long (y3 + z3)), (.long (y2 + z2)), (.long (y1 + z1)), (.long (y0 + z0)), (.ref b1), (.ref b1)])) rfl (by rw [hml]; rfl) (Steps.refl _) (a := b1) (argsL := [(.long (y0 + z0)), (.long (y1 + z1)), (.long (y2 + z2)), (.long (y3 + z3)), (.long (y4 + z4))]) (rest := [(.ref b1)]) (lenOf pd_0 rfl) rfl (by show 2 * 0 + _ ≤ _; exact Nat.le_of_eq rfl) (hb hby dc6_49) (fun _ _ => ⟨rfl, e21, (by decide : 1 + 0 ≤ _), (by decide : 5 + 0 ≤ _)⟩)
  dsimp only [Pt.U, Pt.locs, Pt.cells, Pt.slots] at X23 l23 y23 z23 st23 hQ23
  subst l23 y23 z23
  obtain ⟨rfl, N23q, K23, Ex23, F23_processed, F23_inserted, F23_updated, F23_unchanged, F23_errorRows⟩ := hQ23
  have N23 := Fr.app N0 N23q
  obtain ⟨fs, hr, hrun, hended, hW, hsame⟩ := X23.leave (v := some (.ref b1)) (fun h => by rw [Bd.returns] at h; cases h)
  have K24 : Keep h0 T23.heap [] := (Keep.trans (Keep.ext (Keep.refl h0 []) E1) K23 (allS (P := fun x => x ∈ [] ∨ h0.size ≤ x) (Or.inr sz1) all0))
  refine ⟨_, _, pre0 _ ?_, hrun, hended, _, _, rfl, ?_, ⟨_, rfl⟩, hW, hsame.mono (by decide) (by decide)⟩
  · skip
    show Steps p.tables e below (s₁.setTop (mkF m 0 #[.val (.ref a1), .val (.ref a2)] [])) _
    refine st1 _ ?_
    show Steps p.tables e below (T1.setTop (mkF m 3 #[.val (.ref a1), .val (.ref a2)] [(.ref b1)])) _
    refine XS.dup X1.here hx rfl (hb hby dc6_3) rfl rfl ?_
    show Steps p.tables e below (T1.setTop (mkF m 4 #[.val (.ref a1), .val (.ref a2)] [(.ref b1), (.ref b1)])) _
    refine XS.aloadN X1.here hx rfl (hb hby dc6_4) rfl rfl ?_
    show Steps p.tables e below (T1.setTop (mkF m 5 #[.val (.ref a1), .val (.ref a2)] [(.ref a1), (.ref b1), (.ref b1)])) _
    refine st3 _ ?_
    show Steps p.tables e below (T3.setTop (mkF m 8 #[.val (.ref a1), .val (.ref a2)] [(.long y0), (.ref b1), (.ref b1)])) _
    refine XS.aloadN X3.here hx rfl (hb hby dc6_8) rfl rfl ?_
    show Steps p.tables e below (T3.setTop (mkF m 9 #[.val (.ref a1), .val (.ref a2)] [(.ref a2), (.long y0), (.ref b1), (.ref b1)])) _
    refine st5 _ ?_
    show Steps p.tables e below (T5.setTop (mkF m 12 #[.val (.ref a1), .val (.ref a2)] [(.long z0), (.long y0), (.ref b1), (.ref b1)])) _
    refine XS.ladd X5.here hx rfl (hb hby dc6_12) rfl ?_
    show Steps p.tables e below (T5.setTop (mkF m 13 #[.val (.ref a1), .val (.ref a2)] [(.long (y0 + z0)), (.ref b1), (.ref b1)])) _
    refine XS.aloadN X5.here hx rfl (hb hby dc6_13) rfl rfl ?_
    show Steps p.tables e below (T5.setTop (mkF m 14 #[.val (.ref a1), .val (.ref a2)] [(.ref a1), (.long (y0 + z0)), (.ref b1), (.ref b1)])) _
    refine st7 _ ?_
    show Steps p.tables e below (T7.setTop (mkF m 17 #[.val (.ref a1), .val (.ref a2)] [(.long y1), (.long (y0 + z0)), (.ref b1), (.ref b1)])) _
    refine XS.aloadN X7.here hx rfl (hb hby dc6_17) rfl rfl ?_
    show Steps p.tables e below (T7.setTop (mkF m 18 #[.val (.ref a1), .val (.ref a2)] [(.ref a2), (.long y1), (.long (y0 + z0)), (.ref b1), (.ref b1)])) _
    refine st9 _ ?_
    show Steps p.tables e below (T9.setTop (mkF m 21 #[.val (.ref a1), .val (.ref a2)] [(.long z1), (.long y1), (.long (y0 + z0)), (.ref b1), (.ref b1)])) _
    refine XS.ladd X9.here hx rfl (hb hby dc6_21) rfl ?_
    show Steps p.tables e below (T9.setTop (mkF m 22 #[.val (.ref a1), .val (.ref a2)] [(.long (y1 + z1)), (.long (y0 + z0)), (.ref b1), (.ref b1)])) _
    refine XS.aloadN X9.here hx rfl (hb hby dc6_22) rfl rfl ?_
    show Steps p.tables e below (T9.setTop (mkF m 23 #[.val (.ref a1), .val (.ref a2)] [(.ref a1), (.long (y1 + z1)), (.long (y0 + z0)), (.ref b1), (.ref b1)])) _
    refine st11 _ ?_
    show Steps p.tables e below (T11.setTop (mkF m 26 #[.val (.ref a1), .val (.ref a2)] [(.long y2), (.long (y1 + z1)), (.long (y0 + z0)), (.ref b1), (.ref b1)])) _
    refine XS.aloadN X11.here hx rfl (hb hby dc6_26) rfl rfl ?_
    show Steps p.tables e below (T11.setTop (mkF m 27 #[.val (.ref a1), .val (.ref a2)] [(.ref a2), (.long y2), (.long (y1 + z1)), (.long (y0 + z0)), (.ref b1), (.ref b1)])) _
    refine st13 _ ?_
    show Steps p.tables e below (T13.setTop (mkF m 30 #[.val (.ref a1), .val (.ref a2)] [(.long z2), (.long y2), (.long (y1 + z1)), (.long (y0 + z0)), (.ref b1), (.ref b1)])) _
    refine XS.ladd X13.here hx rfl (hb hby dc6_30) rfl ?_
    show Steps p.tables e below (T13.setTop (mkF m 31 #[.val (.ref a1), .val (.ref a2)] [(.long (y2 + z2)), (.long (y1 + z1)), (.long (y0 + z0)), (.ref b1), (.ref b1)])) _
    refine XS.aloadN X13.here hx rfl (hb hby dc6_31) rfl rfl ?_
    show Steps p.tables e below (T13.setTop (mkF m 32 #[.val (.ref a1), .val (.ref a2)] [(.ref a1), (.long (y2 + z2)), (.long (y1 + z1)), (.long (y0 + z0)), (.ref b1), (.ref b1)])) _
    refine st15 _ ?_
    show Steps p.tables e below (T15.setTop (mkF m 35 #[.val (.ref a1), .val (.ref a2)] [(.long y3), (.long (y2 + z2)), (.long (y1 + z1)), (.long (y0 + z0)), (.ref b1), (.ref b1)])) _
    refine XS.aloadN X15.here hx rfl (hb hby dc6_35) rfl rfl ?_
    show Steps p.tables e below (T15.setTop (mkF m 36 #[.val (.ref a1), .val (.ref a2)] [(.ref a2), (.long y3), (.long (y2 + z2)), (.long (y1 + z1)), (.long (y0 + z0)), (.ref b1), (.ref b1)])) _
    refine st17 _ ?_
    show Steps p.tables e below (T17.setTop (mkF m 39 #[.val (.ref a1), .val (.ref a2)] [(.long z3), (.long y3), (.long (y2 + z2)), (.long (y1 + z1)), (.long (y0 + z0)), (.ref b1), (.ref b1)])) _
    refine XS.ladd X17.here hx rfl (hb hby dc6_39) rfl ?_
    show Steps p.tables e below (T17.setTop (mkF m 40 #[.val (.ref a1), .val (.ref a2)] [(.long (y3 + z3)), (.long (y2 + z2)), (.long (y1 + z1)), (.long (y0 + z0)), (.ref b1), (.ref b1)])) _
    refine XS.aloadN X17.here hx rfl (hb hby dc6_40) rfl rfl ?_
    show Steps p.tables e below (T17.setTop (mkF m 41 #[.val (.ref a1), .val (.ref a2)] [(.ref a1), (.long (y3 + z3)), (.long (y2 + z2)), (.long (y1 + z1)), (.long (y0 + z0)), (.ref b1), (.ref b1)])) _
    refine st19 _ ?_
    show Steps p.tables e below (T19.setTop (mkF m 44 #[.val (.ref a1), .val (.ref a2)] [(.long y4), (.long (y3 + z3)), (.long (y2 + z2)), (.long (y1 + z1)), (.long (y0 + z0)), (.ref b1), (.ref b1)])) _
    refine XS.aloadN X19.here hx rfl (hb hby dc6_44) rfl rfl ?_
    show Steps p.tables e below (T19.setTop (mkF m 45 #[.val (.ref a1), .val (.ref a2)] [(.ref a2), (.long y4), (.long (y3 + z3)), (.long (y2 + z2)), (.long (y1 + z1)), (.long (y0 + z0)), (.ref b1), (.ref b1)])) _
    refine st21 _ ?_
    show Steps p.tables e below (T21.setTop (mkF m 48 #[.val (.ref a1), .val (.ref a2)] [(.long z4), (.long y4), (.long (y3 + z3)), (.long (y2 + z2)), (.long (y1 + z1)), (.long (y0 + z0)), (.ref b1), (.ref b1)])) _
    refine XS.ladd X21.here hx rfl (hb hby dc6_48) rfl ?_
    show Steps p.tables e below (T21.setTop (mkF m 49 #[.val (.ref a1), .val (.ref a2)] [(.long (y4 + z4)), (.long (y3 + z3)), (.long (y2 + z2)), (.long (y1 + z1)), (.long (y0 + z0)), (.ref b1), (.ref b1)])) _
    refine st23.trans ?_
    show Steps p.tables e below (T23.setTop (mkF m 52 #[.val (.ref a1), .val (.ref a2)] [(.ref b1)])) _
    exact retOut X23 hx (t := (.object "com/example/abir/abir/RowCounts")) Bd.returns rfl (Or.inr (Or.inr (Or.inr (Or.inr ⟨rfl, rfl, rfl⟩)))) (hb hby dc6_52) hr
  · show Qp Z y0 y1 y2 y3 y4 z0 z1 z2 z3 z4 h0 n0 _ T23.heap _
    exact ⟨_, rfl, N23, gb1, sz1, K24, Ex23, F23_processed, F23_inserted, F23_updated, F23_unchanged, F23_errorRows⟩
theorem pn_1 : plainName "com/example/abir/abir/RowCountsPlusPinLaw" = true := by first | (simp [plainName, overriddenIn]; done) | decide +kernel
theorem ef_3 (m : MethodId) (x0 : Int64) (x1 : Int64) (x2 : Int64) (x3 : Int64) (x4 : Int64) (x5 : Int64) : entryFrame m #[(.long x0), (.long x1), (.long x2), (.long x3), (.long x4), (.long x5)] maxLocals = mkF m 0 #[.val (.long x0), .second, .val (.long x1), .second, .val (.long x2), .second, .val (.long x3), .second, .val (.long x4), .second, .val (.long x5), .second, .unset, .unset, .unset, .unset, .unset, .unset, .unset, .unset, .unset, .unset, .unset, .unset, .unset] [] := by first | (simp [entryFrame, mkF, argsToLocals, Value.category, maxLocals]; done) | rfl
theorem pd_1 : parseMethodDescriptor "(Lcom/example/abir/abir/RowCounts;)Lcom/example/abir/abir/RowCounts;" = some ⟨[(.object "com/example/abir/abir/RowCounts")], some (.object "com/example/abir/abir/RowCounts")⟩ := by decide +kernel
theorem pd_2 : parseMethodDescriptor "()J" = some ⟨[], some .long⟩ := by decide +kernel
set_option maxRecDepth 65536 in
set_option maxHeartbeats 40000000 in
theorem rm0 (l : Launch) (Z : State) (a0 : Array Value) (hw : ∀ d ∈ tables_1, d.before a0 Z = true) (ws : List Jvm.Cond) (i0 i1 i2 i3 i4 i5 : Int64) (h0 : Heap) (n0 : Nat) (O0 : Old Z n0 h0) :
    MetFree l x (head1 (Jvm.Cond.code x code maxLocals ret :: ws) room_1) (fun a U => a = #[(.long i0), (.long i1), (.long i2), (.long i3), (.long i4), (.long i5)] ∧ Z.Warmed39 U.vm ∧ U.heap = h0) (fun _ _ _ _ _ => True) (fun _ U o U' => ∃ v L, o = .returned v ∧ QL n0 v U'.heap L ∧ FrameEnd U o U' L room_1.cells room_1.slots) := by
  refine MetFree.of_bodySF (plainFor_of_name pn_1) hisR ?_
  intro p e s m args below meth c s₁ Bd hml0 hP hK
  obtain ⟨rfl, hZ, hh⟩ := hP
  have hx := Bd.exec
  have hby := Bd.bytes
  have hml : c.maxLocals = 25 := hml0
  have hown : s.vm.findClass "com/example/abir/abir/RowCountsPlusPinLaw" = some m.cls := findClass_of_methodNamed Bd.named
  have hnm := (name_of_methodNamed Bd.named Bd.method).1
  have X0 : Stand p l e room_1 s m #[(.long i0), (.long i1), (.long i2), (.long i3), (.long i4), (.long i5)] below meth c s₁ [] 0 0 := Stand.of_body Bd
  have e0 : s₁.heap = h0 := by rw [← hh, Bd.state]; rfl
  have N0 := Fr.nil n0
  have pre0 : ∀ t, Steps p.tables e below (s₁.setTop (mkF m 0 #[.val (.long i0), .second, .val (.long i1), .second, .val (.long i2), .second, .val (.long i3), .second, .val (.long i4), .second, .val (.long i5), .second, .unset, .unset, .unset, .unset, .unset, .unset, .unset, .unset, .unset, .unset, .unset, .unset, .unset] [])) t → Steps p.tables e below (s₁.setTop (entryFrame m #[(.long i0), (.long i1), (.long i2), (.long i3), (.long i4), (.long i5)] maxLocals)) t := fun t k => castTop (ef_3 m i0 i1 i2 i3 i4 i5) k
  obtain ⟨T1, h1, X1, e1, E1, A1, D1, -, st1⟩ := newO X0 hx hZ hown (hw _ (List.mem_of_getElem? (i := 1) rfl)) (hw _ (List.mem_of_getElem? (i := 2) rfl)) (hw _ (List.mem_of_getElem? (i := 3) rfl)) e0 (g := (mkF m 37 #[.val (.long i0), .second, .val (.long i1), .second, .val (.long i2), .second, .val (.long i3), .second, .val (.long i4), .second, .val (.long i5), .second, .val (.long i5), .second, .val (.long (i5 ^^^ i1)), .second, .val (.long (i5 - i2)), .second, .val (.long ((i5 ^^^ (-1 : Int64)) + i3)), .second, .val (.long (i4 ^^^ ((i5.toUInt64 >>> ((1 : Int32) &&& 0x3f).toInt64.toUInt64).toInt64))), .second, .unset, .unset, .unset] [])) rfl (hb hby at_37) (by decide) (by decide)
  obtain ⟨b1, g1⟩ : ∃ z, z = h0.size := ⟨_, rfl⟩
  rw [← g1] at A1 D1 st1
  have gb1 : n0 ≤ b1 := by rw [g1, ← O0.1]; exact O0.2.1
  have F1_processed : Fld Z h1 b1 "com/example/abir/abir/RowCounts" "processed" "J" (.long (0 : Int64)) := D1 (Or.inr (hw _ (List.mem_of_getElem? (i := 11) rfl))) (ty := .long) (by decide)
  have F1_inserted : Fld Z h1 b1 "com/example/abir/abir/RowCounts" "inserted" "J" (.long (0 : Int64)) := D1 (Or.inr (hw _ (List.mem_of_getElem? (i := 13) rfl))) (ty := .long) (by decide)
  have F1_updated : Fld Z h1 b1 "com/example/abir/abir/RowCounts" "updated" "J" (.long (0 : Int64)) := D1 (Or.inr (hw _ (List.mem_of_getElem? (i := 15) rfl))) (ty := .long) (by decide)
  have F1_unchanged : Fld Z h1 b1 "com/example/abir/abir/RowCounts" "unchanged" "J" (.long (0 : Int64)) := D1 (Or.inr (hw _ (List.mem_of_getElem? (i := 17) rfl))) (ty := .long) (by decide)
  have F1_errorRows : Fld Z h1 b1 "com/example/abir/abir/RowCounts" "errorRows" "J" (.long (0 : Int64)) := D1 (Or.inr (hw _ (List.mem_of_getElem? (i := 19) rfl))) (ty := .long) (by decide)
  have O2 : Old Z n0 h1 := (O0.ext E1)
  obtain ⟨_, _, ⟨T3, L3, k3, n3⟩, -, X3, ⟨Lc3, hQ3, l3, y3, z3⟩, st3⟩ := X1.specialBack hx (y := (⟨"com/example/abir/abir/RowCounts", "<init>", "(JJJJJ)V"⟩ : MethodName)) rfl hown (mvT hZ (hw _ (List.mem_of_getElem? (i := 4) rfl))) (mvT hZ (hw _ (List.mem_of_getElem? (i := 5) rfl))) (mvT hZ (hw _ (List.mem_of_getElem? (i := 6) rfl))) (by decide) (backOf (W := 1) (rmI l Z a0 hw [] b1 i0 i1 i2 i3 i4 h1 n0 O2 A1 F1_processed F1_inserted F1_updated F1_unchanged F1_errorRows gb1) hZ (hw _ (List.mem_of_getElem? (i := 6) rfl)) (hw _ (List.mem_of_getElem? (i := 3) rfl)) (by decide) (by decide)) (g := (mkF m 49 #[.val (.long i0), .second, .val (.long i1), .second, .val (.long i2), .second, .val (.long i3), .second, .val (.long i4), .second, .val (.long i5), .second, .val (.long i5), .second, .val (.long (i5 ^^^ i1)), .second, .val (.long (i5 - i2)), .second, .val (.long ((i5 ^^^ (-1 : Int64)) + i3)), .second, .val (.long (i4 ^^^ ((i5.toUInt64 >>> ((1 : Int32) &&& 0x3f).toInt64.toUInt64).toInt64))), .second, .unset, .unset, .unset] [(.long i4), (.long i3), (.long i2), (.long i1), (.long i0), (.ref b1), (.ref b1)])) rfl (by rw [hml]; rfl) (Steps.refl _) (a := b1) (argsL := [(.long i0), (.long i1), (.long i2), (.long i3), (.long i4)]) (rest := [(.ref b1)]) (lenOf pd_0 rfl) rfl (by show 2 * 0 + _ ≤ _; exact Nat.le_of_eq rfl) (hb hby at_49) (fun _ _ => ⟨rfl, e1, (by decide : 1 + 0 ≤ _), (by decide : 5 + 0 ≤ _)⟩)
  dsimp only [Pt.U, Pt.locs, Pt.cells, Pt.slots] at X3 l3 y3 z3 st3 hQ3
  subst l3 y3 z3
  obtain ⟨rfl, N3q, K3, Ex3, F3_processed, F3_inserted, F3_updated, F3_unchanged, F3_errorRows⟩ := hQ3
  have N3 := Fr.app N0 N3q
  have O4 : Old Z n0 T3.heap := (O2.keep K3 (allS gb1 all0))
  obtain ⟨T5, h5, X5, e5, E5, A5, D5, -, st5⟩ := newO X3 hx hZ hown (hw _ (List.mem_of_getElem? (i := 1) rfl)) (hw _ (List.mem_of_getElem? (i := 2) rfl)) (hw _ (List.mem_of_getElem? (i := 3) rfl)) rfl (g := (mkF m 54 #[.val (.long i0), .second, .val (.long i1), .second, .val (.long i2), .second, .val (.long i3), .second, .val (.long i4), .second, .val (.long i5), .second, .val (.long i5), .second, .val (.long (i5 ^^^ i1)), .second, .val (.long (i5 - i2)), .second, .val (.long ((i5 ^^^ (-1 : Int64)) + i3)), .second, .val (.long (i4 ^^^ ((i5.toUInt64 >>> ((1 : Int32) &&& 0x3f).toInt64.toUInt64).toInt64))), .second, .val (.ref b1), .unset, .unset] [])) rfl (hb hby at_54) (by decide) (by decide)
  obtain ⟨b5, g5⟩ : ∃ z, z = T3.heap.size := ⟨_, rfl⟩
  rw [← g5] at A5 D5 st5
  have gb5 : n0 ≤ b5 := by rw [g5, ← O4.1]; exact O4.2.1
  have ne5_b1 : b1 ≠ b5 := by rw [g5]; exact Nat.ne_of_lt (Ex3).lt
  have F5_processed : Fld Z h5 b5 "com/example/abir/abir/RowCounts" "processed" "J" (.long (0 : Int64)) := D5 (Or.inr (hw _ (List.mem_of_getElem? (i := 11) rfl))) (ty := .long) (by decide)
  have F5_inserted : Fld Z h5 b5 "com/example/abir/abir/RowCounts" "inserted" "J" (.long (0 : Int64)) := D5 (Or.inr (hw _ (List.mem_of_getElem? (i := 13) rfl))) (ty := .long) (by decide)
  have F5_updated : Fld Z h5 b5 "com/example/abir/abir/RowCounts" "updated" "J" (.long (0 : Int64)) := D5 (Or.inr (hw _ (List.mem_of_getElem? (i := 15) rfl))) (ty := .long) (by decide)
  have F5_unchanged : Fld Z h5 b5 "com/example/abir/abir/RowCounts" "unchanged" "J" (.long (0 : Int64)) := D5 (Or.inr (hw _ (List.mem_of_getElem? (i := 17) rfl))) (ty := .long) (by decide)
  have F5_errorRows : Fld Z h5 b5 "com/example/abir/abir/RowCounts" "errorRows" "J" (.long (0 : Int64)) := D5 (Or.inr (hw _ (List.mem_of_getElem? (i := 19) rfl))) (ty := .long) (by decide)
  have O6 : Old Z n0 h5 := (O4.ext E5)
  obtain ⟨_, _, ⟨T7, L7, k7, n7⟩, -, X7, ⟨Lc7, hQ7, l7, y7, z7⟩, st7⟩ := X5.specialBack hx (y := (⟨"com/example/abir/abir/RowCounts", "<init>", "(JJJJJ)V"⟩ : MethodName)) rfl hown (mvT hZ (hw _ (List.mem_of_getElem? (i := 4) rfl))) (mvT hZ (hw _ (List.mem_of_getElem? (i := 5) rfl))) (mvT hZ (hw _ (List.mem_of_getElem? (i := 6) rfl))) (by decide) (backOf (W := 1) (rmI l Z a0 hw [] b5 i5 (i5 ^^^ i1) (i5 - i2) ((i5 ^^^ (-1 : Int64)) + i3) (i4 ^^^ ((i5.toUInt64 >>> ((1 : Int32) &&& 0x3f).toInt64.toUInt64).toInt64)) h5 n0 O6 A5 F5_processed F5_inserted F5_updated F5_unchanged F5_errorRows gb5) hZ (hw _ (List.mem_of_getElem? (i := 6) rfl)) (hw _ (List.mem_of_getElem? (i := 3) rfl)) (by decide) (by decide)) (g := (mkF m 68 #[.val (.long i0), .second, .val (.long i1), .second, .val (.long i2), .second, .val (.long i3), .second, .val (.long i4), .second, .val (.long i5), .second, .val (.long i5), .second, .val (.long (i5 ^^^ i1)), .second, .val (.long (i5 - i2)), .second, .val (.long ((i5 ^^^ (-1 : Int64)) + i3)), .second, .val (.long (i4 ^^^ ((i5.toUInt64 >>> ((1 : Int32) &&& 0x3f).toInt64.toUInt64).toInt64))), .second, .val (.ref b1), .unset, .unset] [(.long (i4 ^^^ ((i5.toUInt64 >>> ((1 : Int32) &&& 0x3f).toInt64.toUInt64).toInt64))), (.long ((i5 ^^^ (-1 : Int64)) + i3)), (.long (i5 - i2)), (.long (i5 ^^^ i1)), (.long i5), (.ref b5), (.ref b5)])) rfl (by rw [hml]; rfl) (Steps.refl _) (a := b5) (argsL := [(.long i5), (.long (i5 ^^^ i1)), (.long (i5 - i2)), (.long ((i5 ^^^ (-1 : Int64)) + i3)), (.long (i4 ^^^ ((i5.toUInt64 >>> ((1 : Int32) &&& 0x3f).toInt64.toUInt64).toInt64)))]) (rest := [(.ref b5)]) (lenOf pd_0 rfl) rfl (by show 2 * 0 + _ ≤ _; exact Nat.le_of_eq rfl) (hb hby at_68) (fun _ _ => ⟨rfl, e5, (by decide : 2 + 0 ≤ _), (by decide : 10 + 0 ≤ _)⟩)
  dsimp only [Pt.U, Pt.locs, Pt.cells, Pt.slots] at X7 l7 y7 z7 st7 hQ7
  subst l7 y7 z7
  obtain ⟨rfl, N7q, K7, Ex7, F7_processed, F7_inserted, F7_updated, F7_unchanged, F7_errorRows⟩ := hQ7
  have N7 := Fr.app N3 N7q
  have f8 := ((F3_processed.ext E5).keep K7 (ninS ne5_b1 nin0))
  have f9 := ((F3_inserted.ext E5).keep K7 (ninS ne5_b1 nin0))
  have f10 := ((F3_updated.ext E5).keep K7 (ninS ne5_b1 nin0))
  have f11 := ((F3_unchanged.ext E5).keep K7 (ninS ne5_b1 nin0))
  have f12 := ((F3_errorRows.ext E5).keep K7 (ninS ne5_b1 nin0))
  have O13 : Old Z n0 T7.heap := (O6.keep K7 (allS gb5 all0))
  have f15 := ((Ex3.ext E5).keep K7)
  obtain ⟨cq14, kq14, q14a, q14b, q14c⟩ := isOf hZ rfl f15
  obtain ⟨_, _, ⟨T14, L14, k14, n14⟩, -, X14, ⟨Lc14, hQ14, l14, y14, z14⟩, st14⟩ := X7.virtualBack hx (y := (⟨"com/example/abir/abir/RowCounts", "plus", "(Lcom/example/abir/abir/RowCounts;)Lcom/example/abir/abir/RowCounts;"⟩ : MethodName)) (z := (⟨"com/example/abir/abir/RowCounts", "plus", "(Lcom/example/abir/abir/RowCounts;)Lcom/example/abir/abir/RowCounts;"⟩ : MethodName)) hown (mvT hZ (hw _ (List.mem_of_getElem? (i := 20) rfl))) (mvT hZ (hw _ (List.mem_of_getElem? (i := 21) rfl))) (notFace_of_selects (args := #[]) (mvT hZ (hw _ (List.mem_of_getElem? (i := 23) rfl)))) (mvT hZ (hw _ (List.mem_of_getElem? (i := 23) rfl))) (mvT hZ (hw _ (List.mem_of_getElem? (i := 22) rfl))) (by decide) (backOf (W := 0) (rmP l Z a0 hw [] b1 b5 i0 i1 i2 i3 i4 i5 (i5 ^^^ i1) (i5 - i2) ((i5 ^^^ (-1 : Int64)) + i3) (i4 ^^^ ((i5.toUInt64 >>> ((1 : Int32) &&& 0x3f).toInt64.toUInt64).toInt64)) T7.heap n0 O13 f8 f9 f10 f11 f12 F7_processed F7_inserted F7_updated F7_unchanged F7_errorRows) hZ (hw _ (List.mem_of_getElem? (i := 24) rfl)) (hw _ (List.mem_of_getElem? (i := 3) rfl)) (by decide) (by decide)) q14a q14c (g := (mkF m 77 #[.val (.long i0), .second, .val (.long i1), .second, .val (.long i2), .second, .val (.long i3), .second, .val (.long i4), .second, .val (.long i5), .second, .val (.long i5), .second, .val (.long (i5 ^^^ i1)), .second, .val (.long (i5 - i2)), .second, .val (.long ((i5 ^^^ (-1 : Int64)) + i3)), .second, .val (.long (i4 ^^^ ((i5.toUInt64 >>> ((1 : Int32) &&& 0x3f).toInt64.toUInt64).toInt64))), .second, .val (.ref b1), .val (.ref b5), .unset] [(.ref b5), (.ref b1)])) rfl (by rw [hml]; rfl) (Steps.refl _) (argsL := [(.ref b5)]) (rest := []) (lenOf pd_1 rfl) rfl (by show 2 * 0 + _ ≤ _; exact Nat.le_of_eq rfl) (hb hby at_77) (fun _ _ => ⟨rfl, rfl, (by decide : 2 + 1 ≤ _), (by decide : 10 + 5 ≤ _)⟩)
  dsimp only [Pt.U, Pt.locs, Pt.cells, Pt.slots] at X14 l14 y14 z14 st14 hQ14
  subst l14 y14 z14
  obtain ⟨b14, rfl, N14q, gb14, sz14, K14, Ex14, F14_processed, F14_inserted, F14_updated, F14_unchanged, F14_errorRows⟩ := hQ14
  have N14 := Fr.app N7 N14q
  have ne14_b1 : b1 ≠ b14 := Nat.ne_of_lt (Nat.lt_of_lt_of_le (f15).lt sz14)
  have ne14_b5 : b5 ≠ b14 := Nat.ne_of_lt (Nat.lt_of_lt_of_le (Ex7).lt sz14)
  have O16 : Old Z n0 T14.heap := (O13.keep K14 all0)
  obtain ⟨cq17, kq17, q17a, q17b, q17c⟩ := isOf hZ rfl Ex14
  obtain ⟨_, _, ⟨T17, L17, k17, n17⟩, -, X17, ⟨Lc17, hQ17, l17, y17, z17⟩, st17⟩ := X14.virtualBack hx (y := (⟨"com/example/abir/abir/RowCounts", "processed", "()J"⟩ : MethodName)) (z := (⟨"com/example/abir/abir/RowCounts", "processed", "()J"⟩ : MethodName)) hown (mvT hZ (hw _ (List.mem_of_getElem? (i := 27) rfl))) (mvT hZ (hw _ (List.mem_of_getElem? (i := 28) rfl))) (notFace_of_selects (args := #[]) (mvT hZ (hw _ (List.mem_of_getElem? (i := 30) rfl)))) (mvT hZ (hw _ (List.mem_of_getElem? (i := 30) rfl))) (mvT hZ (hw _ (List.mem_of_getElem? (i := 29) rfl))) (by decide) (backOf (W := 0) (rmG_processed l Z a0 hw [] b14 (i0 + i5) T14.heap n0 O16 F14_processed) hZ (hw _ (List.mem_of_getElem? (i := 31) rfl)) (hw _ (List.mem_of_getElem? (i := 3) rfl)) (by decide) (by decide)) q17a q17c (g := (mkF m 84 #[.val (.long i0), .second, .val (.long i1), .second, .val (.long i2), .second, .val (.long i3), .second, .val (.long i4), .second, .val (.long i5), .second, .val (.long i5), .second, .val (.long (i5 ^^^ i1)), .second, .val (.long (i5 - i2)), .second, .val (.long ((i5 ^^^ (-1 : Int64)) + i3)), .second, .val (.long (i4 ^^^ ((i5.toUInt64 >>> ((1 : Int32) &&& 0x3f).toInt64.toUInt64).toInt64))), .second, .val (.ref b1), .val (.ref b5), .val (.ref b14)] [(.ref b14)])) rfl (by rw [hml]; rfl) (Steps.refl _) (argsL := []) (rest := []) (lenOf pd_2 rfl) rfl (by show 2 * 0 + _ ≤ _; exact Nat.le_of_eq rfl) (hb hby at_84) (fun _ _ => ⟨rfl, rfl, (by decide : 3 + 0 ≤ _), (by decide : 15 + 0 ≤ _)⟩)
  dsimp only [Pt.U, Pt.locs, Pt.cells, Pt.slots] at X17 l17 y17 z17 st17 hQ17
  subst l17 y17 z17
  obtain ⟨rfl, N17q, hh17⟩ := hQ17
  have N17 := Fr.app N14 N17q
  obtain ⟨cq18, kq18, q18a, q18b, q18c⟩ := isOf hZ hh17 Ex14
  obtain ⟨_, _, ⟨T18, L18, k18, n18⟩, -, X18, ⟨Lc18, hQ18, l18, y18, z18⟩, st18⟩ := X17.virtualBack hx (y := (⟨"com/example/abir/abir/RowCounts", "inserted", "()J"⟩ : MethodName)) (z := (⟨"com/example/abir/abir/RowCounts", "inserted", "()J"⟩ : MethodName)) hown (mvT hZ (hw _ (List.mem_of_getElem? (i := 32) rfl))) (mvT hZ (hw _ (List.mem_of_getElem? (i := 33) rfl))) (notFace_of_selects (args := #[]) (mvT hZ (hw _ (List.mem_of_getElem? (i := 35) rfl)))) (mvT hZ (hw _ (List.mem_of_getElem? (i := 35) rfl))) (mvT hZ (hw _ (List.mem_of_getElem? (i := 34) rfl))) (by decide) (backOf (W := 0) (rmG_inserted l Z a0 hw [] b14 (i1 + (i5 ^^^ i1)) T14.heap n0 O16 F14_inserted) hZ (hw _ (List.mem_of_getElem? (i := 36) rfl)) (hw _ (List.mem_of_getElem? (i := 3) rfl)) (by decide) (by decide)) q18a q18c (g := (mkF m 97 #[.val (.long i0), .second, .val (.long i1), .second, .val (.long i2), .second, .val (.long i3), .second, .val (.long i4), .second, .val (.long i5), .second, .val (.long i5), .second, .val (.long (i5 ^^^ i1)), .second, .val (.long (i5 - i2)), .second, .val (.long ((i5 ^^^ (-1 : Int64)) + i3)), .second, .val (.long (i4 ^^^ ((i5.toUInt64 >>> ((1 : Int32) &&& 0x3f).toInt64.toUInt64).toInt64))), .second, .val (.ref b1), .val (.ref b5), .val (.ref b14)] [(.ref b14)])) rfl (by rw [hml]; rfl) (Steps.refl _) (argsL := []) (rest := []) (lenOf pd_2 rfl) rfl (by show 2 * 0 + _ ≤ _; exact Nat.le_of_eq rfl) (hb hby at_97) (fun _ _ => ⟨rfl, hh17, (by decide : 3 + 0 ≤ _), (by decide : 15 + 0 ≤ _)⟩)
  dsimp only [Pt.U, Pt.locs, Pt.cells, Pt.slots] at X18 l18 y18 z18 st18 hQ18
  subst l18 y18 z18
  obtain ⟨rfl, N18q, hh18⟩ := hQ18
  have N18 := Fr.app N17 N18q
  obtain ⟨cq19, kq19, q19a, q19b, q19c⟩ := isOf hZ hh18 Ex14
  obtain ⟨_, _, ⟨T19, L19, k19, n19⟩, -, X19, ⟨Lc19, hQ19, l19, y19, z19⟩, st19⟩ := X18.virtualBack hx (y := (⟨"com/example/abir/abir/RowCounts", "updated", "()J"⟩ : MethodName)) (z := (⟨"com/example/abir/abir/RowCounts", "updated", "()J"⟩ : MethodName)) hown (mvT hZ (hw _ (List.mem_of_getElem? (i := 37) rfl))) (mvT hZ (hw _ (List.mem_of_getElem? (i := 38) rfl))) (notFace_of_selects (args := #[]) (mvT hZ (hw _ (List.mem_of_getElem? (i := 40) rfl)))) (mvT hZ (hw _ (List.mem_of_getElem? (i := 40) rfl))) (mvT hZ (hw _ (List.mem_of_getElem? (i := 39) rfl))) (by decide) (backOf (W := 0) (rmG_updated l Z a0 hw [] b14 (i2 + (i5 - i2)) T14.heap n0 O16 F14_updated) hZ (hw _ (List.mem_of_getElem? (i := 41) rfl)) (hw _ (List.mem_of_getElem? (i := 3) rfl)) (by decide) (by decide)) q19a q19c (g := (mkF m 110 #[.val (.long i0), .second, .val (.long i1), .second, .val (.long i2), .second, .val (.long i3), .second, .val (.long i4), .second, .val (.long i5), .second, .val (.long i5), .second, .val (.long (i5 ^^^ i1)), .second, .val (.long (i5 - i2)), .second, .val (.long ((i5 ^^^ (-1 : Int64)) + i3)), .second, .val (.long (i4 ^^^ ((i5.toUInt64 >>> ((1 : Int32) &&& 0x3f).toInt64.toUInt64).toInt64))), .second, .val (.ref b1), .val (.ref b5), .val (.ref b14)] [(.ref b14)])) rfl (by rw [hml]; rfl) (Steps.refl _) (argsL := []) (rest := []) (lenOf pd_2 rfl) rfl (by show 2 * 0 + _ ≤ _; exact Nat.le_of_eq rfl) (hb hby at_110) (fun _ _ => ⟨rfl, hh18, (by decide : 3 + 0 ≤ _), (by decide : 15 + 0 ≤ _)⟩)
  dsimp only [Pt.U, Pt.locs, Pt.cells, Pt.slots] at X19 l19 y19 z19 st19 hQ19
  subst l19 y19 z19
  obtain ⟨rfl, N19q, hh19⟩ := hQ19
  have N19 := Fr.app N18 N19q
  obtain ⟨cq20, kq20, q20a, q20b, q20c⟩ := isOf hZ hh19 Ex14
  obtain ⟨_, _, ⟨T20, L20, k20, n20⟩, -, X20, ⟨Lc20, hQ20, l20, y20, z20⟩, st20⟩ := X19.virtualBack hx (y := (⟨"com/example/abir/abir/RowCounts", "unchanged", "()J"⟩ : MethodName)) (z := (⟨"com/example/abir/abir/RowCounts", "unchanged", "()J"⟩ : MethodName)) hown (mvT hZ (hw _ (List.mem_of_getElem? (i := 42) rfl))) (mvT hZ (hw _ (List.mem_of_getElem? (i := 43) rfl))) (notFace_of_selects (args := #[]) (mvT hZ (hw _ (List.mem_of_getElem? (i := 45) rfl)))) (mvT hZ (hw _ (List.mem_of_getElem? (i := 45) rfl))) (mvT hZ (hw _ (List.mem_of_getElem? (i := 44) rfl))) (by decide) (backOf (W := 0) (rmG_unchanged l Z a0 hw [] b14 (i3 + ((i5 ^^^ (-1 : Int64)) + i3)) T14.heap n0 O16 F14_unchanged) hZ (hw _ (List.mem_of_getElem? (i := 46) rfl)) (hw _ (List.mem_of_getElem? (i := 3) rfl)) (by decide) (by decide)) q20a q20c (g := (mkF m 124 #[.val (.long i0), .second, .val (.long i1), .second, .val (.long i2), .second, .val (.long i3), .second, .val (.long i4), .second, .val (.long i5), .second, .val (.long i5), .second, .val (.long (i5 ^^^ i1)), .second, .val (.long (i5 - i2)), .second, .val (.long ((i5 ^^^ (-1 : Int64)) + i3)), .second, .val (.long (i4 ^^^ ((i5.toUInt64 >>> ((1 : Int32) &&& 0x3f).toInt64.toUInt64).toInt64))), .second, .val (.ref b1), .val (.ref b5), .val (.ref b14)] [(.ref b14)])) rfl (by rw [hml]; rfl) (Steps.refl _) (argsL := []) (rest := []) (lenOf pd_2 rfl) rfl (by show 2 * 0 + _ ≤ _; exact Nat.le_of_eq rfl) (hb hby at_124) (fun _ _ => ⟨rfl, hh19, (by decide : 3 + 0 ≤ _), (by decide : 15 + 0 ≤ _)⟩)
  dsimp only [Pt.U, Pt.locs, Pt.cells, Pt.slots] at X20 l20 y20 z20 st20 hQ20
  subst l20 y20 z20
  obtain ⟨rfl, N20q, hh20⟩ := hQ20
  have N20 := Fr.app N19 N20q
  obtain ⟨cq21, kq21, q21a, q21b, q21c⟩ := isOf hZ hh20 Ex14
  obtain ⟨_, _, ⟨T21, L21, k21, n21⟩, -, X21, ⟨Lc21, hQ21, l21, y21, z21⟩, st21⟩ := X20.virtualBack hx (y := (⟨"com/example/abir/abir/RowCounts", "errorRows", "()J"⟩ : MethodName)) (z := (⟨"com/example/abir/abir/RowCounts", "errorRows", "()J"⟩ : MethodName)) hown (mvT hZ (hw _ (List.mem_of_getElem? (i := 47) rfl))) (mvT hZ (hw _ (List.mem_of_getElem? (i := 48) rfl))) (notFace_of_selects (args := #[]) (mvT hZ (hw _ (List.mem_of_getElem? (i := 50) rfl)))) (mvT hZ (hw _ (List.mem_of_getElem? (i := 50) rfl))) (mvT hZ (hw _ (List.mem_of_getElem? (i := 49) rfl))) (by decide) (backOf (W := 0) (rmG_errorRows l Z a0 hw [] b14 (i4 + (i4 ^^^ ((i5.toUInt64 >>> ((1 : Int32) &&& 0x3f).toInt64.toUInt64).toInt64))) T14.heap n0 O16 F14_errorRows) hZ (hw _ (List.mem_of_getElem? (i := 51) rfl)) (hw _ (List.mem_of_getElem? (i := 3) rfl)) (by decide) (by decide)) q21a q21c (g := (mkF m 138 #[.val (.long i0), .second, .val (.long i1), .second, .val (.long i2), .second, .val (.long i3), .second, .val (.long i4), .second, .val (.long i5), .second, .val (.long i5), .second, .val (.long (i5 ^^^ i1)), .second, .val (.long (i5 - i2)), .second, .val (.long ((i5 ^^^ (-1 : Int64)) + i3)), .second, .val (.long (i4 ^^^ ((i5.toUInt64 >>> ((1 : Int32) &&& 0x3f).toInt64.toUInt64).toInt64))), .second, .val (.ref b1), .val (.ref b5), .val (.ref b14)] [(.ref b14)])) rfl (by rw [hml]; rfl) (Steps.refl _) (argsL := []) (rest := []) (lenOf pd_2 rfl) rfl (by show 2 * 0 + _ ≤ _; exact Nat.le_of_eq rfl) (hb hby at_138) (fun _ _ => ⟨rfl, hh20, (by decide : 3 + 0 ≤ _), (by decide : 15 + 0 ≤ _)⟩)
  dsimp only [Pt.U, Pt.locs, Pt.cells, Pt.slots] at X21 l21 y21 z21 st21 hQ21
  subst l21 y21 z21
  obtain ⟨rfl, N21q, hh21⟩ := hQ21
  have N21 := Fr.app N20 N21q
  obtain ⟨fs, hr, hrun, hended, hW, hsame⟩ := X21.leave (v := some (.int (1 : Int32))) (fun h => by rw [Bd.returns] at h; cases h)
  refine ⟨_, _, pre0 _ ?_, hrun, hended, _, _, rfl, ?_, ⟨_, rfl⟩, hW, hsame.mono (by decide) (by decide)⟩
  · skip
    show Steps p.tables e below (s₁.setTop (mkF m 0 #[.val (.long i0), .second, .val (.long i1), .second, .val (.long i2), .second, .val (.long i3), .second, .val (.long i4), .second, .val (.long i5), .second, .unset, .unset, .unset, .unset, .unset, .unset, .unset, .unset, .unset, .unset, .unset, .unset, .unset] [])) _
    refine XS.lload X0.here hx rfl (hb hby at_0) rfl ?_
    show Steps p.tables e below (s₁.setTop (mkF m 2 #[.val (.long i0), .second, .val (.long i1), .second, .val (.long i2), .second, .val (.long i3), .second, .val (.long i4), .second, .val (.long i5), .second, .unset, .unset, .unset, .unset, .unset, .unset, .unset, .unset, .unset, .unset, .unset, .unset, .unset] [(.long i5)])) _
    refine XS.lstore X0.here hx rfl (hb hby at_2) rfl (l' := #[.val (.long i0), .second, .val (.long i1), .second, .val (.long i2), .second, .val (.long i3), .second, .val (.long i4), .second, .val (.long i5), .second, .val (.long i5), .second, .unset, .unset, .unset, .unset, .unset, .unset, .unset, .unset, .unset, .unset, .unset]) rfl ?_
    show Steps p.tables e below (s₁.setTop (mkF m 4 #[.val (.long i0), .second, .val (.long i1), .second, .val (.long i2), .second, .val (.long i3), .second, .val (.long i4), .second, .val (.long i5), .second, .val (.long i5), .second, .unset, .unset, .unset, .unset, .unset, .unset, .unset, .unset, .unset, .unset, .unset] [])) _
    refine XS.lload X0.here hx rfl (hb hby at_4) rfl ?_
    show Steps p.tables e below (s₁.setTop (mkF m 6 #[.val (.long i0), .second, .val (.long i1), .second, .val (.long i2), .second, .val (.long i3), .second, .val (.long i4), .second, .val (.long i5), .second, .val (.long i5), .second, .unset, .unset, .unset, .unset, .unset, .unset, .unset, .unset, .unset, .unset, .unset] [(.long i5)])) _
    refine XS.lloadN X0.here hx rfl (hb hby at_6) rfl ?_
    show Steps p.tables e below (s₁.setTop (mkF m 7 #[.val (.long i0), .second, .val (.long i1), .second, .val (.long i2), .second, .val (.long i3), .second, .val (.long i4), .second, .val (.long i5), .second, .val (.long i5), .second, .unset, .unset, .unset, .unset, .unset, .unset, .unset, .unset, .unset, .unset, .unset] [(.long i1), (.long i5)])) _
    refine XS.lxor X0.here hx rfl (hb hby at_7) rfl ?_
    show Steps p.tables e below (s₁.setTop (mkF m 8 #[.val (.long i0), .second, .val (.long i1), .second, .val (.long i2), .second, .val (.long i3), .second, .val (.long i4), .second, .val (.long i5), .second, .val (.long i5), .second, .unset, .unset, .unset, .unset, .unset, .unset, .unset, .unset, .unset, .unset, .unset] [(.long (i5 ^^^ i1))])) _
    refine XS.lstore X0.here hx rfl (hb hby at_8) rfl (l' := #[.val (.long i0), .second, .val (.long i1), .second, .val (.long i2), .second, .val (.long i3), .second, .val (.long i4), .second, .val (.long i5), .second, .val (.long i5), .second, .val (.long (i5 ^^^ i1)), .second, .unset, .unset, .unset, .unset, .unset, .unset, .unset, .unset, .unset]) rfl ?_
    show Steps p.tables e below (s₁.setTop (mkF m 10 #[.val (.long i0), .second, .val (.long i1), .second, .val (.long i2), .second, .val (.long i3), .second, .val (.long i4), .second, .val (.long i5), .second, .val (.long i5), .second, .val (.long (i5 ^^^ i1)), .second, .unset, .unset, .unset, .unset, .unset, .unset, .unset, .unset, .unset] [])) _
    refine XS.lload X0.here hx rfl (hb hby at_10) rfl ?_
    show Steps p.tables e below (s₁.setTop (mkF m 12 #[.val (.long i0), .second, .val (.long i1), .second, .val (.long i2), .second, .val (.long i3), .second, .val (.long i4), .second, .val (.long i5), .second, .val (.long i5), .second, .val (.long (i5 ^^^ i1)), .second, .unset, .unset, .unset, .unset, .unset, .unset, .unset, .unset, .unset] [(.long i5)])) _
    refine XS.lload X0.here hx rfl (hb hby at_12) rfl ?_
    show Steps p.tables e below (s₁.setTop (mkF m 14 #[.val (.long i0), .second, .val (.long i1), .second, .val (.long i2), .second, .val (.long i3), .second, .val (.long i4), .second, .val (.long i5), .second, .val (.long i5), .second, .val (.long (i5 ^^^ i1)), .second, .unset, .unset, .unset, .unset, .unset, .unset, .unset, .unset, .unset] [(.long i2), (.long i5)])) _
    refine XS.lsub X0.here hx rfl (hb hby at_14) rfl ?_
    show Steps p.tables e below (s₁.setTop (mkF m 15 #[.val (.long i0), .second, .val (.long i1), .second, .val (.long i2), .second, .val (.long i3), .second, .val (.long i4), .second, .val (.long i5), .second, .val (.long i5), .second, .val (.long (i5 ^^^ i1)), .second, .unset, .unset, .unset, .unset, .unset, .unset, .unset, .unset, .unset] [(.long (i5 - i2))])) _
    refine XS.lstore X0.here hx rfl (hb hby at_15) rfl (l' := #[.val (.long i0), .second, .val (.long i1), .second, .val (.long i2), .second, .val (.long i3), .second, .val (.long i4), .second, .val (.long i5), .second, .val (.long i5), .second, .val (.long (i5 ^^^ i1)), .second, .val (.long (i5 - i2)), .second, .unset, .unset, .unset, .unset, .unset, .unset, .unset]) rfl ?_
    show Steps p.tables e below (s₁.setTop (mkF m 17 #[.val (.long i0), .second, .val (.long i1), .second, .val (.long i2), .second, .val (.long i3), .second, .val (.long i4), .second, .val (.long i5), .second, .val (.long i5), .second, .val (.long (i5 ^^^ i1)), .second, .val (.long (i5 - i2)), .second, .unset, .unset, .unset, .unset, .unset, .unset, .unset] [])) _
    refine XS.lload X0.here hx rfl (hb hby at_17) rfl ?_
    show Steps p.tables e below (s₁.setTop (mkF m 19 #[.val (.long i0), .second, .val (.long i1), .second, .val (.long i2), .second, .val (.long i3), .second, .val (.long i4), .second, .val (.long i5), .second, .val (.long i5), .second, .val (.long (i5 ^^^ i1)), .second, .val (.long (i5 - i2)), .second, .unset, .unset, .unset, .unset, .unset, .unset, .unset] [(.long i5)])) _
    refine X0.ldc2Long hx hown (mvT hZ (hw _ (List.mem_of_getElem? (i := 0) rfl))) (g := (mkF m 19 #[.val (.long i0), .second, .val (.long i1), .second, .val (.long i2), .second, .val (.long i3), .second, .val (.long i4), .second, .val (.long i5), .second, .val (.long i5), .second, .val (.long (i5 ^^^ i1)), .second, .val (.long (i5 - i2)), .second, .unset, .unset, .unset, .unset, .unset, .unset, .unset] [(.long i5)])) rfl (hb hby at_19) _ ?_
    show Steps p.tables e below (s₁.setTop (mkF m 22 #[.val (.long i0), .second, .val (.long i1), .second, .val (.long i2), .second, .val (.long i3), .second, .val (.long i4), .second, .val (.long i5), .second, .val (.long i5), .second, .val (.long (i5 ^^^ i1)), .second, .val (.long (i5 - i2)), .second, .unset, .unset, .unset, .unset, .unset, .unset, .unset] [(.long (-1 : Int64)), (.long i5)])) _
    refine XS.lxor X0.here hx rfl (hb hby at_22) rfl ?_
    show Steps p.tables e below (s₁.setTop (mkF m 23 #[.val (.long i0), .second, .val (.long i1), .second, .val (.long i2), .second, .val (.long i3), .second, .val (.long i4), .second, .val (.long i5), .second, .val (.long i5), .second, .val (.long (i5 ^^^ i1)), .second, .val (.long (i5 - i2)), .second, .unset, .unset, .unset, .unset, .unset, .unset, .unset] [(.long (i5 ^^^ (-1 : Int64)))])) _
    refine XS.lload X0.here hx rfl (hb hby at_23) rfl ?_
    show Steps p.tables e below (s₁.setTop (mkF m 25 #[.val (.long i0), .second, .val (.long i1), .second, .val (.long i2), .second, .val (.long i3), .second, .val (.long i4), .second, .val (.long i5), .second, .val (.long i5), .second, .val (.long (i5 ^^^ i1)), .second, .val (.long (i5 - i2)), .second, .unset, .unset, .unset, .unset, .unset, .unset, .unset] [(.long i3), (.long (i5 ^^^ (-1 : Int64)))])) _
    refine XS.ladd X0.here hx rfl (hb hby at_25) rfl ?_
    show Steps p.tables e below (s₁.setTop (mkF m 26 #[.val (.long i0), .second, .val (.long i1), .second, .val (.long i2), .second, .val (.long i3), .second, .val (.long i4), .second, .val (.long i5), .second, .val (.long i5), .second, .val (.long (i5 ^^^ i1)), .second, .val (.long (i5 - i2)), .second, .unset, .unset, .unset, .unset, .unset, .unset, .unset] [(.long ((i5 ^^^ (-1 : Int64)) + i3))])) _
    refine XS.lstore X0.here hx rfl (hb hby at_26) rfl (l' := #[.val (.long i0), .second, .val (.long i1), .second, .val (.long i2), .second, .val (.long i3), .second, .val (.long i4), .second, .val (.long i5), .second, .val (.long i5), .second, .val (.long (i5 ^^^ i1)), .second, .val (.long (i5 - i2)), .second, .val (.long ((i5 ^^^ (-1 : Int64)) + i3)), .second, .unset, .unset, .unset, .unset, .unset]) rfl ?_
    show Steps p.tables e below (s₁.setTop (mkF m 28 #[.val (.long i0), .second, .val (.long i1), .second, .val (.long i2), .second, .val (.long i3), .second, .val (.long i4), .second, .val (.long i5), .second, .val (.long i5), .second, .val (.long (i5 ^^^ i1)), .second, .val (.long (i5 - i2)), .second, .val (.long ((i5 ^^^ (-1 : Int64)) + i3)), .second, .unset, .unset, .unset, .unset, .unset] [])) _
    refine XS.lload X0.here hx rfl (hb hby at_28) rfl ?_
    show Steps p.tables e below (s₁.setTop (mkF m 30 #[.val (.long i0), .second, .val (.long i1), .second, .val (.long i2), .second, .val (.long i3), .second, .val (.long i4), .second, .val (.long i5), .second, .val (.long i5), .second, .val (.long (i5 ^^^ i1)), .second, .val (.long (i5 - i2)), .second, .val (.long ((i5 ^^^ (-1 : Int64)) + i3)), .second, .unset, .unset, .unset, .unset, .unset] [(.long i4)])) _
    refine XS.lload X0.here hx rfl (hb hby at_30) rfl ?_
    show Steps p.tables e below (s₁.setTop (mkF m 32 #[.val (.long i0), .second, .val (.long i1), .second, .val (.long i2), .second, .val (.long i3), .second, .val (.long i4), .second, .val (.long i5), .second, .val (.long i5), .second, .val (.long (i5 ^^^ i1)), .second, .val (.long (i5 - i2)), .second, .val (.long ((i5 ^^^ (-1 : Int64)) + i3)), .second, .unset, .unset, .unset, .unset, .unset] [(.long i5), (.long i4)])) _
    refine XS.iconst X0.here hx rfl (hb hby at_32) ?_
    show Steps p.tables e below (s₁.setTop (mkF m 33 #[.val (.long i0), .second, .val (.long i1), .second, .val (.long i2), .second, .val (.long i3), .second, .val (.long i4), .second, .val (.long i5), .second, .val (.long i5), .second, .val (.long (i5 ^^^ i1)), .second, .val (.long (i5 - i2)), .second, .val (.long ((i5 ^^^ (-1 : Int64)) + i3)), .second, .unset, .unset, .unset, .unset, .unset] [(.int (1 : Int32)), (.long i5), (.long i4)])) _
    refine XS.lushr X0.here hx rfl (hb hby at_33) rfl ?_
    show Steps p.tables e below (s₁.setTop (mkF m 34 #[.val (.long i0), .second, .val (.long i1), .second, .val (.long i2), .second, .val (.long i3), .second, .val (.long i4), .second, .val (.long i5), .second, .val (.long i5), .second, .val (.long (i5 ^^^ i1)), .second, .val (.long (i5 - i2)), .second, .val (.long ((i5 ^^^ (-1 : Int64)) + i3)), .second, .unset, .unset, .unset, .unset, .unset] [(.long ((i5.toUInt64 >>> ((1 : Int32) &&& 0x3f).toInt64.toUInt64).toInt64)), (.long i4)])) _
    refine XS.lxor X0.here hx rfl (hb hby at_34) rfl ?_
    show Steps p.tables e below (s₁.setTop (mkF m 35 #[.val (.long i0), .second, .val (.long i1), .second, .val (.long i2), .second, .val (.long i3), .second, .val (.long i4), .second, .val (.long i5), .second, .val (.long i5), .second, .val (.long (i5 ^^^ i1)), .second, .val (.long (i5 - i2)), .second, .val (.long ((i5 ^^^ (-1 : Int64)) + i3)), .second, .unset, .unset, .unset, .unset, .unset] [(.long (i4 ^^^ ((i5.toUInt64 >>> ((1 : Int32) &&& 0x3f).toInt64.toUInt64).toInt64)))])) _
    refine XS.lstore X0.here hx rfl (hb hby at_35) rfl (l' := #[.val (.long i0), .second, .val (.long i1), .second, .val (.long i2), .second, .val (.long i3), .second, .val (.long i4), .second, .val (.long i5), .second, .val (.long i5), .second, .val (.long (i5 ^^^ i1)), .second, .val (.long (i5 - i2)), .second, .val (.long ((i5 ^^^ (-1 : Int64)) + i3)), .second, .val (.long (i4 ^^^ ((i5.toUInt64 >>> ((1 : Int32) &&& 0x3f).toInt64.toUInt64).toInt64))), .second, .unset, .unset, .unset]) rfl ?_
    show Steps p.tables e below (s₁.setTop (mkF m 37 #[.val (.long i0), .second, .val (.long i1), .second, .val (.long i2), .second, .val (.long i3), .second, .val (.long i4), .second, .val (.long i5), .second, .val (.long i5), .second, .val (.long (i5 ^^^ i1)), .second, .val (.long (i5 - i2)), .second, .val (.long ((i5 ^^^ (-1 : Int64)) + i3)), .second, .val (.long (i4 ^^^ ((i5.toUInt64 >>> ((1 : Int32) &&& 0x3f).toInt64.toUInt64).toInt64))), .second, .unset, .unset, .unset] [])) _
    refine st1 _ ?_
    show Steps p.tables e below (T1.setTop (mkF m 40 #[.val (.long i0), .second, .val (.long i1), .second, .val (.long i2), .second, .val (.long i3), .second, .val (.long i4), .second, .val (.long i5), .second, .val (.long i5), .second, .val (.long (i5 ^^^ i1)), .second, .val (.long (i5 - i2)), .second, .val (.long ((i5 ^^^ (-1 : Int64)) + i3)), .second, .val (.long (i4 ^^^ ((i5.toUInt64 >>> ((1 : Int32) &&& 0x3f).toInt64.toUInt64).toInt64))), .second, .unset, .unset, .unset] [(.ref b1)])) _
    refine XS.dup X1.here hx rfl (hb hby at_40) rfl rfl ?_
    show Steps p.tables e below (T1.setTop (mkF m 41 #[.val (.long i0), .second, .val (.long i1), .second, .val (.long i2), .second, .val (.long i3), .second, .val (.long i4), .second, .val (.long i5), .second, .val (.long i5), .second, .val (.long (i5 ^^^ i1)), .second, .val (.long (i5 - i2)), .second, .val (.long ((i5 ^^^ (-1 : Int64)) + i3)), .second, .val (.long (i4 ^^^ ((i5.toUInt64 >>> ((1 : Int32) &&& 0x3f).toInt64.toUInt64).toInt64))), .second, .unset, .unset, .unset] [(.ref b1), (.ref b1)])) _
    refine XS.lloadN X1.here hx rfl (hb hby at_41) rfl ?_
    show Steps p.tables e below (T1.setTop (mkF m 42 #[.val (.long i0), .second, .val (.long i1), .second, .val (.long i2), .second, .val (.long i3), .second, .val (.long i4), .second, .val (.long i5), .second, .val (.long i5), .second, .val (.long (i5 ^^^ i1)), .second, .val (.long (i5 - i2)), .second, .val (.long ((i5 ^^^ (-1 : Int64)) + i3)), .second, .val (.long (i4 ^^^ ((i5.toUInt64 >>> ((1 : Int32) &&& 0x3f).toInt64.toUInt64).toInt64))), .second, .unset, .unset, .unset] [(.long i0), (.ref b1), (.ref b1)])) _
    refine XS.lloadN X1.here hx rfl (hb hby at_42) rfl ?_
    show Steps p.tables e below (T1.setTop (mkF m 43 #[.val (.long i0), .second, .val (.long i1), .second, .val (.long i2), .second, .val (.long i3), .second, .val (.long i4), .second, .val (.long i5), .second, .val (.long i5), .second, .val (.long (i5 ^^^ i1)), .second, .val (.long (i5 - i2)), .second, .val (.long ((i5 ^^^ (-1 : Int64)) + i3)), .second, .val (.long (i4 ^^^ ((i5.toUInt64 >>> ((1 : Int32) &&& 0x3f).toInt64.toUInt64).toInt64))), .second, .unset, .unset, .unset] [(.long i1), (.long i0), (.ref b1), (.ref b1)])) _
    refine XS.lload X1.here hx rfl (hb hby at_43) rfl ?_
    show Steps p.tables e below (T1.setTop (mkF m 45 #[.val (.long i0), .second, .val (.long i1), .second, .val (.long i2), .second, .val (.long i3), .second, .val (.long i4), .second, .val (.long i5), .second, .val (.long i5), .second, .val (.long (i5 ^^^ i1)), .second, .val (.long (i5 - i2)), .second, .val (.long ((i5 ^^^ (-1 : Int64)) + i3)), .second, .val (.long (i4 ^^^ ((i5.toUInt64 >>> ((1 : Int32) &&& 0x3f).toInt64.toUInt64).toInt64))), .second, .unset, .unset, .unset] [(.long i2), (.long i1), (.long i0), (.ref b1), (.ref b1)])) _
    refine XS.lload X1.here hx rfl (hb hby at_45) rfl ?_
    show Steps p.tables e below (T1.setTop (mkF m 47 #[.val (.long i0), .second, .val (.long i1), .second, .val (.long i2), .second, .val (.long i3), .second, .val (.long i4), .second, .val (.long i5), .second, .val (.long i5), .second, .val (.long (i5 ^^^ i1)), .second, .val (.long (i5 - i2)), .second, .val (.long ((i5 ^^^ (-1 : Int64)) + i3)), .second, .val (.long (i4 ^^^ ((i5.toUInt64 >>> ((1 : Int32) &&& 0x3f).toInt64.toUInt64).toInt64))), .second, .unset, .unset, .unset] [(.long i3), (.long i2), (.long i1), (.long i0), (.ref b1), (.ref b1)])) _
    refine XS.lload X1.here hx rfl (hb hby at_47) rfl ?_
    show Steps p.tables e below (T1.setTop (mkF m 49 #[.val (.long i0), .second, .val (.long i1), .second, .val (.long i2), .second, .val (.long i3), .second, .val (.long i4), .second, .val (.long i5), .second, .val (.long i5), .second, .val (.long (i5 ^^^ i1)), .second, .val (.long (i5 - i2)), .second, .val (.long ((i5 ^^^ (-1 : Int64)) + i3)), .second, .val (.long (i4 ^^^ ((i5.toUInt64 >>> ((1 : Int32) &&& 0x3f).toInt64.toUInt64).toInt64))), .second, .unset, .unset, .unset] [(.long i4), (.long i3), (.long i2), (.long i1), (.long i0), (.ref b1), (.ref b1)])) _
    refine st3.trans ?_
    show Steps p.tables e below (T3.setTop (mkF m 52 #[.val (.long i0), .second, .val (.long i1), .second, .val (.long i2), .second, .val (.long i3), .second, .val (.long i4), .second, .val (.long i5), .second, .val (.long i5), .second, .val (.long (i5 ^^^ i1)), .second, .val (.long (i5 - i2)), .second, .val (.long ((i5 ^^^ (-1 : Int64)) + i3)), .second, .val (.long (i4 ^^^ ((i5.toUInt64 >>> ((1 : Int32) &&& 0x3f).toInt64.toUInt64).toInt64))), .second, .unset, .unset, .unset] [(.ref b1)])) _
    refine XS.astore X3.here hx rfl (hb hby at_52) rfl rfl (l' := #[.val (.long i0), .second, .val (.long i1), .second, .val (.long i2), .second, .val (.long i3), .second, .val (.long i4), .second, .val (.long i5), .second, .val (.long i5), .second, .val (.long (i5 ^^^ i1)), .second, .val (.long (i5 - i2)), .second, .val (.long ((i5 ^^^ (-1 : Int64)) + i3)), .second, .val (.long (i4 ^^^ ((i5.toUInt64 >>> ((1 : Int32) &&& 0x3f).toInt64.toUInt64).toInt64))), .second, .val (.ref b1), .unset, .unset]) rfl ?_
    show Steps p.tables e below (T3.setTop (mkF m 54 #[.val (.long i0), .second, .val (.long i1), .second, .val (.long i2), .second, .val (.long i3), .second, .val (.long i4), .second, .val (.long i5), .second, .val (.long i5), .second, .val (.long (i5 ^^^ i1)), .second, .val (.long (i5 - i2)), .second, .val (.long ((i5 ^^^ (-1 : Int64)) + i3)), .second, .val (.long (i4 ^^^ ((i5.toUInt64 >>> ((1 : Int32) &&& 0x3f).toInt64.toUInt64).toInt64))), .second, .val (.ref b1), .unset, .unset] [])) _
    refine st5 _ ?_
    show Steps p.tables e below (T5.setTop (mkF m 57 #[.val (.long i0), .second, .val (.long i1), .second, .val (.long i2), .second, .val (.long i3), .second, .val (.long i4), .second, .val (.long i5), .second, .val (.long i5), .second, .val (.long (i5 ^^^ i1)), .second, .val (.long (i5 - i2)), .second, .val (.long ((i5 ^^^ (-1 : Int64)) + i3)), .second, .val (.long (i4 ^^^ ((i5.toUInt64 >>> ((1 : Int32) &&& 0x3f).toInt64.toUInt64).toInt64))), .second, .val (.ref b1), .unset, .unset] [(.ref b5)])) _
    refine XS.dup X5.here hx rfl (hb hby at_57) rfl rfl ?_
    show Steps p.tables e below (T5.setTop (mkF m 58 #[.val (.long i0), .second, .val (.long i1), .second, .val (.long i2), .second, .val (.long i3), .second, .val (.long i4), .second, .val (.long i5), .second, .val (.long i5), .second, .val (.long (i5 ^^^ i1)), .second, .val (.long (i5 - i2)), .second, .val (.long ((i5 ^^^ (-1 : Int64)) + i3)), .second, .val (.long (i4 ^^^ ((i5.toUInt64 >>> ((1 : Int32) &&& 0x3f).toInt64.toUInt64).toInt64))), .second, .val (.ref b1), .unset, .unset] [(.ref b5), (.ref b5)])) _
    refine XS.lload X5.here hx rfl (hb hby at_58) rfl ?_
    show Steps p.tables e below (T5.setTop (mkF m 60 #[.val (.long i0), .second, .val (.long i1), .second, .val (.long i2), .second, .val (.long i3), .second, .val (.long i4), .second, .val (.long i5), .second, .val (.long i5), .second, .val (.long (i5 ^^^ i1)), .second, .val (.long (i5 - i2)), .second, .val (.long ((i5 ^^^ (-1 : Int64)) + i3)), .second, .val (.long (i4 ^^^ ((i5.toUInt64 >>> ((1 : Int32) &&& 0x3f).toInt64.toUInt64).toInt64))), .second, .val (.ref b1), .unset, .unset] [(.long i5), (.ref b5), (.ref b5)])) _
    refine XS.lload X5.here hx rfl (hb hby at_60) rfl ?_
    show Steps p.tables e below (T5.setTop (mkF m 62 #[.val (.long i0), .second, .val (.long i1), .second, .val (.long i2), .second, .val (.long i3), .second, .val (.long i4), .second, .val (.long i5), .second, .val (.long i5), .second, .val (.long (i5 ^^^ i1)), .second, .val (.long (i5 - i2)), .second, .val (.long ((i5 ^^^ (-1 : Int64)) + i3)), .second, .val (.long (i4 ^^^ ((i5.toUInt64 >>> ((1 : Int32) &&& 0x3f).toInt64.toUInt64).toInt64))), .second, .val (.ref b1), .unset, .unset] [(.long (i5 ^^^ i1)), (.long i5), (.ref b5), (.ref b5)])) _
    refine XS.lload X5.here hx rfl (hb hby at_62) rfl ?_
    show Steps p.tables e below (T5.setTop (mkF m 64 #[.val (.long i0), .second, .val (.long i1), .second, .val (.long i2), .second, .val (.long i3), .second, .val (.long i4), .second, .val (.long i5), .second, .val (.long i5), .second, .val (.long (i5 ^^^ i1)), .second, .val (.long (i5 - i2)), .second, .val (.long ((i5 ^^^ (-1 : Int64)) + i3)), .second, .val (.long (i4 ^^^ ((i5.toUInt64 >>> ((1 : Int32) &&& 0x3f).toInt64.toUInt64).toInt64))), .second, .val (.ref b1), .unset, .unset] [(.long (i5 - i2)), (.long (i5 ^^^ i1)), (.long i5), (.ref b5), (.ref b5)])) _
    refine XS.lload X5.here hx rfl (hb hby at_64) rfl ?_
    show Steps p.tables e below (T5.setTop (mkF m 66 #[.val (.long i0), .second, .val (.long i1), .second, .val (.long i2), .second, .val (.long i3), .second, .val (.long i4), .second, .val (.long i5), .second, .val (.long i5), .second, .val (.long (i5 ^^^ i1)), .second, .val (.long (i5 - i2)), .second, .val (.long ((i5 ^^^ (-1 : Int64)) + i3)), .second, .val (.long (i4 ^^^ ((i5.toUInt64 >>> ((1 : Int32) &&& 0x3f).toInt64.toUInt64).toInt64))), .second, .val (.ref b1), .unset, .unset] [(.long ((i5 ^^^ (-1 : Int64)) + i3)), (.long (i5 - i2)), (.long (i5 ^^^ i1)), (.long i5), (.ref b5), (.ref b5)])) _
    refine XS.lload X5.here hx rfl (hb hby at_66) rfl ?_
    show Steps p.tables e below (T5.setTop (mkF m 68 #[.val (.long i0), .second, .val (.long i1), .second, .val (.long i2), .second, .val (.long i3), .second, .val (.long i4), .second, .val (.long i5), .second, .val (.long i5), .second, .val (.long (i5 ^^^ i1)), .second, .val (.long (i5 - i2)), .second, .val (.long ((i5 ^^^ (-1 : Int64)) + i3)), .second, .val (.long (i4 ^^^ ((i5.toUInt64 >>> ((1 : Int32) &&& 0x3f).toInt64.toUInt64).toInt64))), .second, .val (.ref b1), .unset, .unset] [(.long (i4 ^^^ ((i5.toUInt64 >>> ((1 : Int32) &&& 0x3f).toInt64.toUInt64).toInt64))), (.long ((i5 ^^^ (-1 : Int64)) + i3)), (.long (i5 - i2)), (.long (i5 ^^^ i1)), (.long i5), (.ref b5), (.ref b5)])) _
    refine st7.trans ?_
    show Steps p.tables e below (T7.setTop (mkF m 71 #[.val (.long i0), .second, .val (.long i1), .second, .val (.long i2), .second, .val (.long i3), .second, .val (.long i4), .second, .val (.long i5), .second, .val (.long i5), .second, .val (.long (i5 ^^^ i1)), .second, .val (.long (i5 - i2)), .second, .val (.long ((i5 ^^^ (-1 : Int64)) + i3)), .second, .val (.long (i4 ^^^ ((i5.toUInt64 >>> ((1 : Int32) &&& 0x3f).toInt64.toUInt64).toInt64))), .second, .val (.ref b1), .unset, .unset] [(.ref b5)])) _
    refine XS.astore X7.here hx rfl (hb hby at_71) rfl rfl (l' := #[.val (.long i0), .second, .val (.long i1), .second, .val (.long i2), .second, .val (.long i3), .second, .val (.long i4), .second, .val (.long i5), .second, .val (.long i5), .second, .val (.long (i5 ^^^ i1)), .second, .val (.long (i5 - i2)), .second, .val (.long ((i5 ^^^ (-1 : Int64)) + i3)), .second, .val (.long (i4 ^^^ ((i5.toUInt64 >>> ((1 : Int32) &&& 0x3f).toInt64.toUInt64).toInt64))), .second, .val (.ref b1), .val (.ref b5), .unset]) rfl ?_
    show Steps p.tables e below (T7.setTop (mkF m 73 #[.val (.long i0), .second, .val (.long i1), .second, .val (.long i2), .second, .val (.long i3), .second, .val (.long i4), .second, .val (.long i5), .second, .val (.long i5), .second, .val (.long (i5 ^^^ i1)), .second, .val (.long (i5 - i2)), .second, .val (.long ((i5 ^^^ (-1 : Int64)) + i3)), .second, .val (.long (i4 ^^^ ((i5.toUInt64 >>> ((1 : Int32) &&& 0x3f).toInt64.toUInt64).toInt64))), .second, .val (.ref b1), .val (.ref b5), .unset] [])) _
    refine XS.aload X7.here hx rfl (hb hby at_73) rfl rfl ?_
    show Steps p.tables e below (T7.setTop (mkF m 75 #[.val (.long i0), .second, .val (.long i1), .second, .val (.long i2), .second, .val (.long i3), .second, .val (.long i4), .second, .val (.long i5), .second, .val (.long i5), .second, .val (.long (i5 ^^^ i1)), .second, .val (.long (i5 - i2)), .second, .val (.long ((i5 ^^^ (-1 : Int64)) + i3)), .second, .val (.long (i4 ^^^ ((i5.toUInt64 >>> ((1 : Int32) &&& 0x3f).toInt64.toUInt64).toInt64))), .second, .val (.ref b1), .val (.ref b5), .unset] [(.ref b1)])) _
    refine XS.aload X7.here hx rfl (hb hby at_75) rfl rfl ?_
    show Steps p.tables e below (T7.setTop (mkF m 77 #[.val (.long i0), .second, .val (.long i1), .second, .val (.long i2), .second, .val (.long i3), .second, .val (.long i4), .second, .val (.long i5), .second, .val (.long i5), .second, .val (.long (i5 ^^^ i1)), .second, .val (.long (i5 - i2)), .second, .val (.long ((i5 ^^^ (-1 : Int64)) + i3)), .second, .val (.long (i4 ^^^ ((i5.toUInt64 >>> ((1 : Int32) &&& 0x3f).toInt64.toUInt64).toInt64))), .second, .val (.ref b1), .val (.ref b5), .unset] [(.ref b5), (.ref b1)])) _
    refine st14.trans ?_
    show Steps p.tables e below (T14.setTop (mkF m 80 #[.val (.long i0), .second, .val (.long i1), .second, .val (.long i2), .second, .val (.long i3), .second, .val (.long i4), .second, .val (.long i5), .second, .val (.long i5), .second, .val (.long (i5 ^^^ i1)), .second, .val (.long (i5 - i2)), .second, .val (.long ((i5 ^^^ (-1 : Int64)) + i3)), .second, .val (.long (i4 ^^^ ((i5.toUInt64 >>> ((1 : Int32) &&& 0x3f).toInt64.toUInt64).toInt64))), .second, .val (.ref b1), .val (.ref b5), .unset] [(.ref b14)])) _
    refine XS.astore X14.here hx rfl (hb hby at_80) rfl rfl (l' := #[.val (.long i0), .second, .val (.long i1), .second, .val (.long i2), .second, .val (.long i3), .second, .val (.long i4), .second, .val (.long i5), .second, .val (.long i5), .second, .val (.long (i5 ^^^ i1)), .second, .val (.long (i5 - i2)), .second, .val (.long ((i5 ^^^ (-1 : Int64)) + i3)), .second, .val (.long (i4 ^^^ ((i5.toUInt64 >>> ((1 : Int32) &&& 0x3f).toInt64.toUInt64).toInt64))), .second, .val (.ref b1), .val (.ref b5), .val (.ref b14)]) rfl ?_
    show Steps p.tables e below (T14.setTop (mkF m 82 #[.val (.long i0), .second, .val (.long i1), .second, .val (.long i2), .second, .val (.long i3), .second, .val (.long i4), .second, .val (.long i5), .second, .val (.long i5), .second, .val (.long (i5 ^^^ i1)), .second, .val (.long (i5 - i2)), .second, .val (.long ((i5 ^^^ (-1 : Int64)) + i3)), .second, .val (.long (i4 ^^^ ((i5.toUInt64 >>> ((1 : Int32) &&& 0x3f).toInt64.toUInt64).toInt64))), .second, .val (.ref b1), .val (.ref b5), .val (.ref b14)] [])) _
    refine XS.aload X14.here hx rfl (hb hby at_82) rfl rfl ?_
    show Steps p.tables e below (T14.setTop (mkF m 84 #[.val (.long i0), .second, .val (.long i1), .second, .val (.long i2), .second, .val (.long i3), .second, .val (.long i4), .second, .val (.long i5), .second, .val (.long i5), .second, .val (.long (i5 ^^^ i1)), .second, .val (.long (i5 - i2)), .second, .val (.long ((i5 ^^^ (-1 : Int64)) + i3)), .second, .val (.long (i4 ^^^ ((i5.toUInt64 >>> ((1 : Int32) &&& 0x3f).toInt64.toUInt64).toInt64))), .second, .val (.ref b1), .val (.ref b5), .val (.ref b14)] [(.ref b14)])) _
    refine st17.trans ?_
    show Steps p.tables e below (T17.setTop (mkF m 87 #[.val (.long i0), .second, .val (.long i1), .second, .val (.long i2), .second, .val (.long i3), .second, .val (.long i4), .second, .val (.long i5), .second, .val (.long i5), .second, .val (.long (i5 ^^^ i1)), .second, .val (.long (i5 - i2)), .second, .val (.long ((i5 ^^^ (-1 : Int64)) + i3)), .second, .val (.long (i4 ^^^ ((i5.toUInt64 >>> ((1 : Int32) &&& 0x3f).toInt64.toUInt64).toInt64))), .second, .val (.ref b1), .val (.ref b5), .val (.ref b14)] [(.long (i0 + i5))])) _
    refine XS.lloadN X17.here hx rfl (hb hby at_87) rfl ?_
    show Steps p.tables e below (T17.setTop (mkF m 88 #[.val (.long i0), .second, .val (.long i1), .second, .val (.long i2), .second, .val (.long i3), .second, .val (.long i4), .second, .val (.long i5), .second, .val (.long i5), .second, .val (.long (i5 ^^^ i1)), .second, .val (.long (i5 - i2)), .second, .val (.long ((i5 ^^^ (-1 : Int64)) + i3)), .second, .val (.long (i4 ^^^ ((i5.toUInt64 >>> ((1 : Int32) &&& 0x3f).toInt64.toUInt64).toInt64))), .second, .val (.ref b1), .val (.ref b5), .val (.ref b14)] [(.long i0), (.long (i0 + i5))])) _
    refine XS.lload X17.here hx rfl (hb hby at_88) rfl ?_
    show Steps p.tables e below (T17.setTop (mkF m 90 #[.val (.long i0), .second, .val (.long i1), .second, .val (.long i2), .second, .val (.long i3), .second, .val (.long i4), .second, .val (.long i5), .second, .val (.long i5), .second, .val (.long (i5 ^^^ i1)), .second, .val (.long (i5 - i2)), .second, .val (.long ((i5 ^^^ (-1 : Int64)) + i3)), .second, .val (.long (i4 ^^^ ((i5.toUInt64 >>> ((1 : Int32) &&& 0x3f).toInt64.toUInt64).toInt64))), .second, .val (.ref b1), .val (.ref b5), .val (.ref b14)] [(.long i5), (.long i0), (.long (i0 + i5))])) _
    refine XS.ladd X17.here hx rfl (hb hby at_90) rfl ?_
    show Steps p.tables e below (T17.setTop (mkF m 91 #[.val (.long i0), .second, .val (.long i1), .second, .val (.long i2), .second, .val (.long i3), .second, .val (.long i4), .second, .val (.long i5), .second, .val (.long i5), .second, .val (.long (i5 ^^^ i1)), .second, .val (.long (i5 - i2)), .second, .val (.long ((i5 ^^^ (-1 : Int64)) + i3)), .second, .val (.long (i4 ^^^ ((i5.toUInt64 >>> ((1 : Int32) &&& 0x3f).toInt64.toUInt64).toInt64))), .second, .val (.ref b1), .val (.ref b5), .val (.ref b14)] [(.long (i0 + i5)), (.long (i0 + i5))])) _
    refine XS.lcmp X17.here hx rfl (hb hby at_91) rfl ?_
    show Steps p.tables e below (T17.setTop (mkF m 92 #[.val (.long i0), .second, .val (.long i1), .second, .val (.long i2), .second, .val (.long i3), .second, .val (.long i4), .second, .val (.long i5), .second, .val (.long i5), .second, .val (.long (i5 ^^^ i1)), .second, .val (.long (i5 - i2)), .second, .val (.long ((i5 ^^^ (-1 : Int64)) + i3)), .second, .val (.long (i4 ^^^ ((i5.toUInt64 >>> ((1 : Int32) &&& 0x3f).toInt64.toUInt64).toInt64))), .second, .val (.ref b1), .val (.ref b5), .val (.ref b14)] [(.int (lcmpW (i0 + i5) (i0 + i5)))])) _
    refine XS.ifNo X17.here hx rfl (hb hby at_92) rfl ((if0 _ _).trans (teq ((lw_eq _ _).mpr rfl)).2) ?_
    show Steps p.tables e below (T17.setTop (mkF m 95 #[.val (.long i0), .second, .val (.long i1), .second, .val (.long i2), .second, .val (.long i3), .second, .val (.long i4), .second, .val (.long i5), .second, .val (.long i5), .second, .val (.long (i5 ^^^ i1)), .second, .val (.long (i5 - i2)), .second, .val (.long ((i5 ^^^ (-1 : Int64)) + i3)), .second, .val (.long (i4 ^^^ ((i5.toUInt64 >>> ((1 : Int32) &&& 0x3f).toInt64.toUInt64).toInt64))), .second, .val (.ref b1), .val (.ref b5), .val (.ref b14)] [])) _
    refine XS.aload X17.here hx rfl (hb hby at_95) rfl rfl ?_
    show Steps p.tables e below (T17.setTop (mkF m 97 #[.val (.long i0), .second, .val (.long i1), .second, .val (.long i2), .second, .val (.long i3), .second, .val (.long i4), .second, .val (.long i5), .second, .val (.long i5), .second, .val (.long (i5 ^^^ i1)), .second, .val (.long (i5 - i2)), .second, .val (.long ((i5 ^^^ (-1 : Int64)) + i3)), .second, .val (.long (i4 ^^^ ((i5.toUInt64 >>> ((1 : Int32) &&& 0x3f).toInt64.toUInt64).toInt64))), .second, .val (.ref b1), .val (.ref b5), .val (.ref b14)] [(.ref b14)])) _
    refine st18.trans ?_
    show Steps p.tables e below (T18.setTop (mkF m 100 #[.val (.long i0), .second, .val (.long i1), .second, .val (.long i2), .second, .val (.long i3), .second, .val (.long i4), .second, .val (.long i5), .second, .val (.long i5), .second, .val (.long (i5 ^^^ i1)), .second, .val (.long (i5 - i2)), .second, .val (.long ((i5 ^^^ (-1 : Int64)) + i3)), .second, .val (.long (i4 ^^^ ((i5.toUInt64 >>> ((1 : Int32) &&& 0x3f).toInt64.toUInt64).toInt64))), .second, .val (.ref b1), .val (.ref b5), .val (.ref b14)] [(.long (i1 + (i5 ^^^ i1)))])) _
    refine XS.lloadN X18.here hx rfl (hb hby at_100) rfl ?_
    show Steps p.tables e below (T18.setTop (mkF m 101 #[.val (.long i0), .second, .val (.long i1), .second, .val (.long i2), .second, .val (.long i3), .second, .val (.long i4), .second, .val (.long i5), .second, .val (.long i5), .second, .val (.long (i5 ^^^ i1)), .second, .val (.long (i5 - i2)), .second, .val (.long ((i5 ^^^ (-1 : Int64)) + i3)), .second, .val (.long (i4 ^^^ ((i5.toUInt64 >>> ((1 : Int32) &&& 0x3f).toInt64.toUInt64).toInt64))), .second, .val (.ref b1), .val (.ref b5), .val (.ref b14)] [(.long i1), (.long (i1 + (i5 ^^^ i1)))])) _
    refine XS.lload X18.here hx rfl (hb hby at_101) rfl ?_
    show Steps p.tables e below (T18.setTop (mkF m 103 #[.val (.long i0), .second, .val (.long i1), .second, .val (.long i2), .second, .val (.long i3), .second, .val (.long i4), .second, .val (.long i5), .second, .val (.long i5), .second, .val (.long (i5 ^^^ i1)), .second, .val (.long (i5 - i2)), .second, .val (.long ((i5 ^^^ (-1 : Int64)) + i3)), .second, .val (.long (i4 ^^^ ((i5.toUInt64 >>> ((1 : Int32) &&& 0x3f).toInt64.toUInt64).toInt64))), .second, .val (.ref b1), .val (.ref b5), .val (.ref b14)] [(.long (i5 ^^^ i1)), (.long i1), (.long (i1 + (i5 ^^^ i1)))])) _
    refine XS.ladd X18.here hx rfl (hb hby at_103) rfl ?_
    show Steps p.tables e below (T18.setTop (mkF m 104 #[.val (.long i0), .second, .val (.long i1), .second, .val (.long i2), .second, .val (.long i3), .second, .val (.long i4), .second, .val (.long i5), .second, .val (.long i5), .second, .val (.long (i5 ^^^ i1)), .second, .val (.long (i5 - i2)), .second, .val (.long ((i5 ^^^ (-1 : Int64)) + i3)), .second, .val (.long (i4 ^^^ ((i5.toUInt64 >>> ((1 : Int32) &&& 0x3f).toInt64.toUInt64).toInt64))), .second, .val (.ref b1), .val (.ref b5), .val (.ref b14)] [(.long (i1 + (i5 ^^^ i1))), (.long (i1 + (i5 ^^^ i1)))])) _
    refine XS.lcmp X18.here hx rfl (hb hby at_104) rfl ?_
    show Steps p.tables e below (T18.setTop (mkF m 105 #[.val (.long i0), .second, .val (.long i1), .second, .val (.long i2), .second, .val (.long i3), .second, .val (.long i4), .second, .val (.long i5), .second, .val (.long i5), .second, .val (.long (i5 ^^^ i1)), .second, .val (.long (i5 - i2)), .second, .val (.long ((i5 ^^^ (-1 : Int64)) + i3)), .second, .val (.long (i4 ^^^ ((i5.toUInt64 >>> ((1 : Int32) &&& 0x3f).toInt64.toUInt64).toInt64))), .second, .val (.ref b1), .val (.ref b5), .val (.ref b14)] [(.int (lcmpW (i1 + (i5 ^^^ i1)) (i1 + (i5 ^^^ i1))))])) _
    refine XS.ifNo X18.here hx rfl (hb hby at_105) rfl ((if0 _ _).trans (teq ((lw_eq _ _).mpr rfl)).2) ?_
    show Steps p.tables e below (T18.setTop (mkF m 108 #[.val (.long i0), .second, .val (.long i1), .second, .val (.long i2), .second, .val (.long i3), .second, .val (.long i4), .second, .val (.long i5), .second, .val (.long i5), .second, .val (.long (i5 ^^^ i1)), .second, .val (.long (i5 - i2)), .second, .val (.long ((i5 ^^^ (-1 : Int64)) + i3)), .second, .val (.long (i4 ^^^ ((i5.toUInt64 >>> ((1 : Int32) &&& 0x3f).toInt64.toUInt64).toInt64))), .second, .val (.ref b1), .val (.ref b5), .val (.ref b14)] [])) _
    refine XS.aload X18.here hx rfl (hb hby at_108) rfl rfl ?_
    show Steps p.tables e below (T18.setTop (mkF m 110 #[.val (.long i0), .second, .val (.long i1), .second, .val (.long i2), .second, .val (.long i3), .second, .val (.long i4), .second, .val (.long i5), .second, .val (.long i5), .second, .val (.long (i5 ^^^ i1)), .second, .val (.long (i5 - i2)), .second, .val (.long ((i5 ^^^ (-1 : Int64)) + i3)), .second, .val (.long (i4 ^^^ ((i5.toUInt64 >>> ((1 : Int32) &&& 0x3f).toInt64.toUInt64).toInt64))), .second, .val (.ref b1), .val (.ref b5), .val (.ref b14)] [(.ref b14)])) _
    refine st19.trans ?_
    show Steps p.tables e below (T19.setTop (mkF m 113 #[.val (.long i0), .second, .val (.long i1), .second, .val (.long i2), .second, .val (.long i3), .second, .val (.long i4), .second, .val (.long i5), .second, .val (.long i5), .second, .val (.long (i5 ^^^ i1)), .second, .val (.long (i5 - i2)), .second, .val (.long ((i5 ^^^ (-1 : Int64)) + i3)), .second, .val (.long (i4 ^^^ ((i5.toUInt64 >>> ((1 : Int32) &&& 0x3f).toInt64.toUInt64).toInt64))), .second, .val (.ref b1), .val (.ref b5), .val (.ref b14)] [(.long (i2 + (i5 - i2)))])) _
    refine XS.lload X19.here hx rfl (hb hby at_113) rfl ?_
    show Steps p.tables e below (T19.setTop (mkF m 115 #[.val (.long i0), .second, .val (.long i1), .second, .val (.long i2), .second, .val (.long i3), .second, .val (.long i4), .second, .val (.long i5), .second, .val (.long i5), .second, .val (.long (i5 ^^^ i1)), .second, .val (.long (i5 - i2)), .second, .val (.long ((i5 ^^^ (-1 : Int64)) + i3)), .second, .val (.long (i4 ^^^ ((i5.toUInt64 >>> ((1 : Int32) &&& 0x3f).toInt64.toUInt64).toInt64))), .second, .val (.ref b1), .val (.ref b5), .val (.ref b14)] [(.long i2), (.long (i2 + (i5 - i2)))])) _
    refine XS.lload X19.here hx rfl (hb hby at_115) rfl ?_
    show Steps p.tables e below (T19.setTop (mkF m 117 #[.val (.long i0), .second, .val (.long i1), .second, .val (.long i2), .second, .val (.long i3), .second, .val (.long i4), .second, .val (.long i5), .second, .val (.long i5), .second, .val (.long (i5 ^^^ i1)), .second, .val (.long (i5 - i2)), .second, .val (.long ((i5 ^^^ (-1 : Int64)) + i3)), .second, .val (.long (i4 ^^^ ((i5.toUInt64 >>> ((1 : Int32) &&& 0x3f).toInt64.toUInt64).toInt64))), .second, .val (.ref b1), .val (.ref b5), .val (.ref b14)] [(.long (i5 - i2)), (.long i2), (.long (i2 + (i5 - i2)))])) _
    refine XS.ladd X19.here hx rfl (hb hby at_117) rfl ?_
    show Steps p.tables e below (T19.setTop (mkF m 118 #[.val (.long i0), .second, .val (.long i1), .second, .val (.long i2), .second, .val (.long i3), .second, .val (.long i4), .second, .val (.long i5), .second, .val (.long i5), .second, .val (.long (i5 ^^^ i1)), .second, .val (.long (i5 - i2)), .second, .val (.long ((i5 ^^^ (-1 : Int64)) + i3)), .second, .val (.long (i4 ^^^ ((i5.toUInt64 >>> ((1 : Int32) &&& 0x3f).toInt64.toUInt64).toInt64))), .second, .val (.ref b1), .val (.ref b5), .val (.ref b14)] [(.long (i2 + (i5 - i2))), (.long (i2 + (i5 - i2)))])) _
    refine XS.lcmp X19.here hx rfl (hb hby at_118) rfl ?_
    show Steps p.tables e below (T19.setTop (mkF m 119 #[.val (.long i0), .second, .val (.long i1), .second, .val (.long i2), .second, .val (.long i3), .second, .val (.long i4), .second, .val (.long i5), .second, .val (.long i5), .second, .val (.long (i5 ^^^ i1)), .second, .val (.long (i5 - i2)), .second, .val (.long ((i5 ^^^ (-1 : Int64)) + i3)), .second, .val (.long (i4 ^^^ ((i5.toUInt64 >>> ((1 : Int32) &&& 0x3f).toInt64.toUInt64).toInt64))), .second, .val (.ref b1), .val (.ref b5), .val (.ref b14)] [(.int (lcmpW (i2 + (i5 - i2)) (i2 + (i5 - i2))))])) _
    refine XS.ifNo X19.here hx rfl (hb hby at_119) rfl ((if0 _ _).trans (teq ((lw_eq _ _).mpr rfl)).2) ?_
    show Steps p.tables e below (T19.setTop (mkF m 122 #[.val (.long i0), .second, .val (.long i1), .second, .val (.long i2), .second, .val (.long i3), .second, .val (.long i4), .second, .val (.long i5), .second, .val (.long i5), .second, .val (.long (i5 ^^^ i1)), .second, .val (.long (i5 - i2)), .second, .val (.long ((i5 ^^^ (-1 : Int64)) + i3)), .second, .val (.long (i4 ^^^ ((i5.toUInt64 >>> ((1 : Int32) &&& 0x3f).toInt64.toUInt64).toInt64))), .second, .val (.ref b1), .val (.ref b5), .val (.ref b14)] [])) _
    refine XS.aload X19.here hx rfl (hb hby at_122) rfl rfl ?_
    show Steps p.tables e below (T19.setTop (mkF m 124 #[.val (.long i0), .second, .val (.long i1), .second, .val (.long i2), .second, .val (.long i3), .second, .val (.long i4), .second, .val (.long i5), .second, .val (.long i5), .second, .val (.long (i5 ^^^ i1)), .second, .val (.long (i5 - i2)), .second, .val (.long ((i5 ^^^ (-1 : Int64)) + i3)), .second, .val (.long (i4 ^^^ ((i5.toUInt64 >>> ((1 : Int32) &&& 0x3f).toInt64.toUInt64).toInt64))), .second, .val (.ref b1), .val (.ref b5), .val (.ref b14)] [(.ref b14)])) _
    refine st20.trans ?_
    show Steps p.tables e below (T20.setTop (mkF m 127 #[.val (.long i0), .second, .val (.long i1), .second, .val (.long i2), .second, .val (.long i3), .second, .val (.long i4), .second, .val (.long i5), .second, .val (.long i5), .second, .val (.long (i5 ^^^ i1)), .second, .val (.long (i5 - i2)), .second, .val (.long ((i5 ^^^ (-1 : Int64)) + i3)), .second, .val (.long (i4 ^^^ ((i5.toUInt64 >>> ((1 : Int32) &&& 0x3f).toInt64.toUInt64).toInt64))), .second, .val (.ref b1), .val (.ref b5), .val (.ref b14)] [(.long (i3 + ((i5 ^^^ (-1 : Int64)) + i3)))])) _
    refine XS.lload X20.here hx rfl (hb hby at_127) rfl ?_
    show Steps p.tables e below (T20.setTop (mkF m 129 #[.val (.long i0), .second, .val (.long i1), .second, .val (.long i2), .second, .val (.long i3), .second, .val (.long i4), .second, .val (.long i5), .second, .val (.long i5), .second, .val (.long (i5 ^^^ i1)), .second, .val (.long (i5 - i2)), .second, .val (.long ((i5 ^^^ (-1 : Int64)) + i3)), .second, .val (.long (i4 ^^^ ((i5.toUInt64 >>> ((1 : Int32) &&& 0x3f).toInt64.toUInt64).toInt64))), .second, .val (.ref b1), .val (.ref b5), .val (.ref b14)] [(.long i3), (.long (i3 + ((i5 ^^^ (-1 : Int64)) + i3)))])) _
    refine XS.lload X20.here hx rfl (hb hby at_129) rfl ?_
    show Steps p.tables e below (T20.setTop (mkF m 131 #[.val (.long i0), .second, .val (.long i1), .second, .val (.long i2), .second, .val (.long i3), .second, .val (.long i4), .second, .val (.long i5), .second, .val (.long i5), .second, .val (.long (i5 ^^^ i1)), .second, .val (.long (i5 - i2)), .second, .val (.long ((i5 ^^^ (-1 : Int64)) + i3)), .second, .val (.long (i4 ^^^ ((i5.toUInt64 >>> ((1 : Int32) &&& 0x3f).toInt64.toUInt64).toInt64))), .second, .val (.ref b1), .val (.ref b5), .val (.ref b14)] [(.long ((i5 ^^^ (-1 : Int64)) + i3)), (.long i3), (.long (i3 + ((i5 ^^^ (-1 : Int64)) + i3)))])) _
    refine XS.ladd X20.here hx rfl (hb hby at_131) rfl ?_
    show Steps p.tables e below (T20.setTop (mkF m 132 #[.val (.long i0), .second, .val (.long i1), .second, .val (.long i2), .second, .val (.long i3), .second, .val (.long i4), .second, .val (.long i5), .second, .val (.long i5), .second, .val (.long (i5 ^^^ i1)), .second, .val (.long (i5 - i2)), .second, .val (.long ((i5 ^^^ (-1 : Int64)) + i3)), .second, .val (.long (i4 ^^^ ((i5.toUInt64 >>> ((1 : Int32) &&& 0x3f).toInt64.toUInt64).toInt64))), .second, .val (.ref b1), .val (.ref b5), .val (.ref b14)] [(.long (i3 + ((i5 ^^^ (-1 : Int64)) + i3))), (.long (i3 + ((i5 ^^^ (-1 : Int64)) + i3)))])) _
    refine XS.lcmp X20.here hx rfl (hb hby at_132) rfl ?_
    show Steps p.tables e below (T20.setTop (mkF m 133 #[.val (.long i0), .second, .val (.long i1), .second, .val (.long i2), .second, .val (.long i3), .second, .val (.long i4), .second, .val (.long i5), .second, .val (.long i5), .second, .val (.long (i5 ^^^ i1)), .second, .val (.long (i5 - i2)), .second, .val (.long ((i5 ^^^ (-1 : Int64)) + i3)), .second, .val (.long (i4 ^^^ ((i5.toUInt64 >>> ((1 : Int32) &&& 0x3f).toInt64.toUInt64).toInt64))), .second, .val (.ref b1), .val (.ref b5), .val (.ref b14)] [(.int (lcmpW (i3 + ((i5 ^^^ (-1 : Int64)) + i3)) (i3 + ((i5 ^^^ (-1 : Int64)) + i3))))])) _
    refine XS.ifNo X20.here hx rfl (hb hby at_133) rfl ((if0 _ _).trans (teq ((lw_eq _ _).mpr rfl)).2) ?_
    show Steps p.tables e below (T20.setTop (mkF m 136 #[.val (.long i0), .second, .val (.long i1), .second, .val (.long i2), .second, .val (.long i3), .second, .val (.long i4), .second, .val (.long i5), .second, .val (.long i5), .second, .val (.long (i5 ^^^ i1)), .second, .val (.long (i5 - i2)), .second, .val (.long ((i5 ^^^ (-1 : Int64)) + i3)), .second, .val (.long (i4 ^^^ ((i5.toUInt64 >>> ((1 : Int32) &&& 0x3f).toInt64.toUInt64).toInt64))), .second, .val (.ref b1), .val (.ref b5), .val (.ref b14)] [])) _
    refine XS.aload X20.here hx rfl (hb hby at_136) rfl rfl ?_
    show Steps p.tables e below (T20.setTop (mkF m 138 #[.val (.long i0), .second, .val (.long i1), .second, .val (.long i2), .second, .val (.long i3), .second, .val (.long i4), .second, .val (.long i5), .second, .val (.long i5), .second, .val (.long (i5 ^^^ i1)), .second, .val (.long (i5 - i2)), .second, .val (.long ((i5 ^^^ (-1 : Int64)) + i3)), .second, .val (.long (i4 ^^^ ((i5.toUInt64 >>> ((1 : Int32) &&& 0x3f).toInt64.toUInt64).toInt64))), .second, .val (.ref b1), .val (.ref b5), .val (.ref b14)] [(.ref b14)])) _
    refine st21.trans ?_
    show Steps p.tables e below (T21.setTop (mkF m 141 #[.val (.long i0), .second, .val (.long i1), .second, .val (.long i2), .second, .val (.long i3), .second, .val (.long i4), .second, .val (.long i5), .second, .val (.long i5), .second, .val (.long (i5 ^^^ i1)), .second, .val (.long (i5 - i2)), .second, .val (.long ((i5 ^^^ (-1 : Int64)) + i3)), .second, .val (.long (i4 ^^^ ((i5.toUInt64 >>> ((1 : Int32) &&& 0x3f).toInt64.toUInt64).toInt64))), .second, .val (.ref b1), .val (.ref b5), .val (.ref b14)] [(.long (i4 + (i4 ^^^ ((i5.toUInt64 >>> ((1 : Int32) &&& 0x3f).toInt64.toUInt64).toInt64))))])) _
    refine XS.lload X21.here hx rfl (hb hby at_141) rfl ?_
    show Steps p.tables e below (T21.setTop (mkF m 143 #[.val (.long i0), .second, .val (.long i1), .second, .val (.long i2), .second, .val (.long i3), .second, .val (.long i4), .second, .val (.long i5), .second, .val (.long i5), .second, .val (.long (i5 ^^^ i1)), .second, .val (.long (i5 - i2)), .second, .val (.long ((i5 ^^^ (-1 : Int64)) + i3)), .second, .val (.long (i4 ^^^ ((i5.toUInt64 >>> ((1 : Int32) &&& 0x3f).toInt64.toUInt64).toInt64))), .second, .val (.ref b1), .val (.ref b5), .val (.ref b14)] [(.long i4), (.long (i4 + (i4 ^^^ ((i5.toUInt64 >>> ((1 : Int32) &&& 0x3f).toInt64.toUInt64).toInt64))))])) _
    refine XS.lload X21.here hx rfl (hb hby at_143) rfl ?_
    show Steps p.tables e below (T21.setTop (mkF m 145 #[.val (.long i0), .second, .val (.long i1), .second, .val (.long i2), .second, .val (.long i3), .second, .val (.long i4), .second, .val (.long i5), .second, .val (.long i5), .second, .val (.long (i5 ^^^ i1)), .second, .val (.long (i5 - i2)), .second, .val (.long ((i5 ^^^ (-1 : Int64)) + i3)), .second, .val (.long (i4 ^^^ ((i5.toUInt64 >>> ((1 : Int32) &&& 0x3f).toInt64.toUInt64).toInt64))), .second, .val (.ref b1), .val (.ref b5), .val (.ref b14)] [(.long (i4 ^^^ ((i5.toUInt64 >>> ((1 : Int32) &&& 0x3f).toInt64.toUInt64).toInt64))), (.long i4), (.long (i4 + (i4 ^^^ ((i5.toUInt64 >>> ((1 : Int32) &&& 0x3f).toInt64.toUInt64).toInt64))))])) _
    refine XS.ladd X21.here hx rfl (hb hby at_145) rfl ?_
    show Steps p.tables e below (T21.setTop (mkF m 146 #[.val (.long i0), .second, .val (.long i1), .second, .val (.long i2), .second, .val (.long i3), .second, .val (.long i4), .second, .val (.long i5), .second, .val (.long i5), .second, .val (.long (i5 ^^^ i1)), .second, .val (.long (i5 - i2)), .second, .val (.long ((i5 ^^^ (-1 : Int64)) + i3)), .second, .val (.long (i4 ^^^ ((i5.toUInt64 >>> ((1 : Int32) &&& 0x3f).toInt64.toUInt64).toInt64))), .second, .val (.ref b1), .val (.ref b5), .val (.ref b14)] [(.long (i4 + (i4 ^^^ ((i5.toUInt64 >>> ((1 : Int32) &&& 0x3f).toInt64.toUInt64).toInt64)))), (.long (i4 + (i4 ^^^ ((i5.toUInt64 >>> ((1 : Int32) &&& 0x3f).toInt64.toUInt64).toInt64))))])) _
    refine XS.lcmp X21.here hx rfl (hb hby at_146) rfl ?_
    show Steps p.tables e below (T21.setTop (mkF m 147 #[.val (.long i0), .second, .val (.long i1), .second, .val (.long i2), .second, .val (.long i3), .second, .val (.long i4), .second, .val (.long i5), .second, .val (.long i5), .second, .val (.long (i5 ^^^ i1)), .second, .val (.long (i5 - i2)), .second, .val (.long ((i5 ^^^ (-1 : Int64)) + i3)), .second, .val (.long (i4 ^^^ ((i5.toUInt64 >>> ((1 : Int32) &&& 0x3f).toInt64.toUInt64).toInt64))), .second, .val (.ref b1), .val (.ref b5), .val (.ref b14)] [(.int (lcmpW (i4 + (i4 ^^^ ((i5.toUInt64 >>> ((1 : Int32) &&& 0x3f).toInt64.toUInt64).toInt64))) (i4 + (i4 ^^^ ((i5.toUInt64 >>> ((1 : Int32) &&& 0x3f).toInt64.toUInt64).toInt64)))))])) _
    refine XS.ifNo X21.here hx rfl (hb hby at_147) rfl ((if0 _ _).trans (teq ((lw_eq _ _).mpr rfl)).2) ?_
    show Steps p.tables e below (T21.setTop (mkF m 150 #[.val (.long i0), .second, .val (.long i1), .second, .val (.long i2), .second, .val (.long i3), .second, .val (.long i4), .second, .val (.long i5), .second, .val (.long i5), .second, .val (.long (i5 ^^^ i1)), .second, .val (.long (i5 - i2)), .second, .val (.long ((i5 ^^^ (-1 : Int64)) + i3)), .second, .val (.long (i4 ^^^ ((i5.toUInt64 >>> ((1 : Int32) &&& 0x3f).toInt64.toUInt64).toInt64))), .second, .val (.ref b1), .val (.ref b5), .val (.ref b14)] [])) _
    refine XS.iconst X21.here hx rfl (hb hby at_150) ?_
    show Steps p.tables e below (T21.setTop (mkF m 151 #[.val (.long i0), .second, .val (.long i1), .second, .val (.long i2), .second, .val (.long i3), .second, .val (.long i4), .second, .val (.long i5), .second, .val (.long i5), .second, .val (.long (i5 ^^^ i1)), .second, .val (.long (i5 - i2)), .second, .val (.long ((i5 ^^^ (-1 : Int64)) + i3)), .second, .val (.long (i4 ^^^ ((i5.toUInt64 >>> ((1 : Int32) &&& 0x3f).toInt64.toUInt64).toInt64))), .second, .val (.ref b1), .val (.ref b5), .val (.ref b14)] [(.int (1 : Int32))])) _
    refine XS.goto X21.here hx rfl (pc0 := 151) (pc' := 155) rfl (hb hby at_151) (by decide) (by decide) ?_
    show Steps p.tables e below (T21.setTop (mkF m 155 #[.val (.long i0), .second, .val (.long i1), .second, .val (.long i2), .second, .val (.long i3), .second, .val (.long i4), .second, .val (.long i5), .second, .val (.long i5), .second, .val (.long (i5 ^^^ i1)), .second, .val (.long (i5 - i2)), .second, .val (.long ((i5 ^^^ (-1 : Int64)) + i3)), .second, .val (.long (i4 ^^^ ((i5.toUInt64 >>> ((1 : Int32) &&& 0x3f).toInt64.toUInt64).toInt64))), .second, .val (.ref b1), .val (.ref b5), .val (.ref b14)] [(.int (1 : Int32))])) _
    exact retN X21 hx (t := .boolean) Bd.returns (by simp) (hb hby at_155) hr
  · show QL n0 _ T21.heap _
    rw [hh21]
    exact ⟨rfl, N21⟩
set_option maxRecDepth 65536 in
set_option maxHeartbeats 40000000 in
theorem comes_1 {Post : Tables → Env → Array Value → State → Outcome → State → Prop} (hpost : ∀ tb e args s v u, (limb_1_1.after args s (.returned v) u = true ∧ limb_1_2.after args s (.returned v) u = true ∧ True) → FrameEnd s (.returned v) u (Jvm.fieldLocs frame_1_writes args s ++ Jvm.arrayLocs frame_1_arrays args s ++ Jvm.staticLocs frame_1_statics s) 16 128 → Post tb e args s (.returned v) u) :
    ArmFor flags0 classFile x code maxLocals ret World_1 tables_1 room_1 Calls_1 rest_1 Pre_1 Post := by
  intro l hfl _ _ p e ha hc hk s m args below hf hA hF happ hP
  obtain ⟨hcalls, hrest, hpre⟩ := hP
  obtain ⟨-, -, -, hnamed, -, -, -, hat⟩ := (Spec.applies_iff hf).mp happ
  obtain ⟨hg, hn⟩ := and_e (Cond.before_iff.mp (show (Jvm.Cond.and given_1 narrow_1).before args s = true from hpre))
  obtain ⟨g0, r0⟩ := and_e hg
  obtain ⟨g1, r1⟩ := and_e r0
  obtain ⟨g2, r2⟩ := and_e r1
  obtain ⟨g3, r3⟩ := and_e r2
  obtain ⟨g4, r4⟩ := and_e r3
  obtain ⟨g5, r5⟩ := and_e r4
  obtain ⟨w0, w1, w2, w3, w4, w5, rfl⟩ : ∃ w0 w1 w2 w3 w4 w5 : Value, args = #[w0, w1, w2, w3, w4, w5] := by
    have hs : args.size = 6 := by simpa [Cond.value, given_1] using g0
    obtain ⟨L⟩ := args
    match L, hs with
    | [w0, w1, w2, w3, w4, w5], _ => exact ⟨w0, w1, w2, w3, w4, w5, rfl⟩
  have hw := fun d (hd : d ∈ tables_1) => atoms_spec (ws := Jvm.Cond.code x code maxLocals ret :: tables_1) hat d (List.mem_cons_of_mem _ hd)
  have hfit : Fit s := fun {y c} hc i hi => by
    obtain ⟨ha, rfl⟩ := Array.getElem?_eq_some_iff.mp hc
    have q := List.all_eq_true.mp ((Array.all_eq_true_iff_forall_mem.mp hF) _ (Array.getElem_mem ha)) i (List.mem_range.mpr hi)
    simpa [Array.getElem?_eq_getElem hi] using q
  obtain ⟨i0, ei0⟩ := isL_v g1
  obtain rfl : w0 = (.long i0) := Option.some.inj ei0
  obtain ⟨i1, ei1⟩ := isL_v g2
  obtain rfl : w1 = (.long i1) := Option.some.inj ei1
  obtain ⟨i2, ei2⟩ := isL_v g3
  obtain rfl : w2 = (.long i2) := Option.some.inj ei2
  obtain ⟨i3, ei3⟩ := isL_v g4
  obtain rfl : w3 = (.long i3) := Option.some.inj ei3
  obtain ⟨i4, ei4⟩ := isL_v g5
  obtain rfl : w4 = (.long i4) := Option.some.inj ei4
  obtain ⟨i5, ei5⟩ := isL_v r5
  obtain rfl : w5 = (.long i5) := Option.some.inj ei5
  obtain ⟨n, o, h1, h2, h3, _, L, rfl, ⟨rfl, N⟩, hq⟩ := rm0 l s _ hw tables_1 i0 i1 i2 i3 i4 i5 s.heap s.heap.size (Old.start s) p e ha hc hk s m _ below hf ((Spec.applies_iff_loose hf).mp happ).1 ⟨rfl, State.Warmed39.refl s, rfl⟩ trivial
  refine ⟨n, _, h1, h2, h3, hpost _ _ _ _ _ _ ⟨Cond.after_iff.mpr rfl, Cond.after_iff.mpr (eq_i res_at (Term.int_eval (1)) rfl), trivial⟩ ⟨hq.1, hq.2.1, (hq.2.2.sift fun y hy => Or.inr (N y hy)).mono (by decide) (by decide)⟩⟩
theorem main_1_1 : Claimed_1_1 := comes_1 fun _ _ _ _ _ _ h hF => ⟨h.1, hF⟩
theorem main_1_2 : Claimed_1_2 := comes_1 fun _ _ _ _ _ _ h hF => ⟨h.2.1, hF⟩
end Jvm.Pilot.@@N@@
namespace Jvm.Pilot.@@N@@
open Jvm Jvm.ClassFile Sem Op Lib Jvm.Free Jvm.Stand Jvm.Pilot.@@N@@.Jvm.D
/-! MADE BY PROGRAM (witnessworld.py) out of the Statement's table words and the real class files: 9 classes; the members and pool entries that the words name. The judged class is class 1, her method 1. -/
namespace start1
open Jvm.ClassFile
def u (s : String) : CpInfo := .utf8 (stringToUtf16 s)
/-- a pool by its gaps: so many unusable entries, then the entry; so many at the end -/
def gap : Nat → List CpInfo → List CpInfo
  | 0, r => r
  | n + 1, r => .unusable :: gap n r
def poolList (es : List (Nat × CpInfo)) (last : Nat) : List CpInfo := es.foldr (fun e r => gap e.1 (e.2 :: r)) (gap last [])
def pool (es : List (Nat × CpInfo)) (last : Nat) : Array CpInfo := ⟨poolList es last⟩
def fileOf (pool : Array CpInfo) (this : Nat) (attrs : Array Attribute := #[]) (ms : Array MethodInfo := #[]) (fl : Nat := 33) (sup : Nat := 0) (ifs : Array Nat := #[]) (fds : Array FieldInfo := #[]) : ClassFile where
  minorVersion := 0
  majorVersion := 65
  constantPool := pool
  accessFlags := fl
  thisClass := this
  superClass := sup
  interfaces := ifs
  fields := fds
  methods := ms
  attributes := attrs
def plain (name : String) (sup : Option ClassId) : Class where
  name := name
  kind := .ordinary
  loader := none
  accessFlags := 33
  super := sup
  interfaces := #[]
  cf := none
  fields := #[]
  methods := #[]
  instanceTypes := #[]
  staticTypes := #[]
  resolved := #[]
  callSites := []
  init := .initialized
  statics := none
  mirror := none

def pool0 : Array CpInfo := pool [(5, u "<init>"), (0, u "()V"), (1, .class_ 10), (1, u "java/lang/Object")] 113

def k0c0 : Code := { maxStack := 0, maxLocals := 1, code := object_method_1_code, exceptionTable := #[], attributes := #[] }
def k0m0 : Method := { name := "<init>", desc := "()V", sig := { parameters := [], returnType := none }, accessFlags := 1, code := some k0c0 }
/-- java/lang/Object -/
def k0 : Class := { plain "java/lang/Object" none with
  accessFlags := 33
  interfaces := #[]
  cf := some (fileOf pool0 8 #[] #[{ accessFlags := 1, nameIndex := 5, descriptorIndex := 6, attributes := #[] }] 33 0 #[] #[])
  fields := #[]
  methods := #[k0m0]
  instanceTypes := #[]
  staticTypes := #[]
  resolved := Array.replicate 124 none
  statics := none }

def pool1 : Array CpInfo := pool [(2, .class_ 4), (1, u "java/lang/Object"), (0, u "<init>"), (0, u "()V"), (0, .long 18446744073709551615), (1, .class_ 10), (0, u "com/example/abir/abir/RowCounts"), (0, .methodref 9 12), (0, .nameAndType 5 13), (0, u "(JJJJJ)V"), (0, .methodref 9 15), (0, .nameAndType 16 17), (0, u "plus"), (0, u "(Lcom/example/abir/abir/RowCounts;)Lcom/example/abir/abir/RowCounts;"), (0, .methodref 9 19), (0, .nameAndType 20 21), (0, u "processed"), (0, u "()J"), (0, .methodref 9 23), (0, .nameAndType 24 21), (0, u "inserted"), (0, .methodref 9 26), (0, .nameAndType 27 21), (0, u "updated"), (0, .methodref 9 29), (0, .nameAndType 30 21), (0, u "unchanged"), (0, .methodref 9 32), (0, .nameAndType 33 21), (0, u "errorRows"), (0, .class_ 35), (0, u "com/example/abir/abir/RowCountsPlusPinLaw"), (2, u "law"), (0, u "(JJJJJJ)Z")] 3

def k1m0 : Method := { name := "<init>", desc := "()V", sig := { parameters := [], returnType := none }, accessFlags := 1, code := none }
def k1c1 : Code := { maxStack := 12, maxLocals := 25, code := code, exceptionTable := #[], attributes := #[] }
def k1m1 : Method := { name := "law", desc := "(JJJJJJ)Z", sig := { parameters := [.long, .long, .long, .long, .long, .long], returnType := some .boolean }, accessFlags := 9, code := some k1c1 }
/-- com/example/abir/abir/RowCountsPlusPinLaw -/
def k1 : Class := { plain "com/example/abir/abir/RowCountsPlusPinLaw" (some 0) with
  accessFlags := 49
  interfaces := #[]
  cf := some (fileOf pool1 34 #[] #[{ accessFlags := 1, nameIndex := 5, descriptorIndex := 6, attributes := #[] }, { accessFlags := 9, nameIndex := 38, descriptorIndex := 39, attributes := #[] }] 49 2 #[] #[])
  fields := #[]
  methods := #[k1m0, k1m1]
  instanceTypes := #[]
  staticTypes := #[]
  resolved := Array.replicate 43 none
  statics := none }

def pool2 : Array CpInfo := pool [(1, .methodref 2 3), (0, .class_ 4), (0, .nameAndType 5 6), (0, u "java/lang/Object"), (0, u "<init>"), (0, u "()V"), (0, .fieldref 8 9), (0, .class_ 10), (0, .nameAndType 11 12), (0, u "com/example/abir/abir/RowCounts"), (0, u "processed"), (0, u "J"), (0, .fieldref 8 14), (0, .nameAndType 15 12), (0, u "inserted"), (0, .fieldref 8 17), (0, .nameAndType 18 12), (0, u "updated"), (0, .fieldref 8 20), (0, .nameAndType 21 12), (0, u "unchanged"), (0, .fieldref 8 23), (0, .nameAndType 24 12), (0, u "errorRows"), (0, .methodref 8 26), (0, .nameAndType 5 27), (0, u "(JJJJJ)V"), (2, u "NONE"), (0, u "Lcom/example/abir/abir/RowCounts;"), (2, u "plus"), (0, u "(Lcom/example/abir/abir/RowCounts;)Lcom/example/abir/abir/RowCounts;"), (0, u "()J")] 3

def k2c0 : Code := { maxStack := 3, maxLocals := 11, code := prog_15_method_1_code, exceptionTable := #[], attributes := #[] }
def k2m0 : Method := { name := "<init>", desc := "(JJJJJ)V", sig := { parameters := [.long, .long, .long, .long, .long], returnType := none }, accessFlags := 0, code := some k2c0 }
def k2c1 : Code := { maxStack := 14, maxLocals := 2, code := prog_15_method_2_code, exceptionTable := #[], attributes := #[] }
def k2m1 : Method := { name := "plus", desc := "(Lcom/example/abir/abir/RowCounts;)Lcom/example/abir/abir/RowCounts;", sig := { parameters := [(.object "com/example/abir/abir/RowCounts")], returnType := some (.object "com/example/abir/abir/RowCounts") }, accessFlags := 0, code := some k2c1 }
def k2c2 : Code := { maxStack := 2, maxLocals := 1, code := prog_15_method_3_code, exceptionTable := #[], attributes := #[] }
def k2m2 : Method := { name := "processed", desc := "()J", sig := { parameters := [], returnType := some .long }, accessFlags := 0, code := some k2c2 }
def k2c3 : Code := { maxStack := 2, maxLocals := 1, code := prog_15_method_4_code, exceptionTable := #[], attributes := #[] }
def k2m3 : Method := { name := "inserted", desc := "()J", sig := { parameters := [], returnType := some .long }, accessFlags := 0, code := some k2c3 }
def k2c4 : Code := { maxStack := 2, maxLocals := 1, code := prog_15_method_5_code, exceptionTable := #[], attributes := #[] }
def k2m4 : Method := { name := "updated", desc := "()J", sig := { parameters := [], returnType := some .long }, accessFlags := 0, code := some k2c4 }
def k2c5 : Code := { maxStack := 2, maxLocals := 1, code := prog_15_method_6_code, exceptionTable := #[], attributes := #[] }
def k2m5 : Method := { name := "unchanged", desc := "()J", sig := { parameters := [], returnType := some .long }, accessFlags := 0, code := some k2c5 }
def k2c6 : Code := { maxStack := 2, maxLocals := 1, code := prog_15_method_7_code, exceptionTable := #[], attributes := #[] }
def k2m6 : Method := { name := "errorRows", desc := "()J", sig := { parameters := [], returnType := some .long }, accessFlags := 0, code := some k2c6 }
/-- com/example/abir/abir/RowCounts -/
def k2 : Class := { plain "com/example/abir/abir/RowCounts" (some 0) with
  accessFlags := 48
  interfaces := #[]
  cf := some (fileOf pool2 8 #[] #[{ accessFlags := 0, nameIndex := 5, descriptorIndex := 27, attributes := #[] }, { accessFlags := 0, nameIndex := 34, descriptorIndex := 35, attributes := #[] }, { accessFlags := 0, nameIndex := 11, descriptorIndex := 36, attributes := #[] }, { accessFlags := 0, nameIndex := 15, descriptorIndex := 36, attributes := #[] }, { accessFlags := 0, nameIndex := 18, descriptorIndex := 36, attributes := #[] }, { accessFlags := 0, nameIndex := 21, descriptorIndex := 36, attributes := #[] }, { accessFlags := 0, nameIndex := 24, descriptorIndex := 36, attributes := #[] }] 48 2 #[] #[{ accessFlags := 24, nameIndex := 30, descriptorIndex := 31, attributes := #[] }, { accessFlags := 18, nameIndex := 11, descriptorIndex := 12, attributes := #[] }, { accessFlags := 18, nameIndex := 15, descriptorIndex := 12, attributes := #[] }, { accessFlags := 18, nameIndex := 18, descriptorIndex := 12, attributes := #[] }, { accessFlags := 18, nameIndex := 21, descriptorIndex := 12, attributes := #[] }, { accessFlags := 18, nameIndex := 24, descriptorIndex := 12, attributes := #[] }])
  fields := #[{ name := "NONE", type := (.object "com/example/abir/abir/RowCounts"), accessFlags := 24, slot := 0, constantValue := 0 }, { name := "processed", type := .long, accessFlags := 18, slot := 0, constantValue := 0 }, { name := "inserted", type := .long, accessFlags := 18, slot := 1, constantValue := 0 }, { name := "updated", type := .long, accessFlags := 18, slot := 2, constantValue := 0 }, { name := "unchanged", type := .long, accessFlags := 18, slot := 3, constantValue := 0 }, { name := "errorRows", type := .long, accessFlags := 18, slot := 4, constantValue := 0 }]
  methods := #[k2m0, k2m1, k2m2, k2m3, k2m4, k2m5, k2m6]
  instanceTypes := #[.long, .long, .long, .long, .long]
  staticTypes := #[(.object "com/example/abir/abir/RowCounts")]
  resolved := Array.replicate 40 none
  statics := none }

def pool3 : Array CpInfo := pool [(1, u "java/lang/Cloneable"), (0, .class_ 1), (0, u "java/lang/Object"), (0, .class_ 3)] 3

/-- java/lang/Cloneable -/
def k3 : Class := { plain "java/lang/Cloneable" (some 0) with
  accessFlags := 1537
  interfaces := #[]
  cf := some (fileOf pool3 2 #[] #[] 1537 4 #[] #[])
  fields := #[]
  methods := #[]
  instanceTypes := #[]
  staticTypes := #[]
  resolved := Array.replicate 8 none
  statics := none }

def pool4 : Array CpInfo := pool [(1, u "java/io/Serializable"), (0, .class_ 1), (0, u "java/lang/Object"), (0, .class_ 3)] 3

/-- java/io/Serializable -/
def k4 : Class := { plain "java/io/Serializable" (some 0) with
  accessFlags := 1537
  interfaces := #[]
  cf := some (fileOf pool4 2 #[] #[] 1537 4 #[] #[])
  fields := #[]
  methods := #[]
  instanceTypes := #[]
  staticTypes := #[]
  resolved := Array.replicate 8 none
  statics := none }

/-- the primitive byte -/
def k5 : Class := { plain "byte" none with kind := .primitive 'B', accessFlags := 0x411 }
/-- [B -/
def k6 : Class := { plain "[B" (some 0) with kind := .array 5 .byte, interfaces := #[3, 4], accessFlags := 1041 }

/-- the primitive int -/
def k7 : Class := { plain "int" none with kind := .primitive 'I', accessFlags := 0x411 }
/-- [I -/
def k8 : Class := { plain "[I" (some 0) with kind := .array 7 .int, interfaces := #[3, 4], accessFlags := 1041 }

def heap : Heap := #[]
def classes : Array Class := #[k0, k1, k2, k3, k4, k5, k6, k7, k8]
def interned : List (Array UInt16 × Addr) := []
def slotsUsed : Nat := 0
def theMethod : MethodId := ⟨1, 1⟩
def args0 : Array Value := #[.long 0, .long 1, .long 2, .long 3, .long 4, .long 5]
def aboutOver (below : List Frame) : State where
  vm := { classes := classes, interned := interned.toArray }
  heap := heap
  slotsUsed := slotsUsed
  threads := #[{ frames := .invoking theMethod args0 :: below }]
def below0 : List Frame := [.native { method := ⟨0, 0⟩, args := #[] }]
def about1 : State := aboutOver below0
def p0 : Program := .bare "" "" ""
def e0 : Env := launch0.env 0 0 0
theorem w_frames : about1.frames = Frame.invoking theMethod args0 :: below0 := rfl
set_option maxRecDepth 65536 in
theorem w_args : argsFit about1.vm theMethod args0 = true := by decide +kernel
set_option maxRecDepth 65536 in
theorem w_heap : heapFits about1 = true := by decide +kernel
set_option maxRecDepth 65536 in
theorem w_runnable : about1.curStatus? = some .runnable := by decide +kernel
set_option maxRecDepth 65536 in
theorem w_alone : about1.alone = true := by decide +kernel
set_option maxRecDepth 65536 in
theorem w_named : about1.methodNamed? x = some theMethod := by decide +kernel
set_option maxRecDepth 65536 in
theorem w_hears : about1.hears theMethod below0 = true := by decide +kernel
set_option maxRecDepth 65536 in
theorem w_ripe : about1.ripe theMethod args0 below0 = true := by decide +kernel
theorem w_running : about1.status = .running := rfl
set_option maxRecDepth 65536 in
theorem w_room : about1.hasRoom e0.platform room_1 = true :=
  launch0.hasRoom_least _ room_1 (by decide +kernel) (by decide +kernel) (by decide +kernel) (by decide +kernel) (by decide +kernel) (by decide +kernel)
theorem allAtoms_all (ts : List Jvm.Cond) (a : Array Jvm.Value) (st : Jvm.State) : (allAtoms ts).before a st = ts.all (fun c => c.before a st) := by
  induction ts with
  | nil => rfl
  | cons c t ih =>
    show (Jvm.Cond.and c (allAtoms t)).before a st = _
    rw [Jvm.Cond.before_and, ih, List.all_cons]
def words1 : List Jvm.Cond := Jvm.Cond.code x code maxLocals ret :: tables_1
/-- a 'code' word, met by the world's own term for the bytes: nothing is compared byte by byte -/
theorem code_word {y : MethodName} {bytes : ByteArray} {mx : Nat} {rt : Option FieldType} {a : Array Value} {s : State} {m : MethodId} {meth : Method} {c : Code} (h1 : s.methodNamed? y = some m) (h2 : s.vm.method? m = some meth) (h3 : meth.code = some c) (h4 : c.code = bytes)
    (h5 : (c.maxLocals == mx && c.exceptionTable.isEmpty && decide (c.maxStack ≤ mostOperands) && decide (meth.sig.returnType = rt) && !meth.locks && decide (parseMethodDescriptor y.desc = some meth.sig)) = true) : (Jvm.Cond.code y bytes mx rt).before a s = true := by
  simp only [Bool.and_eq_true, beq_iff_eq, Bool.not_eq_true', decide_eq_true_eq] at h5
  obtain ⟨⟨⟨⟨⟨g1, g2⟩, g3⟩, g4⟩, g5⟩, g6⟩ := h5
  simp [Cond.before, Cond.holds, Cond.value, h1, h2, h3, h4, g1, g2, g3, g4, g5, g6]
def isCode : Jvm.Cond → Bool
  | .code _ _ _ _ => true
  | _ => false
theorem all_split {L : List Jvm.Cond} {P : Jvm.Cond → Bool} (h1 : L.all (fun c => isCode c || P c) = true) (h2 : ∀ c ∈ L.filter isCode, P c = true) : L.all P = true := by
  refine List.all_eq_true.mpr fun c hc => ?_
  have h := List.all_eq_true.mp h1 c hc
  rcases Bool.eq_false_or_eq_true (isCode c) with hi | hi
  · exact h2 c (List.mem_filter.mpr ⟨hc, hi⟩)
  · simpa [hi] using h
set_option maxRecDepth 65536 in
theorem w_c0 : (Jvm.Cond.code x code maxLocals ret).before args0 about1 = true := code_word (m := ⟨1, 1⟩) (meth := k1m1) (c := k1c1) (by decide +kernel) rfl rfl rfl (by decide +kernel)
set_option maxRecDepth 65536 in
theorem w_c1 : (Jvm.Cond.code ({ cls := "com/example/abir/abir/RowCounts", name := "<init>", desc := "(JJJJJ)V" } : Jvm.MethodName) prog_15_method_1_code (11 : Nat) (Option.none : Option Jvm.ClassFile.FieldType)).before args0 about1 = true := code_word (m := ⟨2, 0⟩) (meth := k2m0) (c := k2c0) (by decide +kernel) rfl rfl rfl (by decide +kernel)
set_option maxRecDepth 65536 in
theorem w_c2 : (Jvm.Cond.code ({ cls := "java/lang/Object", name := "<init>", desc := "()V" } : Jvm.MethodName) object_method_1_code (1 : Nat) (Option.none : Option Jvm.ClassFile.FieldType)).before args0 about1 = true := code_word (m := ⟨0, 0⟩) (meth := k0m0) (c := k0c0) (by decide +kernel) rfl rfl rfl (by decide +kernel)
set_option maxRecDepth 65536 in
theorem w_c3 : (Jvm.Cond.code ({ cls := "com/example/abir/abir/RowCounts", name := "plus", desc := "(Lcom/example/abir/abir/RowCounts;)Lcom/example/abir/abir/RowCounts;" } : Jvm.MethodName) prog_15_method_2_code (2 : Nat) (Option.some (Jvm.ClassFile.FieldType.object "com/example/abir/abir/RowCounts"))).before args0 about1 = true := code_word (m := ⟨2, 1⟩) (meth := k2m1) (c := k2c1) (by decide +kernel) rfl rfl rfl (by decide +kernel)
set_option maxRecDepth 65536 in
theorem w_c4 : (Jvm.Cond.code ({ cls := "com/example/abir/abir/RowCounts", name := "processed", desc := "()J" } : Jvm.MethodName) prog_15_method_3_code (1 : Nat) (Option.some Jvm.ClassFile.FieldType.long)).before args0 about1 = true := code_word (m := ⟨2, 2⟩) (meth := k2m2) (c := k2c2) (by decide +kernel) rfl rfl rfl (by decide +kernel)
set_option maxRecDepth 65536 in
theorem w_c5 : (Jvm.Cond.code ({ cls := "com/example/abir/abir/RowCounts", name := "inserted", desc := "()J" } : Jvm.MethodName) prog_15_method_4_code (1 : Nat) (Option.some Jvm.ClassFile.FieldType.long)).before args0 about1 = true := code_word (m := ⟨2, 3⟩) (meth := k2m3) (c := k2c3) (by decide +kernel) rfl rfl rfl (by decide +kernel)
set_option maxRecDepth 65536 in
theorem w_c6 : (Jvm.Cond.code ({ cls := "com/example/abir/abir/RowCounts", name := "updated", desc := "()J" } : Jvm.MethodName) prog_15_method_5_code (1 : Nat) (Option.some Jvm.ClassFile.FieldType.long)).before args0 about1 = true := code_word (m := ⟨2, 4⟩) (meth := k2m4) (c := k2c4) (by decide +kernel) rfl rfl rfl (by decide +kernel)
set_option maxRecDepth 65536 in
theorem w_c7 : (Jvm.Cond.code ({ cls := "com/example/abir/abir/RowCounts", name := "unchanged", desc := "()J" } : Jvm.MethodName) prog_15_method_6_code (1 : Nat) (Option.some Jvm.ClassFile.FieldType.long)).before args0 about1 = true := code_word (m := ⟨2, 5⟩) (meth := k2m5) (c := k2c5) (by decide +kernel) rfl rfl rfl (by decide +kernel)
set_option maxRecDepth 65536 in
theorem w_c8 : (Jvm.Cond.code ({ cls := "com/example/abir/abir/RowCounts", name := "errorRows", desc := "()J" } : Jvm.MethodName) prog_15_method_7_code (1 : Nat) (Option.some Jvm.ClassFile.FieldType.long)).before args0 about1 = true := code_word (m := ⟨2, 6⟩) (meth := k2m6) (c := k2c6) (by decide +kernel) rfl rfl rfl (by decide +kernel)
def codes1 : List Jvm.Cond := [Jvm.Cond.code x code maxLocals ret, Jvm.Cond.code ({ cls := "com/example/abir/abir/RowCounts", name := "<init>", desc := "(JJJJJ)V" } : Jvm.MethodName) prog_15_method_1_code (11 : Nat) (Option.none : Option Jvm.ClassFile.FieldType), Jvm.Cond.code ({ cls := "java/lang/Object", name := "<init>", desc := "()V" } : Jvm.MethodName) object_method_1_code (1 : Nat) (Option.none : Option Jvm.ClassFile.FieldType), Jvm.Cond.code ({ cls := "com/example/abir/abir/RowCounts", name := "plus", desc := "(Lcom/example/abir/abir/RowCounts;)Lcom/example/abir/abir/RowCounts;" } : Jvm.MethodName) prog_15_method_2_code (2 : Nat) (Option.some (Jvm.ClassFile.FieldType.object "com/example/abir/abir/RowCounts")), Jvm.Cond.code ({ cls := "com/example/abir/abir/RowCounts", name := "processed", desc := "()J" } : Jvm.MethodName) prog_15_method_3_code (1 : Nat) (Option.some Jvm.ClassFile.FieldType.long), Jvm.Cond.code ({ cls := "com/example/abir/abir/RowCounts", name := "inserted", desc := "()J" } : Jvm.MethodName) prog_15_method_4_code (1 : Nat) (Option.some Jvm.ClassFile.FieldType.long), Jvm.Cond.code ({ cls := "com/example/abir/abir/RowCounts", name := "updated", desc := "()J" } : Jvm.MethodName) prog_15_method_5_code (1 : Nat) (Option.some Jvm.ClassFile.FieldType.long), Jvm.Cond.code ({ cls := "com/example/abir/abir/RowCounts", name := "unchanged", desc := "()J" } : Jvm.MethodName) prog_15_method_6_code (1 : Nat) (Option.some Jvm.ClassFile.FieldType.long), Jvm.Cond.code ({ cls := "com/example/abir/abir/RowCounts", name := "errorRows", desc := "()J" } : Jvm.MethodName) prog_15_method_7_code (1 : Nat) (Option.some Jvm.ClassFile.FieldType.long)]
set_option maxRecDepth 65536 in
theorem codes_eq : words1.filter isCode = codes1 := rfl
theorem w_codes : ∀ c ∈ words1.filter isCode, c.before args0 about1 = true := by
  rw [codes_eq]
  intro c hc
  simp only [codes1, List.mem_cons, List.not_mem_nil, or_false] at hc
  rcases hc with rfl | rfl | rfl | rfl | rfl | rfl | rfl | rfl | rfl
  · exact w_c0
  · exact w_c1
  · exact w_c2
  · exact w_c3
  · exact w_c4
  · exact w_c5
  · exact w_c6
  · exact w_c7
  · exact w_c8
set_option maxRecDepth 65536 in
theorem w_t1 : (words1.take 24).all (fun c => isCode c || c.before args0 about1) = true := by decide +kernel
set_option maxRecDepth 65536 in
theorem w_t2 : ((words1.drop 24).take 24).all (fun c => isCode c || c.before args0 about1) = true := by decide +kernel
set_option maxRecDepth 65536 in
theorem w_t3 : ((words1.drop 24).drop 24).all (fun c => isCode c || c.before args0 about1) = true := by decide +kernel
theorem w_tables : (allAtoms (Jvm.Cond.code x code maxLocals ret :: tables_1)).before args0 about1 = true := by
  rw [allAtoms_all]
  show words1.all (fun c => c.before args0 about1) = true
  refine all_split ?_ w_codes
  rw [← List.take_append_drop 24 words1, List.all_append, w_t1, ← List.take_append_drop 24 (words1.drop 24), List.all_append, w_t2, w_t3]
  rfl
set_option maxRecDepth 65536 in
theorem w_case : (Jvm.Cond.and given_1 narrow_1).before args0 about1 = true := by decide +kernel
theorem w_applies : (headSpec (Jvm.Cond.code x code maxLocals ret :: tables_1) room_1).applies x e0.platform about1 = true :=
  (Spec.applies_iff w_frames).mpr ⟨w_running, w_runnable, w_alone, w_named, w_hears, w_ripe, w_room, w_tables⟩
theorem atStart : AtStart classFile x code maxLocals ret World_1 tables_1 room_1 Calls_1 rest_1 Pre_1 launch0 p0 e0 about1 theMethod args0 below0 :=
  ⟨lists_1, trivial, launch0.admits_env _ _ _, launch0.least_env, fairChoices_fair.cas, fairChoices_fair.clock, w_frames, w_args, w_heap, w_applies, trivial, trivial, w_case⟩
end start1
theorem witness_1 : WitnessClaimed_1 := ⟨start1.p0, start1.e0, start1.about1, start1.theMethod, start1.args0, start1.below0, start1.atStart⟩
end Jvm.Pilot.@@N@@
