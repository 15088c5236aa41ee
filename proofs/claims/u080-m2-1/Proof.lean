import JvmDerived
import JvmDerived.Pilot.@@N@@Statement
import JvmDerived.Pilot.@@N@@Code
set_option linter.unusedVariables false
set_option linter.unusedSimpArgs false
namespace Jvm.RoadKit
open Sem ClassFile Op Lib Jvm.Stand Jvm.Free Jvm.LawKit
section New
variable {p : Program} {l : Launch} {e : Env} {R : Room} {s : State} {m : MethodId} {args : Array Value} {below : List Frame} {meth : Method} {c : Code} {T : State} {locs : List Loc} {cells slots : Nat}
theorem retI (X : Stand p l e R s m args below meth c T locs cells slots) (hx : p.tables.exec = Jvm.exec) {pc : Nat} {Ls : Array Slot} {z : Int32} {rest : List Value} (hret : meth.sig.returnType = some .int) (hd : decode c.code pc = .ok (.ireturn, 1)) {fs : List Frame}
    (hl : ∀ (f : JFrame) (acts : List Action), f.method = m → f.locked = none → f.entered = [] → (doReturn e (T.setTop f) acts (some (.int z))).1 = T.setFrames fs) : Steps p.tables e below (T.setTop (mkF m pc Ls (.int z :: rest))) (T.setFrames fs) := by
  have hm' : T.vm.method? m = some meth := X.method'
  have hn : narrow .int (.int z) = .int z := rfl
  show Steps p.tables e below (T.setTop { method := m, pc := pc, locals := Ls, stack := _ :: rest, locked := none }) _
  jvm_step X.here [X.here.top, hx, hd, hm', hret, hn]
  first | (intro acts; rw [hl _ acts rfl rfl rfl]) | rw [hl _ _ rfl rfl rfl]
  exact Steps.refl _
end New
end Jvm.RoadKit
namespace Jvm.Pilot.@@N@@
open Jvm Jvm.ClassFile Sem Op Lib Jvm.Free Jvm.Stand Jvm.LawKit Jvm.RoadKit Bundle Jvm.Pilot.@@N@@.Jvm.D
def QL (n0 : Nat) (v : Option Value) (h : Heap) (L : List Loc) : Prop := v = some (.int 1) ∧ Fr n0 L
theorem own_sel {Z : State} {a0 : Array Value} {y : MethodName} {n : Nat} (wi : (Jvm.Cond.instantiable y.cls n).before a0 Z = true) (wp : (Jvm.Cond.privateMethod y).before a0 Z = true) (wm : (Jvm.Cond.instanceMethod y).before a0 Z = true) (hy : y.cls ≠ "java/lang/invoke/MethodHandle" ∧ y.cls ≠ "java/lang/invoke/VarHandle") : (Jvm.Cond.selects y.cls y y).before a0 Z = true := by
  obtain ⟨c, k, h1, h2, -, h4, -⟩ := Cond.instantiable_spec wi
  simp only [Bool.or_eq_false_iff] at h4
  exact Stand.selects_self_of_private h1 h2 h4.1 (Cond.privateMethod_at wp) wm hy
def Lv (Z : State) (h : Heap) (b : Addr) (n : Nat) (f : Int32 → Int64) : Prop := ∃ c : Cell, Arr Z h b c .long ∧ c.slots.size = n ∧ ∀ j : Int32, ¬ (j < 0 ∨ c.slots.size ≤ j.toNatClampNeg) → c.slots[j.toNatClampNeg]? = some (.long (f j))
def upd (f : Int32 → Int64) (i : Int32) (x : Int64) : Int32 → Int64 := fun j => if j = i then x else f j
section OwnL
variable {Z : State} {h h' : Heap} {a b : Addr} {n sl : Nat} {f : Int32 → Int64} {v : Value} {ws : List Addr}
theorem Lv.lt (F : Lv Z h b n f) : b < h.size := by obtain ⟨c, A, -⟩ := F; exact A.lt
theorem Lv.ext (F : Lv Z h b n f) (E : Ext h h') : Lv Z h' b n f := by obtain ⟨c, A, r⟩ := F; exact ⟨c, A.ext E, r⟩
theorem Lv.other (F : Lv Z h b n f) (W : Wr h h' a sl v) (q : b ≠ a) : Lv Z h' b n f := by obtain ⟨c, A, r⟩ := F; exact ⟨c, A.other W q, r⟩
theorem Lv.keep (F : Lv Z h b n f) (K : Keep h h' ws) (q : b ∉ ws) : Lv Z h' b n f := by obtain ⟨c, A, r⟩ := F; exact ⟨c, ⟨K.2.1 b c A.1 q, A.2⟩, r⟩
theorem Lv.set {c : Cell} {i : Int32} {x : Int64} (A : Arr Z h b c .long) (S : c.slots.size = n) (H : ∀ j : Int32, ¬ (j < 0 ∨ c.slots.size ≤ j.toNatClampNeg) → c.slots[j.toNatClampNeg]? = some (.long (f j))) (hi : ¬ (i < 0 ∨ c.slots.size ≤ i.toNatClampNeg)) (W : Wr h h' b i.toNatClampNeg (.long x)) : Lv Z h' b n (upd f i x) := by
  refine ⟨c.setSlot i.toNatClampNeg (.long x), A.same W, (sz_set _ _ _).trans S, fun j hj => ?_⟩
  rw [sz_set] at hj
  by_cases e : j = i
  · simp only [upd, if_pos e]; exact get_hit hi e
  · simp only [upd, if_neg e]; rw [get_miss (fun q => hi (Or.inl q)) (fun q => hj (Or.inl q)) e]; exact H j hj
end OwnL
def own_m (x : Int64) : Int64 := (x ^^^ ((x.toUInt64 >>> ((33 : Int32) &&& 0x3f).toInt64.toUInt64).toInt64))
def own_h (q : Int64) : Int32 := ((own_m ((own_m (own_m q * (-49064778989728563 : Int64))) * (-4265267296055464877 : Int64))).toInt32)
def own_s (q : Int64) : Int32 := ((own_h q) &&& (15 : Int32))
def own_n (s : Int32) : Int32 := ((s + (1 : Int32)) &&& (15 : Int32))
def own_16 (r : Int32) : Prop := 0 ≤ r.toInt ∧ r.toInt < 16
theorem own_s16 (q : Int64) : own_16 (own_s q) := by
  have h := c_mask (own_h q) 15 4 (by decide) (by decide); unfold own_16 own_s; omega
theorem own_a16 (x : Int32) : own_16 (x &&& (15 : Int32)) := by
  have h := c_mask x 15 4 (by decide) (by decide); unfold own_16; omega
theorem own_n16 (s : Int32) : own_16 (own_n s) := own_a16 _
theorem own_i0 {r : Int32} (h : own_16 r) : ((2 : Int32) * r).toInt = 2 * r.toInt := by
  have h1 := c_imul 2 r; have h2 := rng32 ((2 : Int32) * r); have e : (2 : Int32).toInt = 2 := rfl; unfold own_16 at h; rw [e] at h1; omega
theorem own_i1 {r : Int32} (h : own_16 r) : (((2 : Int32) * r) + (1 : Int32)).toInt = 2 * r.toInt + 1 := by
  have h1 := own_i0 h; have h2 := c_iadd ((2 : Int32) * r) 1; have h3 := rng32 (((2 : Int32) * r) + (1 : Int32)); have e : (1 : Int32).toInt = 1 := rfl; unfold own_16 at h; omega
theorem own_inb {j : Int32} (h0 : 0 ≤ j.toInt) (h1 : j.toInt < 32) : ¬ (j < 0 ∨ 32 ≤ j.toNatClampNeg) := by
  rw [Int32.lt_iff_toInt_lt]; have e : (0 : Int32).toInt = 0 := rfl; have q : j.toNatClampNeg = j.toInt.toNat := rfl; omega
theorem own_b0 {r : Int32} (h : own_16 r) : ¬ (((2 : Int32) * r) < 0 ∨ 32 ≤ ((2 : Int32) * r).toNatClampNeg) := by
  have h1 := own_i0 h; unfold own_16 at h; exact own_inb (by omega) (by omega)
theorem own_b1 {r : Int32} (h : own_16 r) : ¬ ((((2 : Int32) * r) + (1 : Int32)) < 0 ∨ 32 ≤ (((2 : Int32) * r) + (1 : Int32)).toNatClampNeg) := by
  have h1 := own_i1 h; unfold own_16 at h; exact own_inb (by omega) (by omega)
def Fnd (f : Int32 → Int64) (q : Int64) (r : Int32) : Prop :=
  (f (((2 : Int32) * (own_s q)) + (1 : Int32)) = (0 : Int64) ∧ r = own_s q) ∨ (¬ f (((2 : Int32) * (own_s q)) + (1 : Int32)) = (0 : Int64) ∧ f ((2 : Int32) * (own_s q)) = q ∧ r = own_s q) ∨
  (¬ f (((2 : Int32) * (own_s q)) + (1 : Int32)) = (0 : Int64) ∧ ¬ f ((2 : Int32) * (own_s q)) = q ∧ f (((2 : Int32) * (own_n (own_s q))) + (1 : Int32)) = (0 : Int64) ∧ r = own_n (own_s q)) ∨
  (¬ f (((2 : Int32) * (own_s q)) + (1 : Int32)) = (0 : Int64) ∧ ¬ f ((2 : Int32) * (own_s q)) = q ∧ ¬ f (((2 : Int32) * (own_n (own_s q))) + (1 : Int32)) = (0 : Int64) ∧ f ((2 : Int32) * (own_n (own_s q))) = q ∧ r = own_n (own_s q))
theorem Fnd.in16 {f : Int32 → Int64} {q : Int64} {r : Int32} (h : Fnd f q r) : own_16 r := by
  rcases h with ⟨-, rfl⟩ | ⟨-, -, rfl⟩ | ⟨-, -, -, rfl⟩ | ⟨-, -, -, -, rfl⟩
  · exact own_s16 q
  · exact own_s16 q
  · exact own_n16 _
  · exact own_n16 _
def Q_rmKI (Z : State) (a1 : Addr) (x2 : Int64) (h0 : Heap) (n0 : Nat) (v : Option Value) (h : Heap) (L : List Loc) : Prop := v = none ∧ Fr n0 L ∧ Keep h0 h [a1] ∧ Exa Z h a1 "com/example/keyfold/keyfold/Key" ∧ Fld Z h a1 "com/example/keyfold/keyfold/Key" "parts" "[Ljava/lang/Object;" .null ∧ Fld Z h a1 "com/example/keyfold/keyfold/Key" "integer" "J" (.long x2)
theorem pn_0 : plainName "com/example/keyfold/keyfold/Key" = true := by first | (simp [plainName, overriddenIn]; done) | decide +kernel
theorem ef_0 (m : MethodId) (x0 : Addr) (x1 : Int64) : entryFrame m #[(.ref x0), (.long x1)] 3 = mkF m 0 #[.val (.ref x0), .val (.long x1), .second] [] := by first | (simp [entryFrame, mkF, argsToLocals, Value.category]; done) | rfl
theorem dc0_0 : decode prog_51_method_2_code 0 = .ok (.aload_n 0, 1) := by decide +kernel
theorem dc0_1 : decode prog_51_method_2_code 1 = .ok (.invokespecial 1, 3) := by decide +kernel
theorem dc0_4 : decode prog_51_method_2_code 4 = .ok (.aload_n 0, 1) := by decide +kernel
theorem dc0_5 : decode prog_51_method_2_code 5 = .ok (.aconst_null, 1) := by decide +kernel
theorem dc0_6 : decode prog_51_method_2_code 6 = .ok (.putfield 9, 3) := by decide +kernel
theorem dc0_9 : decode prog_51_method_2_code 9 = .ok (.aload_n 0, 1) := by decide +kernel
theorem dc0_10 : decode prog_51_method_2_code 10 = .ok (.lload_n 1, 1) := by decide +kernel
theorem dc0_11 : decode prog_51_method_2_code 11 = .ok (.putfield 19, 3) := by decide +kernel
theorem dc0_14 : decode prog_51_method_2_code 14 = .ok (.return_, 1) := by decide +kernel
set_option maxRecDepth 65536 in
set_option maxHeartbeats 40000000 in
theorem rmKI (l : Launch) (Z : State) (a0 : Array Value) (hw : ∀ d ∈ tables_1, d.before a0 Z = true) (ws : List Jvm.Cond) (a1 : Addr) (x2 : Int64) (h0 : Heap) (n0 : Nat) (O0 : Old Z n0 h0) (E1 : Exa Z h0 a1 "com/example/keyfold/keyfold/Key") (F_parts : Fld Z h0 a1 "com/example/keyfold/keyfold/Key" "parts" "[Ljava/lang/Object;" .null) (F_integer : Fld Z h0 a1 "com/example/keyfold/keyfold/Key" "integer" "J" (.long (0 : Int64))) (g1 : n0 ≤ a1) :
    MetFree l (⟨"com/example/keyfold/keyfold/Key", "<init>", "(J)V"⟩ : MethodName) (head1 (Jvm.Cond.code (⟨"com/example/keyfold/keyfold/Key", "<init>", "(J)V"⟩ : MethodName) prog_51_method_2_code 3 none :: ws) ({ frames := 1, cells := 0, slots := 0, locals := 12 } : Room)) (fun a U => a = #[(.ref a1), (.long x2)] ∧ Z.Warmed39 U.vm ∧ U.heap = h0) (fun _ _ _ _ _ => True) (fun _ U o U' => ∃ v L, o = .returned v ∧ Q_rmKI Z a1 x2 h0 n0 v U'.heap L ∧ FrameEnd U o U' L ({ frames := 1, cells := 0, slots := 0, locals := 12 } : Room).cells ({ frames := 1, cells := 0, slots := 0, locals := 12 } : Room).slots) := by
  refine MetFree.of_bodySF (plainFor_of_name pn_0) hisR ?_
  intro p e s m args below meth c s₁ Bd hml0 hP hK
  obtain ⟨rfl, hZ, hh⟩ := hP
  have hx := Bd.exec
  have hby := Bd.bytes
  have hml : c.maxLocals = 3 := hml0
  have hown : s.vm.findClass "com/example/keyfold/keyfold/Key" = some m.cls := findClass_of_methodNamed Bd.named
  have hnm := (name_of_methodNamed Bd.named Bd.method).1
  have X0 : Stand p l e ({ frames := 1, cells := 0, slots := 0, locals := 12 } : Room) s m #[(.ref a1), (.long x2)] below meth c s₁ [] 0 0 := Stand.of_body Bd
  have e0 : s₁.heap = h0 := by rw [← hh, Bd.state]; rfl
  have N0 := Fr.nil n0
  have pre0 : ∀ t, Steps p.tables e below (s₁.setTop (mkF m 0 #[.val (.ref a1), .val (.long x2), .second] [])) t → Steps p.tables e below (s₁.setTop (entryFrame m #[(.ref a1), (.long x2)] 3)) t := fun t k => castTop (ef_0 m a1 x2) k
  obtain ⟨T101, X101, e101, st101⟩ := initO X0 hx hZ hown (hw _ (List.mem_of_getElem? (i := 9) rfl)) (hw _ (List.mem_of_getElem? (i := 10) rfl)) (hw _ (List.mem_of_getElem? (i := 11) rfl)) e0 (g := (mkF m 1 #[.val (.ref a1), .val (.long x2), .second] [(.ref a1)])) rfl (by rw [hml]; rfl) rfl (hb hby dc0_1) (by decide) (W := 0) (by show 2 * 0 + _ ≤ _; exact Nat.le_of_eq rfl) (by decide)
  obtain ⟨T102, h102, X102, e102, W102, st102⟩ := putF X101 hx hZ hown (host := "") (Or.inl (hw _ (List.mem_of_getElem? (i := 12) rfl))) Via.refl e101 F_parts E1 (Or.inr ⟨(hw _ (List.mem_of_getElem? (i := 13) rfl)), rfl, hnm⟩) (hw _ (List.mem_of_getElem? (i := 5) rfl)) (ty := (.array (.object "java/lang/Object"))) (by decide) rfl rfl (g := (mkF m 6 #[.val (.ref a1), .val (.long x2), .second] [.null, (.ref a1)])) rfl rfl (hb hby dc0_6)
  have Fw102 : Fld Z h102 a1 "com/example/keyfold/keyfold/Key" "parts" "[Ljava/lang/Object;" .null := Fld.same W102 F_parts
  have N102 := Fr.snoc X102 N0 g1
  have f103 := (E1.wr W102)
  have f104 := (F_integer.other W102 (Or.inr (slot_ne (Or.inr (hw _ (List.mem_of_getElem? (i := 15) rfl))) (Or.inr (hw _ (List.mem_of_getElem? (i := 13) rfl))) (by decide) (t := .long) (t' := (.array (.object "java/lang/Object"))) (by decide) (by decide))))
  obtain ⟨T105, h105, X105, e105, W105, st105⟩ := putF X102 hx hZ hown (host := "") (Or.inl (hw _ (List.mem_of_getElem? (i := 14) rfl))) Via.refl e102 f104 f103 (Or.inr ⟨(hw _ (List.mem_of_getElem? (i := 15) rfl)), rfl, hnm⟩) (hw _ (List.mem_of_getElem? (i := 5) rfl)) (ty := .long) (by decide) rfl rfl (g := (mkF m 11 #[.val (.ref a1), .val (.long x2), .second] [(.long x2), (.ref a1)])) rfl rfl (hb hby dc0_11)
  have Fw105 : Fld Z h105 a1 "com/example/keyfold/keyfold/Key" "integer" "J" (.long x2) := Fld.same W105 f104
  have N105 := Fr.snoc X105 N102 g1
  obtain ⟨fs, hr, hrun, hended, hW, hsame⟩ := X105.leave (v := none) (fun _ => rfl)
  have K106 : Keep h0 h105 [a1] := (Keep.wr (Keep.wr (Keep.refl h0 [a1]) W102 (Or.inl (List.mem_of_getElem? (i := 0) rfl))) W105 (Or.inl (List.mem_of_getElem? (i := 0) rfl)))
  have f107 := (f103.wr W105)
  have f108 := (Fw102.other W105 (Or.inr (slot_ne (Or.inr (hw _ (List.mem_of_getElem? (i := 13) rfl))) (Or.inr (hw _ (List.mem_of_getElem? (i := 15) rfl))) (by decide) (t := (.array (.object "java/lang/Object"))) (t' := .long) (by decide) (by decide))))
  refine ⟨_, _, pre0 _ ?_, hrun, hended, _, _, rfl, ?_, ⟨_, rfl⟩, hW, hsame.mono (by decide) (by decide)⟩
  · skip
    show Steps p.tables e below (s₁.setTop (mkF m 0 #[.val (.ref a1), .val (.long x2), .second] [])) _
    refine XS.aloadN X0.here hx rfl (hb hby dc0_0) rfl rfl ?_
    show Steps p.tables e below (s₁.setTop (mkF m 1 #[.val (.ref a1), .val (.long x2), .second] [(.ref a1)])) _
    refine st101 _ ?_
    show Steps p.tables e below (T101.setTop (mkF m 4 #[.val (.ref a1), .val (.long x2), .second] [])) _
    refine XS.aloadN X101.here hx rfl (hb hby dc0_4) rfl rfl ?_
    show Steps p.tables e below (T101.setTop (mkF m 5 #[.val (.ref a1), .val (.long x2), .second] [(.ref a1)])) _
    refine XS.aconstNull X101.here hx rfl (hb hby dc0_5) ?_
    show Steps p.tables e below (T101.setTop (mkF m 6 #[.val (.ref a1), .val (.long x2), .second] [.null, (.ref a1)])) _
    refine st102 _ ?_
    show Steps p.tables e below (T102.setTop (mkF m 9 #[.val (.ref a1), .val (.long x2), .second] [])) _
    refine XS.aloadN X102.here hx rfl (hb hby dc0_9) rfl rfl ?_
    show Steps p.tables e below (T102.setTop (mkF m 10 #[.val (.ref a1), .val (.long x2), .second] [(.ref a1)])) _
    refine XS.lloadN X102.here hx rfl (hb hby dc0_10) rfl ?_
    show Steps p.tables e below (T102.setTop (mkF m 11 #[.val (.ref a1), .val (.long x2), .second] [(.long x2), (.ref a1)])) _
    refine st105 _ ?_
    show Steps p.tables e below (T105.setTop (mkF m 14 #[.val (.ref a1), .val (.long x2), .second] [])) _
    exact X105.returnOut hx Bd.returns (hb hby dc0_14) hr
  · show Q_rmKI Z a1 x2 h0 n0 _ T105.heap _
    rw [e105]
    exact ⟨rfl, N105, K106, f107, f108, Fw105⟩
def Q_of (Z : State) (q1 : Int64) (h0 : Heap) (n0 : Nat) (v : Option Value) (h : Heap) (L : List Loc) : Prop := ∃ b : Addr, v = some (.ref b) ∧ Fr n0 L ∧ n0 ≤ b ∧ h0.size ≤ b ∧ Keep h0 h [] ∧ Exa Z h b "com/example/keyfold/keyfold/Key" ∧ Fld Z h b "com/example/keyfold/keyfold/Key" "parts" "[Ljava/lang/Object;" .null ∧ Fld Z h b "com/example/keyfold/keyfold/Key" "integer" "J" (.long q1)
theorem ef_1 (m : MethodId) (x0 : Int64) : entryFrame m #[(.long x0)] 2 = mkF m 0 #[.val (.long x0), .second] [] := by first | (simp [entryFrame, mkF, argsToLocals, Value.category]; done) | rfl
theorem dc1_0 : decode prog_51_method_3_code 0 = .ok (.new 10, 3) := by decide +kernel
theorem dc1_3 : decode prog_51_method_3_code 3 = .ok (.dup, 1) := by decide +kernel
theorem dc1_4 : decode prog_51_method_3_code 4 = .ok (.lload_n 0, 1) := by decide +kernel
theorem dc1_5 : decode prog_51_method_3_code 5 = .ok (.invokespecial 23, 3) := by decide +kernel
theorem pd_0 : parseMethodDescriptor "(J)V" = some ⟨[.long], none⟩ := by decide +kernel
theorem dc1_8 : decode prog_51_method_3_code 8 = .ok (.areturn, 1) := by decide +kernel
set_option maxRecDepth 65536 in
set_option maxHeartbeats 40000000 in
theorem rmOf (l : Launch) (Z : State) (a0 : Array Value) (hw : ∀ d ∈ tables_1, d.before a0 Z = true) (ws : List Jvm.Cond) (q1 : Int64) (h0 : Heap) (n0 : Nat) (O0 : Old Z n0 h0) :
    MetFree l (⟨"com/example/keyfold/keyfold/Key", "ofInteger", "(J)Lcom/example/keyfold/keyfold/Key;"⟩ : MethodName) (head1 (Jvm.Cond.code (⟨"com/example/keyfold/keyfold/Key", "ofInteger", "(J)Lcom/example/keyfold/keyfold/Key;"⟩ : MethodName) prog_51_method_3_code 2 (some (.object "com/example/keyfold/keyfold/Key")) :: ws) ({ frames := 2, cells := 1, slots := 2, locals := 27 } : Room)) (fun a U => a = #[(.long q1)] ∧ Z.Warmed39 U.vm ∧ U.heap = h0) (fun _ _ _ _ _ => True) (fun _ U o U' => ∃ v L, o = .returned v ∧ Q_of Z q1 h0 n0 v U'.heap L ∧ FrameEnd U o U' L ({ frames := 2, cells := 1, slots := 2, locals := 27 } : Room).cells ({ frames := 2, cells := 1, slots := 2, locals := 27 } : Room).slots) := by
  refine MetFree.of_bodySF (plainFor_of_name pn_0) hisR ?_
  intro p e s m args below meth c s₁ Bd hml0 hP hK
  obtain ⟨rfl, hZ, hh⟩ := hP
  have hx := Bd.exec
  have hby := Bd.bytes
  have hml : c.maxLocals = 2 := hml0
  have hown : s.vm.findClass "com/example/keyfold/keyfold/Key" = some m.cls := findClass_of_methodNamed Bd.named
  have hnm := (name_of_methodNamed Bd.named Bd.method).1
  have X0 : Stand p l e ({ frames := 2, cells := 1, slots := 2, locals := 27 } : Room) s m #[(.long q1)] below meth c s₁ [] 0 0 := Stand.of_body Bd
  have e0 : s₁.heap = h0 := by rw [← hh, Bd.state]; rfl
  have N0 := Fr.nil n0
  have pre0 : ∀ t, Steps p.tables e below (s₁.setTop (mkF m 0 #[.val (.long q1), .second] [])) t → Steps p.tables e below (s₁.setTop (entryFrame m #[(.long q1)] 2)) t := fun t k => castTop (ef_1 m q1) k
  obtain ⟨T101, h101, X101, e101, E101, A101, D101, -, st101⟩ := newO X0 hx hZ hown (hw _ (List.mem_of_getElem? (i := 4) rfl)) (hw _ (List.mem_of_getElem? (i := 5) rfl)) (hw _ (List.mem_of_getElem? (i := 2) rfl)) e0 (g := (mkF m 0 #[.val (.long q1), .second] [])) rfl (hb hby dc1_0) (by decide) (by decide)
  obtain ⟨b101, g101⟩ : ∃ z, z = h0.size := ⟨_, rfl⟩
  rw [← g101] at A101 D101 st101
  have gb101 : n0 ≤ b101 := by rw [g101, ← O0.1]; exact O0.2.1
  have sz101 : h0.size ≤ b101 := by rw [g101]; exact ((Keep.refl h0 [])).1
  have F101_parts : Fld Z h101 b101 "com/example/keyfold/keyfold/Key" "parts" "[Ljava/lang/Object;" .null := D101 (Or.inr (hw _ (List.mem_of_getElem? (i := 13) rfl))) (ty := (.array (.object "java/lang/Object"))) (by decide)
  have F101_integer : Fld Z h101 b101 "com/example/keyfold/keyfold/Key" "integer" "J" (.long (0 : Int64)) := D101 (Or.inr (hw _ (List.mem_of_getElem? (i := 15) rfl))) (ty := .long) (by decide)
  have O102 : Old Z n0 h101 := (O0.ext E101)
  obtain ⟨_, _, ⟨T103, L103, k103, n103⟩, -, X103, ⟨Lc103, hQ103, l103, y103, z103⟩, st103⟩ := X101.specialBack hx (y := (⟨"com/example/keyfold/keyfold/Key", "<init>", "(J)V"⟩ : MethodName)) rfl hown (mvT hZ (hw _ (List.mem_of_getElem? (i := 6) rfl))) (mvT hZ (hw _ (List.mem_of_getElem? (i := 7) rfl))) (mvT hZ (hw _ (List.mem_of_getElem? (i := 8) rfl))) (by decide) (backOf (W := 1) (rmKI l Z a0 hw [] b101 q1 h101 n0 O102 A101 F101_parts F101_integer gb101) hZ (hw _ (List.mem_of_getElem? (i := 8) rfl)) (hw _ (List.mem_of_getElem? (i := 2) rfl)) (by decide) (by decide)) (g := (mkF m 5 #[.val (.long q1), .second] [(.long q1), (.ref b101), (.ref b101)])) rfl (by rw [hml]; rfl) (Steps.refl _) (a := b101) (argsL := [(.long q1)]) (rest := [(.ref b101)]) (lenOf pd_0 rfl) rfl (by show 2 * 0 + _ ≤ _; exact Nat.le_of_eq rfl) (hb hby dc1_5) (fun _ _ => ⟨rfl, e101, (by decide : 1 + 0 ≤ _), (by decide : 2 + 0 ≤ _)⟩)
  dsimp only [Pt.U, Pt.locs, Pt.cells, Pt.slots] at X103 l103 y103 z103 st103 hQ103
  subst l103 y103 z103
  obtain ⟨rfl, N103q, K103, Ex103, F103_parts, F103_integer⟩ := hQ103
  have N103 := Fr.app N0 N103q
  obtain ⟨fs, hr, hrun, hended, hW, hsame⟩ := X103.leave (v := some (.ref b101)) (fun h => by rw [Bd.returns] at h; cases h)
  have K104 : Keep h0 T103.heap [] := (Keep.trans (Keep.ext (Keep.refl h0 []) E101) K103 (allS (P := fun x => x ∈ [] ∨ h0.size ≤ x) (Or.inr sz101) all0))
  refine ⟨_, _, pre0 _ ?_, hrun, hended, _, _, rfl, ?_, ⟨_, rfl⟩, hW, hsame.mono (by decide) (by decide)⟩
  · skip
    show Steps p.tables e below (s₁.setTop (mkF m 0 #[.val (.long q1), .second] [])) _
    refine st101 _ ?_
    show Steps p.tables e below (T101.setTop (mkF m 3 #[.val (.long q1), .second] [(.ref b101)])) _
    refine XS.dup X101.here hx rfl (hb hby dc1_3) rfl rfl ?_
    show Steps p.tables e below (T101.setTop (mkF m 4 #[.val (.long q1), .second] [(.ref b101), (.ref b101)])) _
    refine XS.lloadN X101.here hx rfl (hb hby dc1_4) rfl ?_
    show Steps p.tables e below (T101.setTop (mkF m 5 #[.val (.long q1), .second] [(.long q1), (.ref b101), (.ref b101)])) _
    refine st103.trans ?_
    show Steps p.tables e below (T103.setTop (mkF m 8 #[.val (.long q1), .second] [(.ref b101)])) _
    exact retOut X103 hx (t := (.object "com/example/keyfold/keyfold/Key")) Bd.returns rfl (Or.inr (Or.inr (Or.inr (Or.inr ⟨rfl, rfl, rfl⟩)))) (hb hby dc1_8) hr
  · show Q_of Z q1 h0 n0 _ T103.heap _
    exact ⟨_, rfl, N103, gb101, sz101, K104, Ex103, F103_parts, F103_integer⟩
def Q_isI  (h0 : Heap) (n0 : Nat) (v : Option Value) (h : Heap) (L : List Loc) : Prop := v = some (.int (1 : Int32)) ∧ Fr n0 L ∧ h = h0
theorem ef_2 (m : MethodId) (x0 : Addr) : entryFrame m #[(.ref x0)] 1 = mkF m 0 #[.val (.ref x0)] [] := by first | (simp [entryFrame, mkF, argsToLocals, Value.category]; done) | rfl
theorem dc2_0 : decode prog_51_method_4_code 0 = .ok (.aload_n 0, 1) := by decide +kernel
theorem dc2_1 : decode prog_51_method_4_code 1 = .ok (.getfield 9, 3) := by decide +kernel
theorem dc2_4 : decode prog_51_method_4_code 4 = .ok (.ifnonnull 7, 3) := by decide +kernel
theorem dc2_7 : decode prog_51_method_4_code 7 = .ok (.iconst 1, 1) := by decide +kernel
theorem dc2_8 : decode prog_51_method_4_code 8 = .ok (.goto 4, 3) := by decide +kernel
theorem dc2_12 : decode prog_51_method_4_code 12 = .ok (.ireturn, 1) := by decide +kernel
set_option maxRecDepth 65536 in
set_option maxHeartbeats 40000000 in
theorem rmIs (l : Launch) (Z : State) (a0 : Array Value) (hw : ∀ d ∈ tables_1, d.before a0 Z = true) (ws : List Jvm.Cond) (a1 : Addr) (h0 : Heap) (n0 : Nat) (O0 : Old Z n0 h0) (Fp : Fld Z h0 a1 "com/example/keyfold/keyfold/Key" "parts" "[Ljava/lang/Object;" .null) :
    MetFree l (⟨"com/example/keyfold/keyfold/Key", "isInteger", "()Z"⟩ : MethodName) (head1 (Jvm.Cond.code (⟨"com/example/keyfold/keyfold/Key", "isInteger", "()Z"⟩ : MethodName) prog_51_method_4_code 1 (some .boolean) :: ws) ({ frames := 0, cells := 0, slots := 0, locals := 0 } : Room)) (fun a U => a = #[(.ref a1)] ∧ Z.Warmed39 U.vm ∧ U.heap = h0) (fun _ _ _ _ _ => True) (fun _ U o U' => ∃ v L, o = .returned v ∧ Q_isI h0 n0 v U'.heap L ∧ FrameEnd U o U' L ({ frames := 0, cells := 0, slots := 0, locals := 0 } : Room).cells ({ frames := 0, cells := 0, slots := 0, locals := 0 } : Room).slots) := by
  refine MetFree.of_bodySF (plainFor_of_name pn_0) hisR ?_
  intro p e s m args below meth c s₁ Bd hml0 hP hK
  obtain ⟨rfl, hZ, hh⟩ := hP
  have hx := Bd.exec
  have hby := Bd.bytes
  have hml : c.maxLocals = 1 := hml0
  have hown : s.vm.findClass "com/example/keyfold/keyfold/Key" = some m.cls := findClass_of_methodNamed Bd.named
  have hnm := (name_of_methodNamed Bd.named Bd.method).1
  have X0 : Stand p l e ({ frames := 0, cells := 0, slots := 0, locals := 0 } : Room) s m #[(.ref a1)] below meth c s₁ [] 0 0 := Stand.of_body Bd
  have e0 : s₁.heap = h0 := by rw [← hh, Bd.state]; rfl
  have N0 := Fr.nil n0
  have pre0 : ∀ t, Steps p.tables e below (s₁.setTop (mkF m 0 #[.val (.ref a1)] [])) t → Steps p.tables e below (s₁.setTop (entryFrame m #[(.ref a1)] 1)) t := fun t k => castTop (ef_2 m a1) k
  obtain ⟨T101, X101, e101, st101⟩ := getF X0 hx hZ hown (host := "") (Or.inl (hw _ (List.mem_of_getElem? (i := 12) rfl))) Via.refl e0 Fp (g := (mkF m 1 #[.val (.ref a1)] [(.ref a1)])) rfl rfl (hb hby dc2_1)
  obtain ⟨fs, hr, hrun, hended, hW, hsame⟩ := X101.leave (v := some (.int (1 : Int32))) (fun h => by rw [Bd.returns] at h; cases h)
  refine ⟨_, _, pre0 _ ?_, hrun, hended, _, _, rfl, ?_, ⟨_, rfl⟩, hW, hsame.mono (by decide) (by decide)⟩
  · skip
    show Steps p.tables e below (s₁.setTop (mkF m 0 #[.val (.ref a1)] [])) _
    refine XS.aloadN X0.here hx rfl (hb hby dc2_0) rfl rfl ?_
    show Steps p.tables e below (s₁.setTop (mkF m 1 #[.val (.ref a1)] [(.ref a1)])) _
    refine st101 _ ?_
    show Steps p.tables e below (T101.setTop (mkF m 4 #[.val (.ref a1)] [.null])) _
    refine XS.ifnonnullNo X101.here hx rfl (hb hby dc2_4) rfl ?_
    show Steps p.tables e below (T101.setTop (mkF m 7 #[.val (.ref a1)] [])) _
    refine XS.iconst X101.here hx rfl (hb hby dc2_7) ?_
    show Steps p.tables e below (T101.setTop (mkF m 8 #[.val (.ref a1)] [(.int (1 : Int32))])) _
    refine XS.goto X101.here hx rfl (pc0 := 8) (pc' := 12) rfl (hb hby dc2_8) (by decide) (by decide) ?_
    show Steps p.tables e below (T101.setTop (mkF m 12 #[.val (.ref a1)] [(.int (1 : Int32))])) _
    exact retN X101 hx (t := .boolean) Bd.returns (by simp) (hb hby dc2_12) hr
  · show Q_isI h0 n0 _ T101.heap _
    rw [e101]
    exact ⟨rfl, N0, rfl⟩
def Q_rmIn (w1 : Int64) (h0 : Heap) (n0 : Nat) (v : Option Value) (h : Heap) (L : List Loc) : Prop := v = some (.long w1) ∧ Fr n0 L ∧ h = h0
theorem dc3_0 : decode prog_51_method_5_code 0 = .ok (.aload_n 0, 1) := by decide +kernel
theorem dc3_1 : decode prog_51_method_5_code 1 = .ok (.getfield 19, 3) := by decide +kernel
theorem dc3_4 : decode prog_51_method_5_code 4 = .ok (.lreturn, 1) := by decide +kernel
set_option maxRecDepth 65536 in
set_option maxHeartbeats 40000000 in
theorem rmIn (l : Launch) (Z : State) (a0 : Array Value) (hw : ∀ d ∈ tables_1, d.before a0 Z = true) (ws : List Jvm.Cond) (a1 : Addr) (w1 : Int64) (h0 : Heap) (n0 : Nat) (O0 : Old Z n0 h0) (F1 : Fld Z h0 a1 "com/example/keyfold/keyfold/Key" "integer" "J" (.long w1)) :
    MetFree l (⟨"com/example/keyfold/keyfold/Key", "integer", "()J"⟩ : MethodName) (head1 (Jvm.Cond.code (⟨"com/example/keyfold/keyfold/Key", "integer", "()J"⟩ : MethodName) prog_51_method_5_code 1 (some .long) :: ws) ({ frames := 0, cells := 0, slots := 0, locals := 0 } : Room)) (fun a U => a = #[(.ref a1)] ∧ Z.Warmed39 U.vm ∧ U.heap = h0) (fun _ _ _ _ _ => True) (fun _ U o U' => ∃ v L, o = .returned v ∧ Q_rmIn w1 h0 n0 v U'.heap L ∧ FrameEnd U o U' L ({ frames := 0, cells := 0, slots := 0, locals := 0 } : Room).cells ({ frames := 0, cells := 0, slots := 0, locals := 0 } : Room).slots) := by
  refine MetFree.of_bodySF (plainFor_of_name pn_0) hisR ?_
  intro p e s m args below meth c s₁ Bd hml0 hP hK
  obtain ⟨rfl, hZ, hh⟩ := hP
  have hx := Bd.exec
  have hby := Bd.bytes
  have hml : c.maxLocals = 1 := hml0
  have hown : s.vm.findClass "com/example/keyfold/keyfold/Key" = some m.cls := findClass_of_methodNamed Bd.named
  have hnm := (name_of_methodNamed Bd.named Bd.method).1
  have X0 : Stand p l e ({ frames := 0, cells := 0, slots := 0, locals := 0 } : Room) s m #[(.ref a1)] below meth c s₁ [] 0 0 := Stand.of_body Bd
  have e0 : s₁.heap = h0 := by rw [← hh, Bd.state]; rfl
  have N0 := Fr.nil n0
  have pre0 : ∀ t, Steps p.tables e below (s₁.setTop (mkF m 0 #[.val (.ref a1)] [])) t → Steps p.tables e below (s₁.setTop (entryFrame m #[(.ref a1)] 1)) t := fun t k => castTop (ef_2 m a1) k
  obtain ⟨T101, X101, e101, st101⟩ := getF X0 hx hZ hown (host := "") (Or.inl (hw _ (List.mem_of_getElem? (i := 14) rfl))) Via.refl e0 F1 (g := (mkF m 1 #[.val (.ref a1)] [(.ref a1)])) rfl rfl (hb hby dc3_1)
  obtain ⟨fs, hr, hrun, hended, hW, hsame⟩ := X101.leave (v := some (.long w1)) (fun h => by rw [Bd.returns] at h; cases h)
  refine ⟨_, _, pre0 _ ?_, hrun, hended, _, _, rfl, ?_, ⟨_, rfl⟩, hW, hsame.mono (by decide) (by decide)⟩
  · skip
    show Steps p.tables e below (s₁.setTop (mkF m 0 #[.val (.ref a1)] [])) _
    refine XS.aloadN X0.here hx rfl (hb hby dc3_0) rfl rfl ?_
    show Steps p.tables e below (s₁.setTop (mkF m 1 #[.val (.ref a1)] [(.ref a1)])) _
    refine st101 _ ?_
    show Steps p.tables e below (T101.setTop (mkF m 4 #[.val (.ref a1)] [(.long w1)])) _
    exact retOut X101 hx (t := .long) Bd.returns rfl (Or.inr (Or.inl ⟨rfl, rfl, _, rfl⟩)) (hb hby dc3_4) hr
  · show Q_rmIn w1 h0 n0 _ T101.heap _
    rw [e101]
    exact ⟨rfl, N0, rfl⟩
def Q_hj (q1 : Int64) (h0 : Heap) (n0 : Nat) (v : Option Value) (h : Heap) (L : List Loc) : Prop := v = some (.int (own_h q1)) ∧ Fr n0 L ∧ h = h0
theorem pn_1 : plainName "com/example/keyfold/keyfold/KeyTable" = true := by first | (simp [plainName, overriddenIn]; done) | decide +kernel
theorem ef_3 (m : MethodId) (x0 : Int64) : entryFrame m #[(.long x0)] 4 = mkF m 0 #[.val (.long x0), .second, .unset, .unset] [] := by first | (simp [entryFrame, mkF, argsToLocals, Value.category]; done) | rfl
theorem dc4_0 : decode prog_58_method_23_code 0 = .ok (.lload_n 0, 1) := by decide +kernel
theorem dc4_1 : decode prog_58_method_23_code 1 = .ok (.lload_n 0, 1) := by decide +kernel
theorem dc4_2 : decode prog_58_method_23_code 2 = .ok (.bipush 33, 2) := by decide +kernel
theorem dc4_4 : decode prog_58_method_23_code 4 = .ok (.lushr, 1) := by decide +kernel
theorem dc4_5 : decode prog_58_method_23_code 5 = .ok (.lxor, 1) := by decide +kernel
theorem dc4_6 : decode prog_58_method_23_code 6 = .ok (.ldc2_w 103, 3) := by decide +kernel
theorem dc4_9 : decode prog_58_method_23_code 9 = .ok (.lmul, 1) := by decide +kernel
theorem dc4_10 : decode prog_58_method_23_code 10 = .ok (.lstore_n 2, 1) := by decide +kernel
theorem dc4_11 : decode prog_58_method_23_code 11 = .ok (.lload_n 2, 1) := by decide +kernel
theorem dc4_12 : decode prog_58_method_23_code 12 = .ok (.lload_n 2, 1) := by decide +kernel
theorem dc4_13 : decode prog_58_method_23_code 13 = .ok (.bipush 33, 2) := by decide +kernel
theorem dc4_15 : decode prog_58_method_23_code 15 = .ok (.lushr, 1) := by decide +kernel
theorem dc4_16 : decode prog_58_method_23_code 16 = .ok (.lxor, 1) := by decide +kernel
theorem dc4_17 : decode prog_58_method_23_code 17 = .ok (.ldc2_w 105, 3) := by decide +kernel
theorem dc4_20 : decode prog_58_method_23_code 20 = .ok (.lmul, 1) := by decide +kernel
theorem dc4_21 : decode prog_58_method_23_code 21 = .ok (.lstore_n 2, 1) := by decide +kernel
theorem dc4_22 : decode prog_58_method_23_code 22 = .ok (.lload_n 2, 1) := by decide +kernel
theorem dc4_23 : decode prog_58_method_23_code 23 = .ok (.lload_n 2, 1) := by decide +kernel
theorem dc4_24 : decode prog_58_method_23_code 24 = .ok (.bipush 33, 2) := by decide +kernel
theorem dc4_26 : decode prog_58_method_23_code 26 = .ok (.lushr, 1) := by decide +kernel
theorem dc4_27 : decode prog_58_method_23_code 27 = .ok (.lxor, 1) := by decide +kernel
theorem dc4_28 : decode prog_58_method_23_code 28 = .ok (.l2i, 1) := by decide +kernel
theorem dc4_29 : decode prog_58_method_23_code 29 = .ok (.ireturn, 1) := by decide +kernel
set_option maxRecDepth 65536 in
set_option maxHeartbeats 40000000 in
theorem rmHj (l : Launch) (Z : State) (a0 : Array Value) (hw : ∀ d ∈ tables_1, d.before a0 Z = true) (ws : List Jvm.Cond) (q1 : Int64) (h0 : Heap) (n0 : Nat) (O0 : Old Z n0 h0) :
    MetFree l (⟨"com/example/keyfold/keyfold/KeyTable", "hash", "(J)I"⟩ : MethodName) (head1 (Jvm.Cond.code (⟨"com/example/keyfold/keyfold/KeyTable", "hash", "(J)I"⟩ : MethodName) prog_58_method_23_code 4 (some .int) :: ws) ({ frames := 0, cells := 0, slots := 0, locals := 0 } : Room)) (fun a U => a = #[(.long q1)] ∧ Z.Warmed39 U.vm ∧ U.heap = h0) (fun _ _ _ _ _ => True) (fun _ U o U' => ∃ v L, o = .returned v ∧ Q_hj q1 h0 n0 v U'.heap L ∧ FrameEnd U o U' L ({ frames := 0, cells := 0, slots := 0, locals := 0 } : Room).cells ({ frames := 0, cells := 0, slots := 0, locals := 0 } : Room).slots) := by
  refine MetFree.of_bodySF (plainFor_of_name pn_1) hisR ?_
  intro p e s m args below meth c s₁ Bd hml0 hP hK
  obtain ⟨rfl, hZ, hh⟩ := hP
  have hx := Bd.exec
  have hby := Bd.bytes
  have hml : c.maxLocals = 4 := hml0
  have hown : s.vm.findClass "com/example/keyfold/keyfold/KeyTable" = some m.cls := findClass_of_methodNamed Bd.named
  have hnm := (name_of_methodNamed Bd.named Bd.method).1
  have X0 : Stand p l e ({ frames := 0, cells := 0, slots := 0, locals := 0 } : Room) s m #[(.long q1)] below meth c s₁ [] 0 0 := Stand.of_body Bd
  have e0 : s₁.heap = h0 := by rw [← hh, Bd.state]; rfl
  have N0 := Fr.nil n0
  have pre0 : ∀ t, Steps p.tables e below (s₁.setTop (mkF m 0 #[.val (.long q1), .second, .unset, .unset] [])) t → Steps p.tables e below (s₁.setTop (entryFrame m #[(.long q1)] 4)) t := fun t k => castTop (ef_3 m q1) k
  obtain ⟨fs, hr, hrun, hended, hW, hsame⟩ := X0.leave (v := some (.int ((((((q1 ^^^ ((q1.toUInt64 >>> ((33 : Int32) &&& 0x3f).toInt64.toUInt64).toInt64)) * (-49064778989728563 : Int64)) ^^^ ((((q1 ^^^ ((q1.toUInt64 >>> ((33 : Int32) &&& 0x3f).toInt64.toUInt64).toInt64)) * (-49064778989728563 : Int64)).toUInt64 >>> ((33 : Int32) &&& 0x3f).toInt64.toUInt64).toInt64)) * (-4265267296055464877 : Int64)) ^^^ ((((((q1 ^^^ ((q1.toUInt64 >>> ((33 : Int32) &&& 0x3f).toInt64.toUInt64).toInt64)) * (-49064778989728563 : Int64)) ^^^ ((((q1 ^^^ ((q1.toUInt64 >>> ((33 : Int32) &&& 0x3f).toInt64.toUInt64).toInt64)) * (-49064778989728563 : Int64)).toUInt64 >>> ((33 : Int32) &&& 0x3f).toInt64.toUInt64).toInt64)) * (-4265267296055464877 : Int64)).toUInt64 >>> ((33 : Int32) &&& 0x3f).toInt64.toUInt64).toInt64)).toInt32))) (fun h => by rw [Bd.returns] at h; cases h)
  refine ⟨_, _, pre0 _ ?_, hrun, hended, _, _, rfl, ?_, ⟨_, rfl⟩, hW, hsame.mono (by decide) (by decide)⟩
  · skip
    show Steps p.tables e below (s₁.setTop (mkF m 0 #[.val (.long q1), .second, .unset, .unset] [])) _
    refine XS.lloadN X0.here hx rfl (hb hby dc4_0) rfl ?_
    show Steps p.tables e below (s₁.setTop (mkF m 1 #[.val (.long q1), .second, .unset, .unset] [(.long q1)])) _
    refine XS.lloadN X0.here hx rfl (hb hby dc4_1) rfl ?_
    show Steps p.tables e below (s₁.setTop (mkF m 2 #[.val (.long q1), .second, .unset, .unset] [(.long q1), (.long q1)])) _
    refine XS.bipush X0.here hx rfl (hb hby dc4_2) ?_
    show Steps p.tables e below (s₁.setTop (mkF m 4 #[.val (.long q1), .second, .unset, .unset] [(.int (33 : Int32)), (.long q1), (.long q1)])) _
    refine XS.lushr X0.here hx rfl (hb hby dc4_4) rfl ?_
    show Steps p.tables e below (s₁.setTop (mkF m 5 #[.val (.long q1), .second, .unset, .unset] [(.long ((q1.toUInt64 >>> ((33 : Int32) &&& 0x3f).toInt64.toUInt64).toInt64)), (.long q1)])) _
    refine XS.lxor X0.here hx rfl (hb hby dc4_5) rfl ?_
    show Steps p.tables e below (s₁.setTop (mkF m 6 #[.val (.long q1), .second, .unset, .unset] [(.long (q1 ^^^ ((q1.toUInt64 >>> ((33 : Int32) &&& 0x3f).toInt64.toUInt64).toInt64)))])) _
    refine X0.ldc2Long hx hown (mvT hZ (hw _ (List.mem_of_getElem? (i := 63) rfl))) (g := (mkF m 6 #[.val (.long q1), .second, .unset, .unset] [(.long (q1 ^^^ ((q1.toUInt64 >>> ((33 : Int32) &&& 0x3f).toInt64.toUInt64).toInt64)))])) rfl (hb hby dc4_6) _ ?_
    show Steps p.tables e below (s₁.setTop (mkF m 9 #[.val (.long q1), .second, .unset, .unset] [(.long (-49064778989728563 : Int64)), (.long (q1 ^^^ ((q1.toUInt64 >>> ((33 : Int32) &&& 0x3f).toInt64.toUInt64).toInt64)))])) _
    refine XS.lmul X0.here hx rfl (hb hby dc4_9) rfl ?_
    show Steps p.tables e below (s₁.setTop (mkF m 10 #[.val (.long q1), .second, .unset, .unset] [(.long ((q1 ^^^ ((q1.toUInt64 >>> ((33 : Int32) &&& 0x3f).toInt64.toUInt64).toInt64)) * (-49064778989728563 : Int64)))])) _
    refine XS.lstoreN X0.here hx rfl (hb hby dc4_10) rfl (l' := #[.val (.long q1), .second, .val (.long ((q1 ^^^ ((q1.toUInt64 >>> ((33 : Int32) &&& 0x3f).toInt64.toUInt64).toInt64)) * (-49064778989728563 : Int64))), .second]) rfl ?_
    show Steps p.tables e below (s₁.setTop (mkF m 11 #[.val (.long q1), .second, .val (.long ((q1 ^^^ ((q1.toUInt64 >>> ((33 : Int32) &&& 0x3f).toInt64.toUInt64).toInt64)) * (-49064778989728563 : Int64))), .second] [])) _
    refine XS.lloadN X0.here hx rfl (hb hby dc4_11) rfl ?_
    show Steps p.tables e below (s₁.setTop (mkF m 12 #[.val (.long q1), .second, .val (.long ((q1 ^^^ ((q1.toUInt64 >>> ((33 : Int32) &&& 0x3f).toInt64.toUInt64).toInt64)) * (-49064778989728563 : Int64))), .second] [(.long ((q1 ^^^ ((q1.toUInt64 >>> ((33 : Int32) &&& 0x3f).toInt64.toUInt64).toInt64)) * (-49064778989728563 : Int64)))])) _
    refine XS.lloadN X0.here hx rfl (hb hby dc4_12) rfl ?_
    show Steps p.tables e below (s₁.setTop (mkF m 13 #[.val (.long q1), .second, .val (.long ((q1 ^^^ ((q1.toUInt64 >>> ((33 : Int32) &&& 0x3f).toInt64.toUInt64).toInt64)) * (-49064778989728563 : Int64))), .second] [(.long ((q1 ^^^ ((q1.toUInt64 >>> ((33 : Int32) &&& 0x3f).toInt64.toUInt64).toInt64)) * (-49064778989728563 : Int64))), (.long ((q1 ^^^ ((q1.toUInt64 >>> ((33 : Int32) &&& 0x3f).toInt64.toUInt64).toInt64)) * (-49064778989728563 : Int64)))])) _
    refine XS.bipush X0.here hx rfl (hb hby dc4_13) ?_
    show Steps p.tables e below (s₁.setTop (mkF m 15 #[.val (.long q1), .second, .val (.long ((q1 ^^^ ((q1.toUInt64 >>> ((33 : Int32) &&& 0x3f).toInt64.toUInt64).toInt64)) * (-49064778989728563 : Int64))), .second] [(.int (33 : Int32)), (.long ((q1 ^^^ ((q1.toUInt64 >>> ((33 : Int32) &&& 0x3f).toInt64.toUInt64).toInt64)) * (-49064778989728563 : Int64))), (.long ((q1 ^^^ ((q1.toUInt64 >>> ((33 : Int32) &&& 0x3f).toInt64.toUInt64).toInt64)) * (-49064778989728563 : Int64)))])) _
    refine XS.lushr X0.here hx rfl (hb hby dc4_15) rfl ?_
    show Steps p.tables e below (s₁.setTop (mkF m 16 #[.val (.long q1), .second, .val (.long ((q1 ^^^ ((q1.toUInt64 >>> ((33 : Int32) &&& 0x3f).toInt64.toUInt64).toInt64)) * (-49064778989728563 : Int64))), .second] [(.long ((((q1 ^^^ ((q1.toUInt64 >>> ((33 : Int32) &&& 0x3f).toInt64.toUInt64).toInt64)) * (-49064778989728563 : Int64)).toUInt64 >>> ((33 : Int32) &&& 0x3f).toInt64.toUInt64).toInt64)), (.long ((q1 ^^^ ((q1.toUInt64 >>> ((33 : Int32) &&& 0x3f).toInt64.toUInt64).toInt64)) * (-49064778989728563 : Int64)))])) _
    refine XS.lxor X0.here hx rfl (hb hby dc4_16) rfl ?_
    show Steps p.tables e below (s₁.setTop (mkF m 17 #[.val (.long q1), .second, .val (.long ((q1 ^^^ ((q1.toUInt64 >>> ((33 : Int32) &&& 0x3f).toInt64.toUInt64).toInt64)) * (-49064778989728563 : Int64))), .second] [(.long (((q1 ^^^ ((q1.toUInt64 >>> ((33 : Int32) &&& 0x3f).toInt64.toUInt64).toInt64)) * (-49064778989728563 : Int64)) ^^^ ((((q1 ^^^ ((q1.toUInt64 >>> ((33 : Int32) &&& 0x3f).toInt64.toUInt64).toInt64)) * (-49064778989728563 : Int64)).toUInt64 >>> ((33 : Int32) &&& 0x3f).toInt64.toUInt64).toInt64)))])) _
    refine X0.ldc2Long hx hown (mvT hZ (hw _ (List.mem_of_getElem? (i := 64) rfl))) (g := (mkF m 17 #[.val (.long q1), .second, .val (.long ((q1 ^^^ ((q1.toUInt64 >>> ((33 : Int32) &&& 0x3f).toInt64.toUInt64).toInt64)) * (-49064778989728563 : Int64))), .second] [(.long (((q1 ^^^ ((q1.toUInt64 >>> ((33 : Int32) &&& 0x3f).toInt64.toUInt64).toInt64)) * (-49064778989728563 : Int64)) ^^^ ((((q1 ^^^ ((q1.toUInt64 >>> ((33 : Int32) &&& 0x3f).toInt64.toUInt64).toInt64)) * (-49064778989728563 : Int64)).toUInt64 >>> ((33 : Int32) &&& 0x3f).toInt64.toUInt64).toInt64)))])) rfl (hb hby dc4_17) _ ?_
    show Steps p.tables e below (s₁.setTop (mkF m 20 #[.val (.long q1), .second, .val (.long ((q1 ^^^ ((q1.toUInt64 >>> ((33 : Int32) &&& 0x3f).toInt64.toUInt64).toInt64)) * (-49064778989728563 : Int64))), .second] [(.long (-4265267296055464877 : Int64)), (.long (((q1 ^^^ ((q1.toUInt64 >>> ((33 : Int32) &&& 0x3f).toInt64.toUInt64).toInt64)) * (-49064778989728563 : Int64)) ^^^ ((((q1 ^^^ ((q1.toUInt64 >>> ((33 : Int32) &&& 0x3f).toInt64.toUInt64).toInt64)) * (-49064778989728563 : Int64)).toUInt64 >>> ((33 : Int32) &&& 0x3f).toInt64.toUInt64).toInt64)))])) _
    refine XS.lmul X0.here hx rfl (hb hby dc4_20) rfl ?_
    show Steps p.tables e below (s₁.setTop (mkF m 21 #[.val (.long q1), .second, .val (.long ((q1 ^^^ ((q1.toUInt64 >>> ((33 : Int32) &&& 0x3f).toInt64.toUInt64).toInt64)) * (-49064778989728563 : Int64))), .second] [(.long ((((q1 ^^^ ((q1.toUInt64 >>> ((33 : Int32) &&& 0x3f).toInt64.toUInt64).toInt64)) * (-49064778989728563 : Int64)) ^^^ ((((q1 ^^^ ((q1.toUInt64 >>> ((33 : Int32) &&& 0x3f).toInt64.toUInt64).toInt64)) * (-49064778989728563 : Int64)).toUInt64 >>> ((33 : Int32) &&& 0x3f).toInt64.toUInt64).toInt64)) * (-4265267296055464877 : Int64)))])) _
    refine XS.lstoreN X0.here hx rfl (hb hby dc4_21) rfl (l' := #[.val (.long q1), .second, .val (.long ((((q1 ^^^ ((q1.toUInt64 >>> ((33 : Int32) &&& 0x3f).toInt64.toUInt64).toInt64)) * (-49064778989728563 : Int64)) ^^^ ((((q1 ^^^ ((q1.toUInt64 >>> ((33 : Int32) &&& 0x3f).toInt64.toUInt64).toInt64)) * (-49064778989728563 : Int64)).toUInt64 >>> ((33 : Int32) &&& 0x3f).toInt64.toUInt64).toInt64)) * (-4265267296055464877 : Int64))), .second]) rfl ?_
    show Steps p.tables e below (s₁.setTop (mkF m 22 #[.val (.long q1), .second, .val (.long ((((q1 ^^^ ((q1.toUInt64 >>> ((33 : Int32) &&& 0x3f).toInt64.toUInt64).toInt64)) * (-49064778989728563 : Int64)) ^^^ ((((q1 ^^^ ((q1.toUInt64 >>> ((33 : Int32) &&& 0x3f).toInt64.toUInt64).toInt64)) * (-49064778989728563 : Int64)).toUInt64 >>> ((33 : Int32) &&& 0x3f).toInt64.toUInt64).toInt64)) * (-4265267296055464877 : Int64))), .second] [])) _
    refine XS.lloadN X0.here hx rfl (hb hby dc4_22) rfl ?_
    show Steps p.tables e below (s₁.setTop (mkF m 23 #[.val (.long q1), .second, .val (.long ((((q1 ^^^ ((q1.toUInt64 >>> ((33 : Int32) &&& 0x3f).toInt64.toUInt64).toInt64)) * (-49064778989728563 : Int64)) ^^^ ((((q1 ^^^ ((q1.toUInt64 >>> ((33 : Int32) &&& 0x3f).toInt64.toUInt64).toInt64)) * (-49064778989728563 : Int64)).toUInt64 >>> ((33 : Int32) &&& 0x3f).toInt64.toUInt64).toInt64)) * (-4265267296055464877 : Int64))), .second] [(.long ((((q1 ^^^ ((q1.toUInt64 >>> ((33 : Int32) &&& 0x3f).toInt64.toUInt64).toInt64)) * (-49064778989728563 : Int64)) ^^^ ((((q1 ^^^ ((q1.toUInt64 >>> ((33 : Int32) &&& 0x3f).toInt64.toUInt64).toInt64)) * (-49064778989728563 : Int64)).toUInt64 >>> ((33 : Int32) &&& 0x3f).toInt64.toUInt64).toInt64)) * (-4265267296055464877 : Int64)))])) _
    refine XS.lloadN X0.here hx rfl (hb hby dc4_23) rfl ?_
    show Steps p.tables e below (s₁.setTop (mkF m 24 #[.val (.long q1), .second, .val (.long ((((q1 ^^^ ((q1.toUInt64 >>> ((33 : Int32) &&& 0x3f).toInt64.toUInt64).toInt64)) * (-49064778989728563 : Int64)) ^^^ ((((q1 ^^^ ((q1.toUInt64 >>> ((33 : Int32) &&& 0x3f).toInt64.toUInt64).toInt64)) * (-49064778989728563 : Int64)).toUInt64 >>> ((33 : Int32) &&& 0x3f).toInt64.toUInt64).toInt64)) * (-4265267296055464877 : Int64))), .second] [(.long ((((q1 ^^^ ((q1.toUInt64 >>> ((33 : Int32) &&& 0x3f).toInt64.toUInt64).toInt64)) * (-49064778989728563 : Int64)) ^^^ ((((q1 ^^^ ((q1.toUInt64 >>> ((33 : Int32) &&& 0x3f).toInt64.toUInt64).toInt64)) * (-49064778989728563 : Int64)).toUInt64 >>> ((33 : Int32) &&& 0x3f).toInt64.toUInt64).toInt64)) * (-4265267296055464877 : Int64))), (.long ((((q1 ^^^ ((q1.toUInt64 >>> ((33 : Int32) &&& 0x3f).toInt64.toUInt64).toInt64)) * (-49064778989728563 : Int64)) ^^^ ((((q1 ^^^ ((q1.toUInt64 >>> ((33 : Int32) &&& 0x3f).toInt64.toUInt64).toInt64)) * (-49064778989728563 : Int64)).toUInt64 >>> ((33 : Int32) &&& 0x3f).toInt64.toUInt64).toInt64)) * (-4265267296055464877 : Int64)))])) _
    refine XS.bipush X0.here hx rfl (hb hby dc4_24) ?_
    show Steps p.tables e below (s₁.setTop (mkF m 26 #[.val (.long q1), .second, .val (.long ((((q1 ^^^ ((q1.toUInt64 >>> ((33 : Int32) &&& 0x3f).toInt64.toUInt64).toInt64)) * (-49064778989728563 : Int64)) ^^^ ((((q1 ^^^ ((q1.toUInt64 >>> ((33 : Int32) &&& 0x3f).toInt64.toUInt64).toInt64)) * (-49064778989728563 : Int64)).toUInt64 >>> ((33 : Int32) &&& 0x3f).toInt64.toUInt64).toInt64)) * (-4265267296055464877 : Int64))), .second] [(.int (33 : Int32)), (.long ((((q1 ^^^ ((q1.toUInt64 >>> ((33 : Int32) &&& 0x3f).toInt64.toUInt64).toInt64)) * (-49064778989728563 : Int64)) ^^^ ((((q1 ^^^ ((q1.toUInt64 >>> ((33 : Int32) &&& 0x3f).toInt64.toUInt64).toInt64)) * (-49064778989728563 : Int64)).toUInt64 >>> ((33 : Int32) &&& 0x3f).toInt64.toUInt64).toInt64)) * (-4265267296055464877 : Int64))), (.long ((((q1 ^^^ ((q1.toUInt64 >>> ((33 : Int32) &&& 0x3f).toInt64.toUInt64).toInt64)) * (-49064778989728563 : Int64)) ^^^ ((((q1 ^^^ ((q1.toUInt64 >>> ((33 : Int32) &&& 0x3f).toInt64.toUInt64).toInt64)) * (-49064778989728563 : Int64)).toUInt64 >>> ((33 : Int32) &&& 0x3f).toInt64.toUInt64).toInt64)) * (-4265267296055464877 : Int64)))])) _
    refine XS.lushr X0.here hx rfl (hb hby dc4_26) rfl ?_
    show Steps p.tables e below (s₁.setTop (mkF m 27 #[.val (.long q1), .second, .val (.long ((((q1 ^^^ ((q1.toUInt64 >>> ((33 : Int32) &&& 0x3f).toInt64.toUInt64).toInt64)) * (-49064778989728563 : Int64)) ^^^ ((((q1 ^^^ ((q1.toUInt64 >>> ((33 : Int32) &&& 0x3f).toInt64.toUInt64).toInt64)) * (-49064778989728563 : Int64)).toUInt64 >>> ((33 : Int32) &&& 0x3f).toInt64.toUInt64).toInt64)) * (-4265267296055464877 : Int64))), .second] [(.long ((((((q1 ^^^ ((q1.toUInt64 >>> ((33 : Int32) &&& 0x3f).toInt64.toUInt64).toInt64)) * (-49064778989728563 : Int64)) ^^^ ((((q1 ^^^ ((q1.toUInt64 >>> ((33 : Int32) &&& 0x3f).toInt64.toUInt64).toInt64)) * (-49064778989728563 : Int64)).toUInt64 >>> ((33 : Int32) &&& 0x3f).toInt64.toUInt64).toInt64)) * (-4265267296055464877 : Int64)).toUInt64 >>> ((33 : Int32) &&& 0x3f).toInt64.toUInt64).toInt64)), (.long ((((q1 ^^^ ((q1.toUInt64 >>> ((33 : Int32) &&& 0x3f).toInt64.toUInt64).toInt64)) * (-49064778989728563 : Int64)) ^^^ ((((q1 ^^^ ((q1.toUInt64 >>> ((33 : Int32) &&& 0x3f).toInt64.toUInt64).toInt64)) * (-49064778989728563 : Int64)).toUInt64 >>> ((33 : Int32) &&& 0x3f).toInt64.toUInt64).toInt64)) * (-4265267296055464877 : Int64)))])) _
    refine XS.lxor X0.here hx rfl (hb hby dc4_27) rfl ?_
    show Steps p.tables e below (s₁.setTop (mkF m 28 #[.val (.long q1), .second, .val (.long ((((q1 ^^^ ((q1.toUInt64 >>> ((33 : Int32) &&& 0x3f).toInt64.toUInt64).toInt64)) * (-49064778989728563 : Int64)) ^^^ ((((q1 ^^^ ((q1.toUInt64 >>> ((33 : Int32) &&& 0x3f).toInt64.toUInt64).toInt64)) * (-49064778989728563 : Int64)).toUInt64 >>> ((33 : Int32) &&& 0x3f).toInt64.toUInt64).toInt64)) * (-4265267296055464877 : Int64))), .second] [(.long (((((q1 ^^^ ((q1.toUInt64 >>> ((33 : Int32) &&& 0x3f).toInt64.toUInt64).toInt64)) * (-49064778989728563 : Int64)) ^^^ ((((q1 ^^^ ((q1.toUInt64 >>> ((33 : Int32) &&& 0x3f).toInt64.toUInt64).toInt64)) * (-49064778989728563 : Int64)).toUInt64 >>> ((33 : Int32) &&& 0x3f).toInt64.toUInt64).toInt64)) * (-4265267296055464877 : Int64)) ^^^ ((((((q1 ^^^ ((q1.toUInt64 >>> ((33 : Int32) &&& 0x3f).toInt64.toUInt64).toInt64)) * (-49064778989728563 : Int64)) ^^^ ((((q1 ^^^ ((q1.toUInt64 >>> ((33 : Int32) &&& 0x3f).toInt64.toUInt64).toInt64)) * (-49064778989728563 : Int64)).toUInt64 >>> ((33 : Int32) &&& 0x3f).toInt64.toUInt64).toInt64)) * (-4265267296055464877 : Int64)).toUInt64 >>> ((33 : Int32) &&& 0x3f).toInt64.toUInt64).toInt64)))])) _
    refine XS.l2i X0.here hx rfl (hb hby dc4_28) rfl ?_
    show Steps p.tables e below (s₁.setTop (mkF m 29 #[.val (.long q1), .second, .val (.long ((((q1 ^^^ ((q1.toUInt64 >>> ((33 : Int32) &&& 0x3f).toInt64.toUInt64).toInt64)) * (-49064778989728563 : Int64)) ^^^ ((((q1 ^^^ ((q1.toUInt64 >>> ((33 : Int32) &&& 0x3f).toInt64.toUInt64).toInt64)) * (-49064778989728563 : Int64)).toUInt64 >>> ((33 : Int32) &&& 0x3f).toInt64.toUInt64).toInt64)) * (-4265267296055464877 : Int64))), .second] [(.int ((((((q1 ^^^ ((q1.toUInt64 >>> ((33 : Int32) &&& 0x3f).toInt64.toUInt64).toInt64)) * (-49064778989728563 : Int64)) ^^^ ((((q1 ^^^ ((q1.toUInt64 >>> ((33 : Int32) &&& 0x3f).toInt64.toUInt64).toInt64)) * (-49064778989728563 : Int64)).toUInt64 >>> ((33 : Int32) &&& 0x3f).toInt64.toUInt64).toInt64)) * (-4265267296055464877 : Int64)) ^^^ ((((((q1 ^^^ ((q1.toUInt64 >>> ((33 : Int32) &&& 0x3f).toInt64.toUInt64).toInt64)) * (-49064778989728563 : Int64)) ^^^ ((((q1 ^^^ ((q1.toUInt64 >>> ((33 : Int32) &&& 0x3f).toInt64.toUInt64).toInt64)) * (-49064778989728563 : Int64)).toUInt64 >>> ((33 : Int32) &&& 0x3f).toInt64.toUInt64).toInt64)) * (-4265267296055464877 : Int64)).toUInt64 >>> ((33 : Int32) &&& 0x3f).toInt64.toUInt64).toInt64)).toInt32))])) _
    exact retI X0 hx Bd.returns (hb hby dc4_29) hr
  · show Q_hj q1 h0 n0 _ s₁.heap _
    rw [e0]
    exact ⟨rfl, N0, rfl⟩
theorem dc5_0 : decode prog_58_method_15_code 0 = .ok (.aload_n 0, 1) := by decide +kernel
theorem dc5_1 : decode prog_58_method_15_code 1 = .ok (.invokevirtual 37, 3) := by decide +kernel
theorem pd_1 : parseMethodDescriptor "()Z" = some ⟨[], some .boolean⟩ := by decide +kernel
theorem dc5_4 : decode prog_58_method_15_code 4 = .ok (.ifCond .eq 13, 3) := by decide +kernel
theorem dc5_7 : decode prog_58_method_15_code 7 = .ok (.aload_n 0, 1) := by decide +kernel
theorem dc5_8 : decode prog_58_method_15_code 8 = .ok (.invokevirtual 43, 3) := by decide +kernel
theorem pd_2 : parseMethodDescriptor "()J" = some ⟨[], some .long⟩ := by decide +kernel
theorem dc5_11 : decode prog_58_method_15_code 11 = .ok (.invokestatic 87, 3) := by decide +kernel
theorem pd_3 : parseMethodDescriptor "(J)I" = some ⟨[.long], some .int⟩ := by decide +kernel
theorem dc5_14 : decode prog_58_method_15_code 14 = .ok (.goto 11, 3) := by decide +kernel
theorem dc5_25 : decode prog_58_method_15_code 25 = .ok (.ireturn, 1) := by decide +kernel
set_option maxRecDepth 65536 in
set_option maxHeartbeats 40000000 in
theorem rmHk (l : Launch) (Z : State) (a0 : Array Value) (hw : ∀ d ∈ tables_1, d.before a0 Z = true) (ws : List Jvm.Cond) (a1 : Addr) (q1 : Int64) (h0 : Heap) (n0 : Nat) (O0 : Old Z n0 h0) (Ek : Exa Z h0 a1 "com/example/keyfold/keyfold/Key") (Fp : Fld Z h0 a1 "com/example/keyfold/keyfold/Key" "parts" "[Ljava/lang/Object;" .null) (Fi : Fld Z h0 a1 "com/example/keyfold/keyfold/Key" "integer" "J" (.long q1)) :
    MetFree l (⟨"com/example/keyfold/keyfold/KeyTable", "hash", "(Lcom/example/keyfold/keyfold/Key;)I"⟩ : MethodName) (head1 (Jvm.Cond.code (⟨"com/example/keyfold/keyfold/KeyTable", "hash", "(Lcom/example/keyfold/keyfold/Key;)I"⟩ : MethodName) prog_58_method_15_code 1 (some .int) :: ws) ({ frames := 1, cells := 0, slots := 0, locals := 15 } : Room)) (fun a U => a = #[(.ref a1)] ∧ Z.Warmed39 U.vm ∧ U.heap = h0) (fun _ _ _ _ _ => True) (fun _ U o U' => ∃ v L, o = .returned v ∧ Q_hj q1 h0 n0 v U'.heap L ∧ FrameEnd U o U' L ({ frames := 1, cells := 0, slots := 0, locals := 15 } : Room).cells ({ frames := 1, cells := 0, slots := 0, locals := 15 } : Room).slots) := by
  refine MetFree.of_bodySF (plainFor_of_name pn_1) hisR ?_
  intro p e s m args below meth c s₁ Bd hml0 hP hK
  obtain ⟨rfl, hZ, hh⟩ := hP
  have hx := Bd.exec
  have hby := Bd.bytes
  have hml : c.maxLocals = 1 := hml0
  have hown : s.vm.findClass "com/example/keyfold/keyfold/KeyTable" = some m.cls := findClass_of_methodNamed Bd.named
  have hnm := (name_of_methodNamed Bd.named Bd.method).1
  have X0 : Stand p l e ({ frames := 1, cells := 0, slots := 0, locals := 15 } : Room) s m #[(.ref a1)] below meth c s₁ [] 0 0 := Stand.of_body Bd
  have e0 : s₁.heap = h0 := by rw [← hh, Bd.state]; rfl
  have N0 := Fr.nil n0
  have pre0 : ∀ t, Steps p.tables e below (s₁.setTop (mkF m 0 #[.val (.ref a1)] [])) t → Steps p.tables e below (s₁.setTop (entryFrame m #[(.ref a1)] 1)) t := fun t k => castTop (ef_2 m a1) k
  obtain ⟨cq101, kq101, q101a, q101b, q101c⟩ := isOf hZ e0 Ek
  obtain ⟨_, _, ⟨T101, L101, k101, n101⟩, -, X101, ⟨Lc101, hQ101, l101, y101, z101⟩, st101⟩ := X0.virtualBack hx (y := (⟨"com/example/keyfold/keyfold/Key", "isInteger", "()Z"⟩ : MethodName)) (z := (⟨"com/example/keyfold/keyfold/Key", "isInteger", "()Z"⟩ : MethodName)) hown (mvT hZ (hw _ (List.mem_of_getElem? (i := 50) rfl))) (mvT hZ (hw _ (List.mem_of_getElem? (i := 51) rfl))) (notFace_of_selects (args := #[]) (mvT hZ (hw _ (List.mem_of_getElem? (i := 53) rfl)))) (mvT hZ (hw _ (List.mem_of_getElem? (i := 53) rfl))) (mvT hZ (hw _ (List.mem_of_getElem? (i := 52) rfl))) (by decide) (backOf (W := 0) (rmIs l Z a0 hw [] a1 h0 n0 O0 Fp) hZ (hw _ (List.mem_of_getElem? (i := 54) rfl)) (hw _ (List.mem_of_getElem? (i := 2) rfl)) (by decide) (by decide)) q101a q101c (g := (mkF m 1 #[.val (.ref a1)] [(.ref a1)])) rfl (by rw [hml]; rfl) (Steps.refl _) (argsL := []) (rest := []) (lenOf pd_1 rfl) rfl (by show 2 * 0 + _ ≤ _; exact Nat.le_of_eq rfl) (hb hby dc5_1) (fun _ _ => ⟨rfl, e0, (by decide : 0 + 0 ≤ _), (by decide : 0 + 0 ≤ _)⟩)
  dsimp only [Pt.U, Pt.locs, Pt.cells, Pt.slots] at X101 l101 y101 z101 st101 hQ101
  subst l101 y101 z101
  obtain ⟨rfl, N101q, hh101⟩ := hQ101
  have N101 := Fr.app N0 N101q
  obtain ⟨cq102, kq102, q102a, q102b, q102c⟩ := isOf hZ hh101 Ek
  obtain ⟨_, _, ⟨T102, L102, k102, n102⟩, -, X102, ⟨Lc102, hQ102, l102, y102, z102⟩, st102⟩ := X101.virtualBack hx (y := (⟨"com/example/keyfold/keyfold/Key", "integer", "()J"⟩ : MethodName)) (z := (⟨"com/example/keyfold/keyfold/Key", "integer", "()J"⟩ : MethodName)) hown (mvT hZ (hw _ (List.mem_of_getElem? (i := 55) rfl))) (mvT hZ (hw _ (List.mem_of_getElem? (i := 56) rfl))) (notFace_of_selects (args := #[]) (mvT hZ (hw _ (List.mem_of_getElem? (i := 58) rfl)))) (mvT hZ (hw _ (List.mem_of_getElem? (i := 58) rfl))) (mvT hZ (hw _ (List.mem_of_getElem? (i := 57) rfl))) (by decide) (backOf (W := 0) (rmIn l Z a0 hw [] a1 q1 h0 n0 O0 Fi) hZ (hw _ (List.mem_of_getElem? (i := 59) rfl)) (hw _ (List.mem_of_getElem? (i := 2) rfl)) (by decide) (by decide)) q102a q102c (g := (mkF m 8 #[.val (.ref a1)] [(.ref a1)])) rfl (by rw [hml]; rfl) (Steps.refl _) (argsL := []) (rest := []) (lenOf pd_2 rfl) rfl (by show 2 * 0 + _ ≤ _; exact Nat.le_of_eq rfl) (hb hby dc5_8) (fun _ _ => ⟨rfl, hh101, (by decide : 0 + 0 ≤ _), (by decide : 0 + 0 ≤ _)⟩)
  dsimp only [Pt.U, Pt.locs, Pt.cells, Pt.slots] at X102 l102 y102 z102 st102 hQ102
  subst l102 y102 z102
  obtain ⟨rfl, N102q, hh102⟩ := hQ102
  have N102 := Fr.app N101 N102q
  obtain ⟨_, _, ⟨T103, L103, k103, n103⟩, -, X103, ⟨Lc103, hQ103, l103, y103, z103⟩, st103⟩ := Jvm.LawKit.callS X102 hx (y := (⟨"com/example/keyfold/keyfold/KeyTable", "hash", "(J)I"⟩ : MethodName)) hown (mvT hZ (hw _ (List.mem_of_getElem? (i := 60) rfl))) (mvT hZ (hw _ (List.mem_of_getElem? (i := 61) rfl))) (mvT hZ (hw _ (List.mem_of_getElem? (i := 18) rfl))) (mvT hZ (hw _ (List.mem_of_getElem? (i := 62) rfl))) (by decide) (backOf (W := 0) (rmHj l Z a0 hw [] q1 h0 n0 O0) hZ (hw _ (List.mem_of_getElem? (i := 62) rfl)) (hw _ (List.mem_of_getElem? (i := 18) rfl)) (by decide) (by decide)) (g := (mkF m 11 #[.val (.ref a1)] [(.long q1)])) rfl (by rw [hml]; rfl) (argsL := [(.long q1)]) (rest := []) (lenOf pd_3 rfl) rfl (by show 2 * 0 + _ ≤ _; exact Nat.le_of_eq rfl) (hb hby dc5_11) (fun _ _ => ⟨rfl, hh102, (by decide : 0 + 0 ≤ _), (by decide : 0 + 0 ≤ _)⟩)
  dsimp only [Pt.U, Pt.locs, Pt.cells, Pt.slots] at X103 l103 y103 z103 st103 hQ103
  subst l103 y103 z103
  obtain ⟨rfl, N103q, hh103⟩ := hQ103
  have N103 := Fr.app N102 N103q
  obtain ⟨fs, hr, hrun, hended, hW, hsame⟩ := X103.leave (v := some (.int (own_h q1))) (fun h => by rw [Bd.returns] at h; cases h)
  refine ⟨_, _, pre0 _ ?_, hrun, hended, _, _, rfl, ?_, ⟨_, rfl⟩, hW, hsame.mono (by decide) (by decide)⟩
  · skip
    show Steps p.tables e below (s₁.setTop (mkF m 0 #[.val (.ref a1)] [])) _
    refine XS.aloadN X0.here hx rfl (hb hby dc5_0) rfl rfl ?_
    show Steps p.tables e below (s₁.setTop (mkF m 1 #[.val (.ref a1)] [(.ref a1)])) _
    refine st101.trans ?_
    show Steps p.tables e below (T101.setTop (mkF m 4 #[.val (.ref a1)] [(.int (1 : Int32))])) _
    refine XS.ifNo X101.here hx rfl (hb hby dc5_4) rfl (by decide) ?_
    show Steps p.tables e below (T101.setTop (mkF m 7 #[.val (.ref a1)] [])) _
    refine XS.aloadN X101.here hx rfl (hb hby dc5_7) rfl rfl ?_
    show Steps p.tables e below (T101.setTop (mkF m 8 #[.val (.ref a1)] [(.ref a1)])) _
    refine st102.trans ?_
    show Steps p.tables e below (T102.setTop (mkF m 11 #[.val (.ref a1)] [(.long q1)])) _
    refine st103 _ ?_
    show Steps p.tables e below (T103.setTop (mkF m 14 #[.val (.ref a1)] [(.int (own_h q1))])) _
    refine XS.goto X103.here hx rfl (pc0 := 14) (pc' := 25) rfl (hb hby dc5_14) (by decide) (by decide) ?_
    show Steps p.tables e below (T103.setTop (mkF m 25 #[.val (.ref a1)] [(.int (own_h q1))])) _
    exact retI X103 hx Bd.returns (hb hby dc5_25) hr
  · show Q_hj q1 h0 n0 _ T103.heap _
    rw [hh103]
    exact ⟨rfl, N103, rfl⟩
def Q_val (f1 : Int32 → Int64) (r1 : Int32) (h0 : Heap) (n0 : Nat) (v : Option Value) (h : Heap) (L : List Loc) : Prop := v = some (.long (f1 (((2 : Int32) * r1) + (1 : Int32)))) ∧ Fr n0 L ∧ h = h0
theorem ef_4 (m : MethodId) (x0 : Addr) (x1 : Int32) : entryFrame m #[(.ref x0), (.int x1)] 2 = mkF m 0 #[.val (.ref x0), .val (.int x1)] [] := by first | (simp [entryFrame, mkF, argsToLocals, Value.category]; done) | rfl
theorem dc6_0 : decode prog_58_method_17_code 0 = .ok (.aload_n 0, 1) := by decide +kernel
theorem dc6_1 : decode prog_58_method_17_code 1 = .ok (.getfield 23, 3) := by decide +kernel
theorem dc6_4 : decode prog_58_method_17_code 4 = .ok (.iconst 2, 1) := by decide +kernel
theorem dc6_5 : decode prog_58_method_17_code 5 = .ok (.iload_n 1, 1) := by decide +kernel
theorem dc6_6 : decode prog_58_method_17_code 6 = .ok (.imul, 1) := by decide +kernel
theorem dc6_7 : decode prog_58_method_17_code 7 = .ok (.iconst 1, 1) := by decide +kernel
theorem dc6_8 : decode prog_58_method_17_code 8 = .ok (.iadd, 1) := by decide +kernel
theorem dc6_9 : decode prog_58_method_17_code 9 = .ok (.laload, 1) := by decide +kernel
theorem dc6_10 : decode prog_58_method_17_code 10 = .ok (.lreturn, 1) := by decide +kernel
set_option maxRecDepth 65536 in
set_option maxHeartbeats 40000000 in
theorem rmV (l : Launch) (Z : State) (a0 : Array Value) (hw : ∀ d ∈ tables_1, d.before a0 Z = true) (ws : List Jvm.Cond) (a1 b1 : Addr) (f1 : Int32 → Int64) (r1 : Int32) (h0 : Heap) (n0 : Nat) (O0 : Old Z n0 h0) (Fs : Fld Z h0 a1 "com/example/keyfold/keyfold/KeyTable" "slots" "[J" (.ref b1)) (Lb : Lv Z h0 b1 32 f1) (h16 : own_16 r1) :
    MetFree l (⟨"com/example/keyfold/keyfold/KeyTable", "value", "(I)J"⟩ : MethodName) (head1 (Jvm.Cond.code (⟨"com/example/keyfold/keyfold/KeyTable", "value", "(I)J"⟩ : MethodName) prog_58_method_17_code 2 (some .long) :: ws) ({ frames := 0, cells := 0, slots := 0, locals := 0 } : Room)) (fun a U => a = #[(.ref a1), (.int r1)] ∧ Z.Warmed39 U.vm ∧ U.heap = h0) (fun _ _ _ _ _ => True) (fun _ U o U' => ∃ v L, o = .returned v ∧ Q_val f1 r1 h0 n0 v U'.heap L ∧ FrameEnd U o U' L ({ frames := 0, cells := 0, slots := 0, locals := 0 } : Room).cells ({ frames := 0, cells := 0, slots := 0, locals := 0 } : Room).slots) := by
  refine MetFree.of_bodySF (plainFor_of_name pn_1) hisR ?_
  intro p e s m args below meth c s₁ Bd hml0 hP hK
  obtain ⟨rfl, hZ, hh⟩ := hP
  have hx := Bd.exec
  have hby := Bd.bytes
  have hml : c.maxLocals = 2 := hml0
  have hown : s.vm.findClass "com/example/keyfold/keyfold/KeyTable" = some m.cls := findClass_of_methodNamed Bd.named
  have hnm := (name_of_methodNamed Bd.named Bd.method).1
  have X0 : Stand p l e ({ frames := 0, cells := 0, slots := 0, locals := 0 } : Room) s m #[(.ref a1), (.int r1)] below meth c s₁ [] 0 0 := Stand.of_body Bd
  have e0 : s₁.heap = h0 := by rw [← hh, Bd.state]; rfl
  have N0 := Fr.nil n0
  have pre0 : ∀ t, Steps p.tables e below (s₁.setTop (mkF m 0 #[.val (.ref a1), .val (.int r1)] [])) t → Steps p.tables e below (s₁.setTop (entryFrame m #[(.ref a1), (.int r1)] 2)) t := fun t k => castTop (ef_4 m a1 r1) k
  obtain ⟨T101, X101, e101, st101⟩ := getF X0 hx hZ hown (host := "") (Or.inl (hw _ (List.mem_of_getElem? (i := 29) rfl))) Via.refl e0 Fs (g := (mkF m 1 #[.val (.ref a1), .val (.int r1)] [(.ref a1)])) rfl rfl (hb hby dc6_1)
  obtain ⟨cl102, Ar102, S102, H102⟩ := id Lb
  have hin102 : ¬ ((((2 : Int32) * r1) + (1 : Int32)) < 0 ∨ cl102.slots.size ≤ ((((2 : Int32) * r1) + (1 : Int32))).toNatClampNeg) := by rw [S102]; exact (own_b1 h16)
  have hat102 : cl102.slots[((((2 : Int32) * r1) + (1 : Int32))).toNatClampNeg]? = some (.long (f1 (((2 : Int32) * r1) + (1 : Int32)))) := H102 _ hin102
  obtain ⟨fs, hr, hrun, hended, hW, hsame⟩ := X101.leave (v := some (.long (f1 (((2 : Int32) * r1) + (1 : Int32))))) (fun h => by rw [Bd.returns] at h; cases h)
  refine ⟨_, _, pre0 _ ?_, hrun, hended, _, _, rfl, ?_, ⟨_, rfl⟩, hW, hsame.mono (by decide) (by decide)⟩
  · skip
    show Steps p.tables e below (s₁.setTop (mkF m 0 #[.val (.ref a1), .val (.int r1)] [])) _
    refine XS.aloadN X0.here hx rfl (hb hby dc6_0) rfl rfl ?_
    show Steps p.tables e below (s₁.setTop (mkF m 1 #[.val (.ref a1), .val (.int r1)] [(.ref a1)])) _
    refine st101 _ ?_
    show Steps p.tables e below (T101.setTop (mkF m 4 #[.val (.ref a1), .val (.int r1)] [(.ref b1)])) _
    refine XS.iconst X101.here hx rfl (hb hby dc6_4) ?_
    show Steps p.tables e below (T101.setTop (mkF m 5 #[.val (.ref a1), .val (.int r1)] [(.int (2 : Int32)), (.ref b1)])) _
    refine XS.iloadN X101.here hx rfl (hb hby dc6_5) rfl ?_
    show Steps p.tables e below (T101.setTop (mkF m 6 #[.val (.ref a1), .val (.int r1)] [(.int r1), (.int (2 : Int32)), (.ref b1)])) _
    refine XS.imul X101.here hx rfl (hb hby dc6_6) rfl ?_
    show Steps p.tables e below (T101.setTop (mkF m 7 #[.val (.ref a1), .val (.int r1)] [(.int ((2 : Int32) * r1)), (.ref b1)])) _
    refine XS.iconst X101.here hx rfl (hb hby dc6_7) ?_
    show Steps p.tables e below (T101.setTop (mkF m 8 #[.val (.ref a1), .val (.int r1)] [(.int (1 : Int32)), (.int ((2 : Int32) * r1)), (.ref b1)])) _
    refine XS.iadd X101.here hx rfl (hb hby dc6_8) rfl ?_
    show Steps p.tables e below (T101.setTop (mkF m 9 #[.val (.ref a1), .val (.int r1)] [(.int (((2 : Int32) * r1) + (1 : Int32))), (.ref b1)])) _
    refine X101.laload hx (j := (((2 : Int32) * r1) + (1 : Int32))) (v := (.long (f1 (((2 : Int32) * r1) + (1 : Int32))))) (by rw [e101]; exact Ar102.1) (State.isArrayOf_alike hZ.alike Ar102.2.1) Ar102.2.2 hin102 hat102 (g := (mkF m 9 #[.val (.ref a1), .val (.int r1)] [(.int (((2 : Int32) * r1) + (1 : Int32))), (.ref b1)])) rfl rfl (hb hby dc6_9) _ ?_
    show Steps p.tables e below (T101.setTop (mkF m 10 #[.val (.ref a1), .val (.int r1)] [(.long (f1 (((2 : Int32) * r1) + (1 : Int32))))])) _
    exact retOut X101 hx (t := .long) Bd.returns rfl (Or.inr (Or.inl ⟨rfl, rfl, _, rfl⟩)) (hb hby dc6_10) hr
  · show Q_val f1 r1 h0 n0 _ T101.heap _
    rw [e101]
    exact ⟨rfl, N0, rfl⟩
def Q_find (r1 : Int32) (h0 : Heap) (n0 : Nat) (v : Option Value) (h : Heap) (L : List Loc) : Prop := v = some (.int r1) ∧ Fr n0 L ∧ h = h0
theorem ef_5 (m : MethodId) (x0 : Addr) (x1 : Addr) : entryFrame m #[(.ref x0), (.ref x1)] 5 = mkF m 0 #[.val (.ref x0), .val (.ref x1), .unset, .unset, .unset] [] := by first | (simp [entryFrame, mkF, argsToLocals, Value.category]; done) | rfl
theorem dc7_0 : decode prog_58_method_16_code 0 = .ok (.aload_n 1, 1) := by decide +kernel
theorem dc7_1 : decode prog_58_method_16_code 1 = .ok (.invokevirtual 37, 3) := by decide +kernel
theorem dc7_4 : decode prog_58_method_16_code 4 = .ok (.ifCond .eq 78, 3) := by decide +kernel
theorem dc7_7 : decode prog_58_method_16_code 7 = .ok (.aload_n 1, 1) := by decide +kernel
theorem dc7_8 : decode prog_58_method_16_code 8 = .ok (.invokevirtual 43, 3) := by decide +kernel
theorem dc7_11 : decode prog_58_method_16_code 11 = .ok (.lstore_n 2, 1) := by decide +kernel
theorem dc7_12 : decode prog_58_method_16_code 12 = .ok (.lload_n 2, 1) := by decide +kernel
theorem dc7_13 : decode prog_58_method_16_code 13 = .ok (.invokestatic 87, 3) := by decide +kernel
theorem dc7_16 : decode prog_58_method_16_code 16 = .ok (.aload_n 0, 1) := by decide +kernel
theorem dc7_17 : decode prog_58_method_16_code 17 = .ok (.getfield 31, 3) := by decide +kernel
theorem dc7_20 : decode prog_58_method_16_code 20 = .ok (.iand, 1) := by decide +kernel
theorem dc7_21 : decode prog_58_method_16_code 21 = .ok (.istore 4, 2) := by decide +kernel
theorem dc7_23 : decode prog_58_method_16_code 23 = .ok (.aload_n 0, 1) := by decide +kernel
theorem dc7_24 : decode prog_58_method_16_code 24 = .ok (.iload 4, 2) := by decide +kernel
theorem dc7_26 : decode prog_58_method_16_code 26 = .ok (.invokevirtual 16, 3) := by decide +kernel
theorem pd_4 : parseMethodDescriptor "(I)J" = some ⟨[.int], some .long⟩ := by decide +kernel
theorem dc7_29 : decode prog_58_method_16_code 29 = .ok (.lconst 0, 1) := by decide +kernel
theorem dc7_30 : decode prog_58_method_16_code 30 = .ok (.lcmp, 1) := by decide +kernel
theorem dc7_31 : decode prog_58_method_16_code 31 = .ok (.ifCond .eq 34, 3) := by decide +kernel
theorem dc7_65 : decode prog_58_method_16_code 65 = .ok (.iload 4, 2) := by decide +kernel
theorem dc7_67 : decode prog_58_method_16_code 67 = .ok (.ireturn, 1) := by decide +kernel
theorem dc7_34 : decode prog_58_method_16_code 34 = .ok (.aload_n 0, 1) := by decide +kernel
theorem dc7_35 : decode prog_58_method_16_code 35 = .ok (.getfield 23, 3) := by decide +kernel
theorem dc7_38 : decode prog_58_method_16_code 38 = .ok (.iconst 2, 1) := by decide +kernel
theorem dc7_39 : decode prog_58_method_16_code 39 = .ok (.iload 4, 2) := by decide +kernel
theorem dc7_41 : decode prog_58_method_16_code 41 = .ok (.imul, 1) := by decide +kernel
theorem dc7_42 : decode prog_58_method_16_code 42 = .ok (.laload, 1) := by decide +kernel
theorem dc7_43 : decode prog_58_method_16_code 43 = .ok (.lload_n 2, 1) := by decide +kernel
theorem dc7_44 : decode prog_58_method_16_code 44 = .ok (.lcmp, 1) := by decide +kernel
theorem dc7_45 : decode prog_58_method_16_code 45 = .ok (.ifCond .ne 23, 3) := by decide +kernel
theorem dc7_48 : decode prog_58_method_16_code 48 = .ok (.aload_n 0, 1) := by decide +kernel
theorem dc7_49 : decode prog_58_method_16_code 49 = .ok (.getfield 47, 3) := by decide +kernel
theorem dc7_52 : decode prog_58_method_16_code 52 = .ok (.ifnull 13, 3) := by decide +kernel
theorem dc7_68 : decode prog_58_method_16_code 68 = .ok (.iload 4, 2) := by decide +kernel
theorem dc7_70 : decode prog_58_method_16_code 70 = .ok (.iconst 1, 1) := by decide +kernel
theorem dc7_71 : decode prog_58_method_16_code 71 = .ok (.iadd, 1) := by decide +kernel
theorem dc7_72 : decode prog_58_method_16_code 72 = .ok (.aload_n 0, 1) := by decide +kernel
theorem dc7_73 : decode prog_58_method_16_code 73 = .ok (.getfield 31, 3) := by decide +kernel
theorem dc7_76 : decode prog_58_method_16_code 76 = .ok (.iand, 1) := by decide +kernel
theorem dc7_77 : decode prog_58_method_16_code 77 = .ok (.istore 4, 2) := by decide +kernel
theorem dc7_79 : decode prog_58_method_16_code 79 = .ok (.goto (-56), 3) := by decide +kernel
set_option maxRecDepth 65536 in
set_option maxHeartbeats 40000000 in
theorem rmF (l : Launch) (Z : State) (a0 : Array Value) (hw : ∀ d ∈ tables_1, d.before a0 Z = true) (ws : List Jvm.Cond) (a1 a2 b1 : Addr) (f1 : Int32 → Int64) (n1 r1 : Int32) (q1 p1 : Int64) (h0 : Heap) (n0 : Nat) (O0 : Old Z n0 h0) (Et : Exa Z h0 a1 "com/example/keyfold/keyfold/KeyTable") (Fs : Fld Z h0 a1 "com/example/keyfold/keyfold/KeyTable" "slots" "[J" (.ref b1)) (Fo : Fld Z h0 a1 "com/example/keyfold/keyfold/KeyTable" "others" "[Lcom/example/keyfold/keyfold/Key;" .null) (Fm : Fld Z h0 a1 "com/example/keyfold/keyfold/KeyTable" "mask" "I" (.int (15 : Int32))) (Fz : Fld Z h0 a1 "com/example/keyfold/keyfold/KeyTable" "size" "I" (.int n1)) (Lb : Lv Z h0 b1 32 f1) (Fq : Fld Z h0 a1 "com/example/keyfold/keyfold/KeyTable" "prefetched" "J" (.long p1)) (Ek : Exa Z h0 a2 "com/example/keyfold/keyfold/Key") (Fp : Fld Z h0 a2 "com/example/keyfold/keyfold/Key" "parts" "[Ljava/lang/Object;" .null) (Fi : Fld Z h0 a2 "com/example/keyfold/keyfold/Key" "integer" "J" (.long q1)) (hF : Fnd f1 q1 r1) :
    MetFree l (⟨"com/example/keyfold/keyfold/KeyTable", "find", "(Lcom/example/keyfold/keyfold/Key;)I"⟩ : MethodName) (head1 (Jvm.Cond.code (⟨"com/example/keyfold/keyfold/KeyTable", "find", "(Lcom/example/keyfold/keyfold/Key;)I"⟩ : MethodName) prog_58_method_16_code 5 (some .int) :: ws) ({ frames := 1, cells := 0, slots := 0, locals := 15 } : Room)) (fun a U => a = #[(.ref a1), (.ref a2)] ∧ Z.Warmed39 U.vm ∧ U.heap = h0) (fun _ _ _ _ _ => True) (fun _ U o U' => ∃ v L, o = .returned v ∧ Q_find r1 h0 n0 v U'.heap L ∧ FrameEnd U o U' L ({ frames := 1, cells := 0, slots := 0, locals := 15 } : Room).cells ({ frames := 1, cells := 0, slots := 0, locals := 15 } : Room).slots) := by
  refine MetFree.of_bodySF (plainFor_of_name pn_1) hisR ?_
  intro p e s m args below meth c s₁ Bd hml0 hP hK
  obtain ⟨rfl, hZ, hh⟩ := hP
  have hx := Bd.exec
  have hby := Bd.bytes
  have hml : c.maxLocals = 5 := hml0
  have hown : s.vm.findClass "com/example/keyfold/keyfold/KeyTable" = some m.cls := findClass_of_methodNamed Bd.named
  have hnm := (name_of_methodNamed Bd.named Bd.method).1
  have X0 : Stand p l e ({ frames := 1, cells := 0, slots := 0, locals := 15 } : Room) s m #[(.ref a1), (.ref a2)] below meth c s₁ [] 0 0 := Stand.of_body Bd
  have e0 : s₁.heap = h0 := by rw [← hh, Bd.state]; rfl
  have N0 := Fr.nil n0
  have pre0 : ∀ t, Steps p.tables e below (s₁.setTop (mkF m 0 #[.val (.ref a1), .val (.ref a2), .unset, .unset, .unset] [])) t → Steps p.tables e below (s₁.setTop (entryFrame m #[(.ref a1), (.ref a2)] 5)) t := fun t k => castTop (ef_5 m a1 a2) k
  rcases hF with ⟨hf1, hfr⟩ | ⟨hf1, hf2, hfr⟩ | ⟨hf1, hf2, hf3, hfr⟩ | ⟨hf1, hf2, hf3, hf4, hfr⟩
  · skip
    obtain ⟨cq101, kq101, q101a, q101b, q101c⟩ := isOf hZ e0 Ek
    obtain ⟨_, _, ⟨T101, L101, k101, n101⟩, -, X101, ⟨Lc101, hQ101, l101, y101, z101⟩, st101⟩ := X0.virtualBack hx (y := (⟨"com/example/keyfold/keyfold/Key", "isInteger", "()Z"⟩ : MethodName)) (z := (⟨"com/example/keyfold/keyfold/Key", "isInteger", "()Z"⟩ : MethodName)) hown (mvT hZ (hw _ (List.mem_of_getElem? (i := 50) rfl))) (mvT hZ (hw _ (List.mem_of_getElem? (i := 51) rfl))) (notFace_of_selects (args := #[]) (mvT hZ (hw _ (List.mem_of_getElem? (i := 53) rfl)))) (mvT hZ (hw _ (List.mem_of_getElem? (i := 53) rfl))) (mvT hZ (hw _ (List.mem_of_getElem? (i := 52) rfl))) (by decide) (backOf (W := 0) (rmIs l Z a0 hw [] a2 h0 n0 O0 Fp) hZ (hw _ (List.mem_of_getElem? (i := 54) rfl)) (hw _ (List.mem_of_getElem? (i := 2) rfl)) (by decide) (by decide)) q101a q101c (g := (mkF m 1 #[.val (.ref a1), .val (.ref a2), .unset, .unset, .unset] [(.ref a2)])) rfl (by rw [hml]; rfl) (Steps.refl _) (argsL := []) (rest := []) (lenOf pd_1 rfl) rfl (by show 2 * 0 + _ ≤ _; exact Nat.le_of_eq rfl) (hb hby dc7_1) (fun _ _ => ⟨rfl, e0, (by decide : 0 + 0 ≤ _), (by decide : 0 + 0 ≤ _)⟩)
    dsimp only [Pt.U, Pt.locs, Pt.cells, Pt.slots] at X101 l101 y101 z101 st101 hQ101
    subst l101 y101 z101
    obtain ⟨rfl, N101q, hh101⟩ := hQ101
    have N101 := Fr.app N0 N101q
    obtain ⟨cq102, kq102, q102a, q102b, q102c⟩ := isOf hZ hh101 Ek
    obtain ⟨_, _, ⟨T102, L102, k102, n102⟩, -, X102, ⟨Lc102, hQ102, l102, y102, z102⟩, st102⟩ := X101.virtualBack hx (y := (⟨"com/example/keyfold/keyfold/Key", "integer", "()J"⟩ : MethodName)) (z := (⟨"com/example/keyfold/keyfold/Key", "integer", "()J"⟩ : MethodName)) hown (mvT hZ (hw _ (List.mem_of_getElem? (i := 55) rfl))) (mvT hZ (hw _ (List.mem_of_getElem? (i := 56) rfl))) (notFace_of_selects (args := #[]) (mvT hZ (hw _ (List.mem_of_getElem? (i := 58) rfl)))) (mvT hZ (hw _ (List.mem_of_getElem? (i := 58) rfl))) (mvT hZ (hw _ (List.mem_of_getElem? (i := 57) rfl))) (by decide) (backOf (W := 0) (rmIn l Z a0 hw [] a2 q1 h0 n0 O0 Fi) hZ (hw _ (List.mem_of_getElem? (i := 59) rfl)) (hw _ (List.mem_of_getElem? (i := 2) rfl)) (by decide) (by decide)) q102a q102c (g := (mkF m 8 #[.val (.ref a1), .val (.ref a2), .unset, .unset, .unset] [(.ref a2)])) rfl (by rw [hml]; rfl) (Steps.refl _) (argsL := []) (rest := []) (lenOf pd_2 rfl) rfl (by show 2 * 0 + _ ≤ _; exact Nat.le_of_eq rfl) (hb hby dc7_8) (fun _ _ => ⟨rfl, hh101, (by decide : 0 + 0 ≤ _), (by decide : 0 + 0 ≤ _)⟩)
    dsimp only [Pt.U, Pt.locs, Pt.cells, Pt.slots] at X102 l102 y102 z102 st102 hQ102
    subst l102 y102 z102
    obtain ⟨rfl, N102q, hh102⟩ := hQ102
    have N102 := Fr.app N101 N102q
    obtain ⟨_, _, ⟨T103, L103, k103, n103⟩, -, X103, ⟨Lc103, hQ103, l103, y103, z103⟩, st103⟩ := Jvm.LawKit.callS X102 hx (y := (⟨"com/example/keyfold/keyfold/KeyTable", "hash", "(J)I"⟩ : MethodName)) hown (mvT hZ (hw _ (List.mem_of_getElem? (i := 60) rfl))) (mvT hZ (hw _ (List.mem_of_getElem? (i := 61) rfl))) (mvT hZ (hw _ (List.mem_of_getElem? (i := 18) rfl))) (mvT hZ (hw _ (List.mem_of_getElem? (i := 62) rfl))) (by decide) (backOf (W := 0) (rmHj l Z a0 hw [] q1 h0 n0 O0) hZ (hw _ (List.mem_of_getElem? (i := 62) rfl)) (hw _ (List.mem_of_getElem? (i := 18) rfl)) (by decide) (by decide)) (g := (mkF m 13 #[.val (.ref a1), .val (.ref a2), .val (.long q1), .second, .unset] [(.long q1)])) rfl (by rw [hml]; rfl) (argsL := [(.long q1)]) (rest := []) (lenOf pd_3 rfl) rfl (by show 2 * 0 + _ ≤ _; exact Nat.le_of_eq rfl) (hb hby dc7_13) (fun _ _ => ⟨rfl, hh102, (by decide : 0 + 0 ≤ _), (by decide : 0 + 0 ≤ _)⟩)
    dsimp only [Pt.U, Pt.locs, Pt.cells, Pt.slots] at X103 l103 y103 z103 st103 hQ103
    subst l103 y103 z103
    obtain ⟨rfl, N103q, hh103⟩ := hQ103
    have N103 := Fr.app N102 N103q
    obtain ⟨T104, X104, e104, st104⟩ := getF X103 hx hZ hown (host := "") (Or.inl (hw _ (List.mem_of_getElem? (i := 33) rfl))) Via.refl hh103 Fm (g := (mkF m 17 #[.val (.ref a1), .val (.ref a2), .val (.long q1), .second, .unset] [(.ref a1), (.int (own_h q1))])) rfl rfl (hb hby dc7_17)
    obtain ⟨cq105, q105, q105'⟩ := Exa.cell Et
    obtain ⟨_, _, ⟨T105, L105, k105, n105⟩, -, X105, ⟨Lc105, hQ105, l105, y105, z105⟩, st105⟩ := X104.privateBack hx (y := (⟨"com/example/keyfold/keyfold/KeyTable", "value", "(I)J"⟩ : MethodName)) hown (mvT hZ (hw _ (List.mem_of_getElem? (i := 65) rfl))) (mvT hZ (hw _ (List.mem_of_getElem? (i := 66) rfl))) (mvT hZ (own_sel (y := (⟨"com/example/keyfold/keyfold/KeyTable", "value", "(I)J"⟩ : MethodName)) (hw _ (List.mem_of_getElem? (i := 17) rfl)) (hw _ (List.mem_of_getElem? (i := 67) rfl)) (hw _ (List.mem_of_getElem? (i := 66) rfl)) (by decide))) (Cond.privateMethod_at (mvP hZ (hw _ (List.mem_of_getElem? (i := 67) rfl)) (args := #[]))) (mvT hZ (hw _ (List.mem_of_getElem? (i := 68) rfl))) (by decide) (backOf (W := 0) (rmV l Z a0 hw [] a1 b1 f1 (own_s q1) h0 n0 O0 Fs Lb (own_s16 q1)) hZ (hw _ (List.mem_of_getElem? (i := 68) rfl)) (hw _ (List.mem_of_getElem? (i := 18) rfl)) (by decide) (by decide)) (g := (mkF m 26 #[.val (.ref a1), .val (.ref a2), .val (.long q1), .second, .val (.int (own_s q1))] [(.int (own_s q1)), (.ref a1)])) rfl (by rw [hml]; rfl) (Steps.refl _) (a := a1) (by rw [e104]; exact q105) q105' (argsL := [(.int (own_s q1))]) (rest := []) (lenOf pd_4 rfl) rfl (by show 2 * 0 + _ ≤ _; exact Nat.le_of_eq rfl) (hb hby dc7_26) (fun _ _ => ⟨rfl, e104, (by decide : 0 + 0 ≤ _), (by decide : 0 + 0 ≤ _)⟩)
    dsimp only [Pt.U, Pt.locs, Pt.cells, Pt.slots] at X105 l105 y105 z105 st105 hQ105
    subst l105 y105 z105
    obtain ⟨rfl, N105q, hh105⟩ := hQ105
    have N105 := Fr.app N103 N105q
    obtain ⟨fs, hr, hrun, hended, hW, hsame⟩ := X105.leave (v := some (.int (own_s q1))) (fun h => by rw [Bd.returns] at h; cases h)
    refine ⟨_, _, pre0 _ ?_, hrun, hended, _, _, rfl, ?_, ⟨_, rfl⟩, hW, hsame.mono (by decide) (by decide)⟩
    · skip
      show Steps p.tables e below (s₁.setTop (mkF m 0 #[.val (.ref a1), .val (.ref a2), .unset, .unset, .unset] [])) _
      refine XS.aloadN X0.here hx rfl (hb hby dc7_0) rfl rfl ?_
      show Steps p.tables e below (s₁.setTop (mkF m 1 #[.val (.ref a1), .val (.ref a2), .unset, .unset, .unset] [(.ref a2)])) _
      refine st101.trans ?_
      show Steps p.tables e below (T101.setTop (mkF m 4 #[.val (.ref a1), .val (.ref a2), .unset, .unset, .unset] [(.int (1 : Int32))])) _
      refine XS.ifNo X101.here hx rfl (hb hby dc7_4) rfl (by decide) ?_
      show Steps p.tables e below (T101.setTop (mkF m 7 #[.val (.ref a1), .val (.ref a2), .unset, .unset, .unset] [])) _
      refine XS.aloadN X101.here hx rfl (hb hby dc7_7) rfl rfl ?_
      show Steps p.tables e below (T101.setTop (mkF m 8 #[.val (.ref a1), .val (.ref a2), .unset, .unset, .unset] [(.ref a2)])) _
      refine st102.trans ?_
      show Steps p.tables e below (T102.setTop (mkF m 11 #[.val (.ref a1), .val (.ref a2), .unset, .unset, .unset] [(.long q1)])) _
      refine XS.lstoreN X102.here hx rfl (hb hby dc7_11) rfl (l' := #[.val (.ref a1), .val (.ref a2), .val (.long q1), .second, .unset]) rfl ?_
      show Steps p.tables e below (T102.setTop (mkF m 12 #[.val (.ref a1), .val (.ref a2), .val (.long q1), .second, .unset] [])) _
      refine XS.lloadN X102.here hx rfl (hb hby dc7_12) rfl ?_
      show Steps p.tables e below (T102.setTop (mkF m 13 #[.val (.ref a1), .val (.ref a2), .val (.long q1), .second, .unset] [(.long q1)])) _
      refine st103 _ ?_
      show Steps p.tables e below (T103.setTop (mkF m 16 #[.val (.ref a1), .val (.ref a2), .val (.long q1), .second, .unset] [(.int (own_h q1))])) _
      refine XS.aloadN X103.here hx rfl (hb hby dc7_16) rfl rfl ?_
      show Steps p.tables e below (T103.setTop (mkF m 17 #[.val (.ref a1), .val (.ref a2), .val (.long q1), .second, .unset] [(.ref a1), (.int (own_h q1))])) _
      refine st104 _ ?_
      show Steps p.tables e below (T104.setTop (mkF m 20 #[.val (.ref a1), .val (.ref a2), .val (.long q1), .second, .unset] [(.int (15 : Int32)), (.int (own_h q1))])) _
      refine XS.iand X104.here hx rfl (hb hby dc7_20) rfl ?_
      show Steps p.tables e below (T104.setTop (mkF m 21 #[.val (.ref a1), .val (.ref a2), .val (.long q1), .second, .unset] [(.int ((own_h q1) &&& (15 : Int32)))])) _
      rw [(show ((own_h q1) &&& (15 : Int32)) = own_s q1 from rfl)]
      show Steps p.tables e below (T104.setTop (mkF m 21 #[.val (.ref a1), .val (.ref a2), .val (.long q1), .second, .unset] [(.int (own_s q1))])) _
      refine XS.istore X104.here hx rfl (hb hby dc7_21) rfl (l' := #[.val (.ref a1), .val (.ref a2), .val (.long q1), .second, .val (.int (own_s q1))]) rfl ?_
      show Steps p.tables e below (T104.setTop (mkF m 23 #[.val (.ref a1), .val (.ref a2), .val (.long q1), .second, .val (.int (own_s q1))] [])) _
      refine XS.aloadN X104.here hx rfl (hb hby dc7_23) rfl rfl ?_
      show Steps p.tables e below (T104.setTop (mkF m 24 #[.val (.ref a1), .val (.ref a2), .val (.long q1), .second, .val (.int (own_s q1))] [(.ref a1)])) _
      refine XS.iload X104.here hx rfl (hb hby dc7_24) rfl ?_
      show Steps p.tables e below (T104.setTop (mkF m 26 #[.val (.ref a1), .val (.ref a2), .val (.long q1), .second, .val (.int (own_s q1))] [(.int (own_s q1)), (.ref a1)])) _
      refine st105.trans ?_
      show Steps p.tables e below (T105.setTop (mkF m 29 #[.val (.ref a1), .val (.ref a2), .val (.long q1), .second, .val (.int (own_s q1))] [(.long (f1 (((2 : Int32) * (own_s q1)) + (1 : Int32))))])) _
      refine XS.lconst X105.here hx rfl (hb hby dc7_29) ?_
      show Steps p.tables e below (T105.setTop (mkF m 30 #[.val (.ref a1), .val (.ref a2), .val (.long q1), .second, .val (.int (own_s q1))] [(.long (0 : Int64)), (.long (f1 (((2 : Int32) * (own_s q1)) + (1 : Int32))))])) _
      refine XS.lcmp X105.here hx rfl (hb hby dc7_30) rfl ?_
      show Steps p.tables e below (T105.setTop (mkF m 31 #[.val (.ref a1), .val (.ref a2), .val (.long q1), .second, .val (.int (own_s q1))] [(.int (lcmpW (f1 (((2 : Int32) * (own_s q1)) + (1 : Int32))) (0 : Int64)))])) _
      refine XS.ifYes X105.here hx rfl (pc0 := 31) (pc' := 65) rfl (hb hby dc7_31) rfl ((if0 _ _).trans (teq ((lw_eq _ _).mpr hf1)).1) (by decide) (by decide) ?_
      show Steps p.tables e below (T105.setTop (mkF m 65 #[.val (.ref a1), .val (.ref a2), .val (.long q1), .second, .val (.int (own_s q1))] [])) _
      refine XS.iload X105.here hx rfl (hb hby dc7_65) rfl ?_
      show Steps p.tables e below (T105.setTop (mkF m 67 #[.val (.ref a1), .val (.ref a2), .val (.long q1), .second, .val (.int (own_s q1))] [(.int (own_s q1))])) _
      exact retI X105 hx Bd.returns (hb hby dc7_67) hr
    · show Q_find r1 h0 n0 _ T105.heap _
      rw [hh105]
      exact ⟨by rw [hfr], N105, rfl⟩
  · skip
    obtain ⟨cq106, kq106, q106a, q106b, q106c⟩ := isOf hZ e0 Ek
    obtain ⟨_, _, ⟨T106, L106, k106, n106⟩, -, X106, ⟨Lc106, hQ106, l106, y106, z106⟩, st106⟩ := X0.virtualBack hx (y := (⟨"com/example/keyfold/keyfold/Key", "isInteger", "()Z"⟩ : MethodName)) (z := (⟨"com/example/keyfold/keyfold/Key", "isInteger", "()Z"⟩ : MethodName)) hown (mvT hZ (hw _ (List.mem_of_getElem? (i := 50) rfl))) (mvT hZ (hw _ (List.mem_of_getElem? (i := 51) rfl))) (notFace_of_selects (args := #[]) (mvT hZ (hw _ (List.mem_of_getElem? (i := 53) rfl)))) (mvT hZ (hw _ (List.mem_of_getElem? (i := 53) rfl))) (mvT hZ (hw _ (List.mem_of_getElem? (i := 52) rfl))) (by decide) (backOf (W := 0) (rmIs l Z a0 hw [] a2 h0 n0 O0 Fp) hZ (hw _ (List.mem_of_getElem? (i := 54) rfl)) (hw _ (List.mem_of_getElem? (i := 2) rfl)) (by decide) (by decide)) q106a q106c (g := (mkF m 1 #[.val (.ref a1), .val (.ref a2), .unset, .unset, .unset] [(.ref a2)])) rfl (by rw [hml]; rfl) (Steps.refl _) (argsL := []) (rest := []) (lenOf pd_1 rfl) rfl (by show 2 * 0 + _ ≤ _; exact Nat.le_of_eq rfl) (hb hby dc7_1) (fun _ _ => ⟨rfl, e0, (by decide : 0 + 0 ≤ _), (by decide : 0 + 0 ≤ _)⟩)
    dsimp only [Pt.U, Pt.locs, Pt.cells, Pt.slots] at X106 l106 y106 z106 st106 hQ106
    subst l106 y106 z106
    obtain ⟨rfl, N106q, hh106⟩ := hQ106
    have N106 := Fr.app N0 N106q
    obtain ⟨cq107, kq107, q107a, q107b, q107c⟩ := isOf hZ hh106 Ek
    obtain ⟨_, _, ⟨T107, L107, k107, n107⟩, -, X107, ⟨Lc107, hQ107, l107, y107, z107⟩, st107⟩ := X106.virtualBack hx (y := (⟨"com/example/keyfold/keyfold/Key", "integer", "()J"⟩ : MethodName)) (z := (⟨"com/example/keyfold/keyfold/Key", "integer", "()J"⟩ : MethodName)) hown (mvT hZ (hw _ (List.mem_of_getElem? (i := 55) rfl))) (mvT hZ (hw _ (List.mem_of_getElem? (i := 56) rfl))) (notFace_of_selects (args := #[]) (mvT hZ (hw _ (List.mem_of_getElem? (i := 58) rfl)))) (mvT hZ (hw _ (List.mem_of_getElem? (i := 58) rfl))) (mvT hZ (hw _ (List.mem_of_getElem? (i := 57) rfl))) (by decide) (backOf (W := 0) (rmIn l Z a0 hw [] a2 q1 h0 n0 O0 Fi) hZ (hw _ (List.mem_of_getElem? (i := 59) rfl)) (hw _ (List.mem_of_getElem? (i := 2) rfl)) (by decide) (by decide)) q107a q107c (g := (mkF m 8 #[.val (.ref a1), .val (.ref a2), .unset, .unset, .unset] [(.ref a2)])) rfl (by rw [hml]; rfl) (Steps.refl _) (argsL := []) (rest := []) (lenOf pd_2 rfl) rfl (by show 2 * 0 + _ ≤ _; exact Nat.le_of_eq rfl) (hb hby dc7_8) (fun _ _ => ⟨rfl, hh106, (by decide : 0 + 0 ≤ _), (by decide : 0 + 0 ≤ _)⟩)
    dsimp only [Pt.U, Pt.locs, Pt.cells, Pt.slots] at X107 l107 y107 z107 st107 hQ107
    subst l107 y107 z107
    obtain ⟨rfl, N107q, hh107⟩ := hQ107
    have N107 := Fr.app N106 N107q
    obtain ⟨_, _, ⟨T108, L108, k108, n108⟩, -, X108, ⟨Lc108, hQ108, l108, y108, z108⟩, st108⟩ := Jvm.LawKit.callS X107 hx (y := (⟨"com/example/keyfold/keyfold/KeyTable", "hash", "(J)I"⟩ : MethodName)) hown (mvT hZ (hw _ (List.mem_of_getElem? (i := 60) rfl))) (mvT hZ (hw _ (List.mem_of_getElem? (i := 61) rfl))) (mvT hZ (hw _ (List.mem_of_getElem? (i := 18) rfl))) (mvT hZ (hw _ (List.mem_of_getElem? (i := 62) rfl))) (by decide) (backOf (W := 0) (rmHj l Z a0 hw [] q1 h0 n0 O0) hZ (hw _ (List.mem_of_getElem? (i := 62) rfl)) (hw _ (List.mem_of_getElem? (i := 18) rfl)) (by decide) (by decide)) (g := (mkF m 13 #[.val (.ref a1), .val (.ref a2), .val (.long q1), .second, .unset] [(.long q1)])) rfl (by rw [hml]; rfl) (argsL := [(.long q1)]) (rest := []) (lenOf pd_3 rfl) rfl (by show 2 * 0 + _ ≤ _; exact Nat.le_of_eq rfl) (hb hby dc7_13) (fun _ _ => ⟨rfl, hh107, (by decide : 0 + 0 ≤ _), (by decide : 0 + 0 ≤ _)⟩)
    dsimp only [Pt.U, Pt.locs, Pt.cells, Pt.slots] at X108 l108 y108 z108 st108 hQ108
    subst l108 y108 z108
    obtain ⟨rfl, N108q, hh108⟩ := hQ108
    have N108 := Fr.app N107 N108q
    obtain ⟨T109, X109, e109, st109⟩ := getF X108 hx hZ hown (host := "") (Or.inl (hw _ (List.mem_of_getElem? (i := 33) rfl))) Via.refl hh108 Fm (g := (mkF m 17 #[.val (.ref a1), .val (.ref a2), .val (.long q1), .second, .unset] [(.ref a1), (.int (own_h q1))])) rfl rfl (hb hby dc7_17)
    obtain ⟨cq110, q110, q110'⟩ := Exa.cell Et
    obtain ⟨_, _, ⟨T110, L110, k110, n110⟩, -, X110, ⟨Lc110, hQ110, l110, y110, z110⟩, st110⟩ := X109.privateBack hx (y := (⟨"com/example/keyfold/keyfold/KeyTable", "value", "(I)J"⟩ : MethodName)) hown (mvT hZ (hw _ (List.mem_of_getElem? (i := 65) rfl))) (mvT hZ (hw _ (List.mem_of_getElem? (i := 66) rfl))) (mvT hZ (own_sel (y := (⟨"com/example/keyfold/keyfold/KeyTable", "value", "(I)J"⟩ : MethodName)) (hw _ (List.mem_of_getElem? (i := 17) rfl)) (hw _ (List.mem_of_getElem? (i := 67) rfl)) (hw _ (List.mem_of_getElem? (i := 66) rfl)) (by decide))) (Cond.privateMethod_at (mvP hZ (hw _ (List.mem_of_getElem? (i := 67) rfl)) (args := #[]))) (mvT hZ (hw _ (List.mem_of_getElem? (i := 68) rfl))) (by decide) (backOf (W := 0) (rmV l Z a0 hw [] a1 b1 f1 (own_s q1) h0 n0 O0 Fs Lb (own_s16 q1)) hZ (hw _ (List.mem_of_getElem? (i := 68) rfl)) (hw _ (List.mem_of_getElem? (i := 18) rfl)) (by decide) (by decide)) (g := (mkF m 26 #[.val (.ref a1), .val (.ref a2), .val (.long q1), .second, .val (.int (own_s q1))] [(.int (own_s q1)), (.ref a1)])) rfl (by rw [hml]; rfl) (Steps.refl _) (a := a1) (by rw [e109]; exact q110) q110' (argsL := [(.int (own_s q1))]) (rest := []) (lenOf pd_4 rfl) rfl (by show 2 * 0 + _ ≤ _; exact Nat.le_of_eq rfl) (hb hby dc7_26) (fun _ _ => ⟨rfl, e109, (by decide : 0 + 0 ≤ _), (by decide : 0 + 0 ≤ _)⟩)
    dsimp only [Pt.U, Pt.locs, Pt.cells, Pt.slots] at X110 l110 y110 z110 st110 hQ110
    subst l110 y110 z110
    obtain ⟨rfl, N110q, hh110⟩ := hQ110
    have N110 := Fr.app N108 N110q
    obtain ⟨T111, X111, e111, st111⟩ := getF X110 hx hZ hown (host := "") (Or.inl (hw _ (List.mem_of_getElem? (i := 29) rfl))) Via.refl hh110 Fs (g := (mkF m 35 #[.val (.ref a1), .val (.ref a2), .val (.long q1), .second, .val (.int (own_s q1))] [(.ref a1)])) rfl rfl (hb hby dc7_35)
    obtain ⟨cl112, Ar112, S112, H112⟩ := id Lb
    have hin112 : ¬ (((2 : Int32) * (own_s q1)) < 0 ∨ cl112.slots.size ≤ (((2 : Int32) * (own_s q1))).toNatClampNeg) := by rw [S112]; exact (own_b0 (own_s16 q1))
    have hat112 : cl112.slots[(((2 : Int32) * (own_s q1))).toNatClampNeg]? = some (.long (f1 ((2 : Int32) * (own_s q1)))) := H112 _ hin112
    obtain ⟨T113, X113, e113, st113⟩ := getF X111 hx hZ hown (host := "") (Or.inl (hw _ (List.mem_of_getElem? (i := 31) rfl))) Via.refl e111 Fo (g := (mkF m 49 #[.val (.ref a1), .val (.ref a2), .val (.long q1), .second, .val (.int (own_s q1))] [(.ref a1)])) rfl rfl (hb hby dc7_49)
    obtain ⟨fs, hr, hrun, hended, hW, hsame⟩ := X113.leave (v := some (.int (own_s q1))) (fun h => by rw [Bd.returns] at h; cases h)
    refine ⟨_, _, pre0 _ ?_, hrun, hended, _, _, rfl, ?_, ⟨_, rfl⟩, hW, hsame.mono (by decide) (by decide)⟩
    · skip
      show Steps p.tables e below (s₁.setTop (mkF m 0 #[.val (.ref a1), .val (.ref a2), .unset, .unset, .unset] [])) _
      refine XS.aloadN X0.here hx rfl (hb hby dc7_0) rfl rfl ?_
      show Steps p.tables e below (s₁.setTop (mkF m 1 #[.val (.ref a1), .val (.ref a2), .unset, .unset, .unset] [(.ref a2)])) _
      refine st106.trans ?_
      show Steps p.tables e below (T106.setTop (mkF m 4 #[.val (.ref a1), .val (.ref a2), .unset, .unset, .unset] [(.int (1 : Int32))])) _
      refine XS.ifNo X106.here hx rfl (hb hby dc7_4) rfl (by decide) ?_
      show Steps p.tables e below (T106.setTop (mkF m 7 #[.val (.ref a1), .val (.ref a2), .unset, .unset, .unset] [])) _
      refine XS.aloadN X106.here hx rfl (hb hby dc7_7) rfl rfl ?_
      show Steps p.tables e below (T106.setTop (mkF m 8 #[.val (.ref a1), .val (.ref a2), .unset, .unset, .unset] [(.ref a2)])) _
      refine st107.trans ?_
      show Steps p.tables e below (T107.setTop (mkF m 11 #[.val (.ref a1), .val (.ref a2), .unset, .unset, .unset] [(.long q1)])) _
      refine XS.lstoreN X107.here hx rfl (hb hby dc7_11) rfl (l' := #[.val (.ref a1), .val (.ref a2), .val (.long q1), .second, .unset]) rfl ?_
      show Steps p.tables e below (T107.setTop (mkF m 12 #[.val (.ref a1), .val (.ref a2), .val (.long q1), .second, .unset] [])) _
      refine XS.lloadN X107.here hx rfl (hb hby dc7_12) rfl ?_
      show Steps p.tables e below (T107.setTop (mkF m 13 #[.val (.ref a1), .val (.ref a2), .val (.long q1), .second, .unset] [(.long q1)])) _
      refine st108 _ ?_
      show Steps p.tables e below (T108.setTop (mkF m 16 #[.val (.ref a1), .val (.ref a2), .val (.long q1), .second, .unset] [(.int (own_h q1))])) _
      refine XS.aloadN X108.here hx rfl (hb hby dc7_16) rfl rfl ?_
      show Steps p.tables e below (T108.setTop (mkF m 17 #[.val (.ref a1), .val (.ref a2), .val (.long q1), .second, .unset] [(.ref a1), (.int (own_h q1))])) _
      refine st109 _ ?_
      show Steps p.tables e below (T109.setTop (mkF m 20 #[.val (.ref a1), .val (.ref a2), .val (.long q1), .second, .unset] [(.int (15 : Int32)), (.int (own_h q1))])) _
      refine XS.iand X109.here hx rfl (hb hby dc7_20) rfl ?_
      show Steps p.tables e below (T109.setTop (mkF m 21 #[.val (.ref a1), .val (.ref a2), .val (.long q1), .second, .unset] [(.int ((own_h q1) &&& (15 : Int32)))])) _
      rw [(show ((own_h q1) &&& (15 : Int32)) = own_s q1 from rfl)]
      show Steps p.tables e below (T109.setTop (mkF m 21 #[.val (.ref a1), .val (.ref a2), .val (.long q1), .second, .unset] [(.int (own_s q1))])) _
      refine XS.istore X109.here hx rfl (hb hby dc7_21) rfl (l' := #[.val (.ref a1), .val (.ref a2), .val (.long q1), .second, .val (.int (own_s q1))]) rfl ?_
      show Steps p.tables e below (T109.setTop (mkF m 23 #[.val (.ref a1), .val (.ref a2), .val (.long q1), .second, .val (.int (own_s q1))] [])) _
      refine XS.aloadN X109.here hx rfl (hb hby dc7_23) rfl rfl ?_
      show Steps p.tables e below (T109.setTop (mkF m 24 #[.val (.ref a1), .val (.ref a2), .val (.long q1), .second, .val (.int (own_s q1))] [(.ref a1)])) _
      refine XS.iload X109.here hx rfl (hb hby dc7_24) rfl ?_
      show Steps p.tables e below (T109.setTop (mkF m 26 #[.val (.ref a1), .val (.ref a2), .val (.long q1), .second, .val (.int (own_s q1))] [(.int (own_s q1)), (.ref a1)])) _
      refine st110.trans ?_
      show Steps p.tables e below (T110.setTop (mkF m 29 #[.val (.ref a1), .val (.ref a2), .val (.long q1), .second, .val (.int (own_s q1))] [(.long (f1 (((2 : Int32) * (own_s q1)) + (1 : Int32))))])) _
      refine XS.lconst X110.here hx rfl (hb hby dc7_29) ?_
      show Steps p.tables e below (T110.setTop (mkF m 30 #[.val (.ref a1), .val (.ref a2), .val (.long q1), .second, .val (.int (own_s q1))] [(.long (0 : Int64)), (.long (f1 (((2 : Int32) * (own_s q1)) + (1 : Int32))))])) _
      refine XS.lcmp X110.here hx rfl (hb hby dc7_30) rfl ?_
      show Steps p.tables e below (T110.setTop (mkF m 31 #[.val (.ref a1), .val (.ref a2), .val (.long q1), .second, .val (.int (own_s q1))] [(.int (lcmpW (f1 (((2 : Int32) * (own_s q1)) + (1 : Int32))) (0 : Int64)))])) _
      refine XS.ifNo X110.here hx rfl (hb hby dc7_31) rfl ((if0 _ _).trans (feq (mt (lw_eq _ _).mp hf1)).1) ?_
      show Steps p.tables e below (T110.setTop (mkF m 34 #[.val (.ref a1), .val (.ref a2), .val (.long q1), .second, .val (.int (own_s q1))] [])) _
      refine XS.aloadN X110.here hx rfl (hb hby dc7_34) rfl rfl ?_
      show Steps p.tables e below (T110.setTop (mkF m 35 #[.val (.ref a1), .val (.ref a2), .val (.long q1), .second, .val (.int (own_s q1))] [(.ref a1)])) _
      refine st111 _ ?_
      show Steps p.tables e below (T111.setTop (mkF m 38 #[.val (.ref a1), .val (.ref a2), .val (.long q1), .second, .val (.int (own_s q1))] [(.ref b1)])) _
      refine XS.iconst X111.here hx rfl (hb hby dc7_38) ?_
      show Steps p.tables e below (T111.setTop (mkF m 39 #[.val (.ref a1), .val (.ref a2), .val (.long q1), .second, .val (.int (own_s q1))] [(.int (2 : Int32)), (.ref b1)])) _
      refine XS.iload X111.here hx rfl (hb hby dc7_39) rfl ?_
      show Steps p.tables e below (T111.setTop (mkF m 41 #[.val (.ref a1), .val (.ref a2), .val (.long q1), .second, .val (.int (own_s q1))] [(.int (own_s q1)), (.int (2 : Int32)), (.ref b1)])) _
      refine XS.imul X111.here hx rfl (hb hby dc7_41) rfl ?_
      show Steps p.tables e below (T111.setTop (mkF m 42 #[.val (.ref a1), .val (.ref a2), .val (.long q1), .second, .val (.int (own_s q1))] [(.int ((2 : Int32) * (own_s q1))), (.ref b1)])) _
      refine X111.laload hx (j := ((2 : Int32) * (own_s q1))) (v := (.long (f1 ((2 : Int32) * (own_s q1))))) (by rw [e111]; exact Ar112.1) (State.isArrayOf_alike hZ.alike Ar112.2.1) Ar112.2.2 hin112 hat112 (g := (mkF m 42 #[.val (.ref a1), .val (.ref a2), .val (.long q1), .second, .val (.int (own_s q1))] [(.int ((2 : Int32) * (own_s q1))), (.ref b1)])) rfl rfl (hb hby dc7_42) _ ?_
      show Steps p.tables e below (T111.setTop (mkF m 43 #[.val (.ref a1), .val (.ref a2), .val (.long q1), .second, .val (.int (own_s q1))] [(.long (f1 ((2 : Int32) * (own_s q1))))])) _
      refine XS.lloadN X111.here hx rfl (hb hby dc7_43) rfl ?_
      show Steps p.tables e below (T111.setTop (mkF m 44 #[.val (.ref a1), .val (.ref a2), .val (.long q1), .second, .val (.int (own_s q1))] [(.long q1), (.long (f1 ((2 : Int32) * (own_s q1))))])) _
      refine XS.lcmp X111.here hx rfl (hb hby dc7_44) rfl ?_
      show Steps p.tables e below (T111.setTop (mkF m 45 #[.val (.ref a1), .val (.ref a2), .val (.long q1), .second, .val (.int (own_s q1))] [(.int (lcmpW (f1 ((2 : Int32) * (own_s q1))) q1))])) _
      refine XS.ifNo X111.here hx rfl (hb hby dc7_45) rfl ((if0 _ _).trans (teq ((lw_eq _ _).mpr hf2)).2) ?_
      show Steps p.tables e below (T111.setTop (mkF m 48 #[.val (.ref a1), .val (.ref a2), .val (.long q1), .second, .val (.int (own_s q1))] [])) _
      refine XS.aloadN X111.here hx rfl (hb hby dc7_48) rfl rfl ?_
      show Steps p.tables e below (T111.setTop (mkF m 49 #[.val (.ref a1), .val (.ref a2), .val (.long q1), .second, .val (.int (own_s q1))] [(.ref a1)])) _
      refine st113 _ ?_
      show Steps p.tables e below (T113.setTop (mkF m 52 #[.val (.ref a1), .val (.ref a2), .val (.long q1), .second, .val (.int (own_s q1))] [.null])) _
      refine XS.ifnullYes X113.here hx rfl (pc0 := 52) (pc' := 65) rfl (hb hby dc7_52) rfl (by decide) (by decide) ?_
      show Steps p.tables e below (T113.setTop (mkF m 65 #[.val (.ref a1), .val (.ref a2), .val (.long q1), .second, .val (.int (own_s q1))] [])) _
      refine XS.iload X113.here hx rfl (hb hby dc7_65) rfl ?_
      show Steps p.tables e below (T113.setTop (mkF m 67 #[.val (.ref a1), .val (.ref a2), .val (.long q1), .second, .val (.int (own_s q1))] [(.int (own_s q1))])) _
      exact retI X113 hx Bd.returns (hb hby dc7_67) hr
    · show Q_find r1 h0 n0 _ T113.heap _
      rw [e113]
      exact ⟨by rw [hfr], N110, rfl⟩
  · skip
    obtain ⟨cq114, kq114, q114a, q114b, q114c⟩ := isOf hZ e0 Ek
    obtain ⟨_, _, ⟨T114, L114, k114, n114⟩, -, X114, ⟨Lc114, hQ114, l114, y114, z114⟩, st114⟩ := X0.virtualBack hx (y := (⟨"com/example/keyfold/keyfold/Key", "isInteger", "()Z"⟩ : MethodName)) (z := (⟨"com/example/keyfold/keyfold/Key", "isInteger", "()Z"⟩ : MethodName)) hown (mvT hZ (hw _ (List.mem_of_getElem? (i := 50) rfl))) (mvT hZ (hw _ (List.mem_of_getElem? (i := 51) rfl))) (notFace_of_selects (args := #[]) (mvT hZ (hw _ (List.mem_of_getElem? (i := 53) rfl)))) (mvT hZ (hw _ (List.mem_of_getElem? (i := 53) rfl))) (mvT hZ (hw _ (List.mem_of_getElem? (i := 52) rfl))) (by decide) (backOf (W := 0) (rmIs l Z a0 hw [] a2 h0 n0 O0 Fp) hZ (hw _ (List.mem_of_getElem? (i := 54) rfl)) (hw _ (List.mem_of_getElem? (i := 2) rfl)) (by decide) (by decide)) q114a q114c (g := (mkF m 1 #[.val (.ref a1), .val (.ref a2), .unset, .unset, .unset] [(.ref a2)])) rfl (by rw [hml]; rfl) (Steps.refl _) (argsL := []) (rest := []) (lenOf pd_1 rfl) rfl (by show 2 * 0 + _ ≤ _; exact Nat.le_of_eq rfl) (hb hby dc7_1) (fun _ _ => ⟨rfl, e0, (by decide : 0 + 0 ≤ _), (by decide : 0 + 0 ≤ _)⟩)
    dsimp only [Pt.U, Pt.locs, Pt.cells, Pt.slots] at X114 l114 y114 z114 st114 hQ114
    subst l114 y114 z114
    obtain ⟨rfl, N114q, hh114⟩ := hQ114
    have N114 := Fr.app N0 N114q
    obtain ⟨cq115, kq115, q115a, q115b, q115c⟩ := isOf hZ hh114 Ek
    obtain ⟨_, _, ⟨T115, L115, k115, n115⟩, -, X115, ⟨Lc115, hQ115, l115, y115, z115⟩, st115⟩ := X114.virtualBack hx (y := (⟨"com/example/keyfold/keyfold/Key", "integer", "()J"⟩ : MethodName)) (z := (⟨"com/example/keyfold/keyfold/Key", "integer", "()J"⟩ : MethodName)) hown (mvT hZ (hw _ (List.mem_of_getElem? (i := 55) rfl))) (mvT hZ (hw _ (List.mem_of_getElem? (i := 56) rfl))) (notFace_of_selects (args := #[]) (mvT hZ (hw _ (List.mem_of_getElem? (i := 58) rfl)))) (mvT hZ (hw _ (List.mem_of_getElem? (i := 58) rfl))) (mvT hZ (hw _ (List.mem_of_getElem? (i := 57) rfl))) (by decide) (backOf (W := 0) (rmIn l Z a0 hw [] a2 q1 h0 n0 O0 Fi) hZ (hw _ (List.mem_of_getElem? (i := 59) rfl)) (hw _ (List.mem_of_getElem? (i := 2) rfl)) (by decide) (by decide)) q115a q115c (g := (mkF m 8 #[.val (.ref a1), .val (.ref a2), .unset, .unset, .unset] [(.ref a2)])) rfl (by rw [hml]; rfl) (Steps.refl _) (argsL := []) (rest := []) (lenOf pd_2 rfl) rfl (by show 2 * 0 + _ ≤ _; exact Nat.le_of_eq rfl) (hb hby dc7_8) (fun _ _ => ⟨rfl, hh114, (by decide : 0 + 0 ≤ _), (by decide : 0 + 0 ≤ _)⟩)
    dsimp only [Pt.U, Pt.locs, Pt.cells, Pt.slots] at X115 l115 y115 z115 st115 hQ115
    subst l115 y115 z115
    obtain ⟨rfl, N115q, hh115⟩ := hQ115
    have N115 := Fr.app N114 N115q
    obtain ⟨_, _, ⟨T116, L116, k116, n116⟩, -, X116, ⟨Lc116, hQ116, l116, y116, z116⟩, st116⟩ := Jvm.LawKit.callS X115 hx (y := (⟨"com/example/keyfold/keyfold/KeyTable", "hash", "(J)I"⟩ : MethodName)) hown (mvT hZ (hw _ (List.mem_of_getElem? (i := 60) rfl))) (mvT hZ (hw _ (List.mem_of_getElem? (i := 61) rfl))) (mvT hZ (hw _ (List.mem_of_getElem? (i := 18) rfl))) (mvT hZ (hw _ (List.mem_of_getElem? (i := 62) rfl))) (by decide) (backOf (W := 0) (rmHj l Z a0 hw [] q1 h0 n0 O0) hZ (hw _ (List.mem_of_getElem? (i := 62) rfl)) (hw _ (List.mem_of_getElem? (i := 18) rfl)) (by decide) (by decide)) (g := (mkF m 13 #[.val (.ref a1), .val (.ref a2), .val (.long q1), .second, .unset] [(.long q1)])) rfl (by rw [hml]; rfl) (argsL := [(.long q1)]) (rest := []) (lenOf pd_3 rfl) rfl (by show 2 * 0 + _ ≤ _; exact Nat.le_of_eq rfl) (hb hby dc7_13) (fun _ _ => ⟨rfl, hh115, (by decide : 0 + 0 ≤ _), (by decide : 0 + 0 ≤ _)⟩)
    dsimp only [Pt.U, Pt.locs, Pt.cells, Pt.slots] at X116 l116 y116 z116 st116 hQ116
    subst l116 y116 z116
    obtain ⟨rfl, N116q, hh116⟩ := hQ116
    have N116 := Fr.app N115 N116q
    obtain ⟨T117, X117, e117, st117⟩ := getF X116 hx hZ hown (host := "") (Or.inl (hw _ (List.mem_of_getElem? (i := 33) rfl))) Via.refl hh116 Fm (g := (mkF m 17 #[.val (.ref a1), .val (.ref a2), .val (.long q1), .second, .unset] [(.ref a1), (.int (own_h q1))])) rfl rfl (hb hby dc7_17)
    obtain ⟨cq118, q118, q118'⟩ := Exa.cell Et
    obtain ⟨_, _, ⟨T118, L118, k118, n118⟩, -, X118, ⟨Lc118, hQ118, l118, y118, z118⟩, st118⟩ := X117.privateBack hx (y := (⟨"com/example/keyfold/keyfold/KeyTable", "value", "(I)J"⟩ : MethodName)) hown (mvT hZ (hw _ (List.mem_of_getElem? (i := 65) rfl))) (mvT hZ (hw _ (List.mem_of_getElem? (i := 66) rfl))) (mvT hZ (own_sel (y := (⟨"com/example/keyfold/keyfold/KeyTable", "value", "(I)J"⟩ : MethodName)) (hw _ (List.mem_of_getElem? (i := 17) rfl)) (hw _ (List.mem_of_getElem? (i := 67) rfl)) (hw _ (List.mem_of_getElem? (i := 66) rfl)) (by decide))) (Cond.privateMethod_at (mvP hZ (hw _ (List.mem_of_getElem? (i := 67) rfl)) (args := #[]))) (mvT hZ (hw _ (List.mem_of_getElem? (i := 68) rfl))) (by decide) (backOf (W := 0) (rmV l Z a0 hw [] a1 b1 f1 (own_s q1) h0 n0 O0 Fs Lb (own_s16 q1)) hZ (hw _ (List.mem_of_getElem? (i := 68) rfl)) (hw _ (List.mem_of_getElem? (i := 18) rfl)) (by decide) (by decide)) (g := (mkF m 26 #[.val (.ref a1), .val (.ref a2), .val (.long q1), .second, .val (.int (own_s q1))] [(.int (own_s q1)), (.ref a1)])) rfl (by rw [hml]; rfl) (Steps.refl _) (a := a1) (by rw [e117]; exact q118) q118' (argsL := [(.int (own_s q1))]) (rest := []) (lenOf pd_4 rfl) rfl (by show 2 * 0 + _ ≤ _; exact Nat.le_of_eq rfl) (hb hby dc7_26) (fun _ _ => ⟨rfl, e117, (by decide : 0 + 0 ≤ _), (by decide : 0 + 0 ≤ _)⟩)
    dsimp only [Pt.U, Pt.locs, Pt.cells, Pt.slots] at X118 l118 y118 z118 st118 hQ118
    subst l118 y118 z118
    obtain ⟨rfl, N118q, hh118⟩ := hQ118
    have N118 := Fr.app N116 N118q
    obtain ⟨T119, X119, e119, st119⟩ := getF X118 hx hZ hown (host := "") (Or.inl (hw _ (List.mem_of_getElem? (i := 29) rfl))) Via.refl hh118 Fs (g := (mkF m 35 #[.val (.ref a1), .val (.ref a2), .val (.long q1), .second, .val (.int (own_s q1))] [(.ref a1)])) rfl rfl (hb hby dc7_35)
    obtain ⟨cl120, Ar120, S120, H120⟩ := id Lb
    have hin120 : ¬ (((2 : Int32) * (own_s q1)) < 0 ∨ cl120.slots.size ≤ (((2 : Int32) * (own_s q1))).toNatClampNeg) := by rw [S120]; exact (own_b0 (own_s16 q1))
    have hat120 : cl120.slots[(((2 : Int32) * (own_s q1))).toNatClampNeg]? = some (.long (f1 ((2 : Int32) * (own_s q1)))) := H120 _ hin120
    obtain ⟨T121, X121, e121, st121⟩ := getF X119 hx hZ hown (host := "") (Or.inl (hw _ (List.mem_of_getElem? (i := 33) rfl))) Via.refl e119 Fm (g := (mkF m 73 #[.val (.ref a1), .val (.ref a2), .val (.long q1), .second, .val (.int (own_s q1))] [(.ref a1), (.int ((own_s q1) + (1 : Int32)))])) rfl rfl (hb hby dc7_73)
    obtain ⟨cq122, q122, q122'⟩ := Exa.cell Et
    obtain ⟨_, _, ⟨T122, L122, k122, n122⟩, -, X122, ⟨Lc122, hQ122, l122, y122, z122⟩, st122⟩ := X121.privateBack hx (y := (⟨"com/example/keyfold/keyfold/KeyTable", "value", "(I)J"⟩ : MethodName)) hown (mvT hZ (hw _ (List.mem_of_getElem? (i := 65) rfl))) (mvT hZ (hw _ (List.mem_of_getElem? (i := 66) rfl))) (mvT hZ (own_sel (y := (⟨"com/example/keyfold/keyfold/KeyTable", "value", "(I)J"⟩ : MethodName)) (hw _ (List.mem_of_getElem? (i := 17) rfl)) (hw _ (List.mem_of_getElem? (i := 67) rfl)) (hw _ (List.mem_of_getElem? (i := 66) rfl)) (by decide))) (Cond.privateMethod_at (mvP hZ (hw _ (List.mem_of_getElem? (i := 67) rfl)) (args := #[]))) (mvT hZ (hw _ (List.mem_of_getElem? (i := 68) rfl))) (by decide) (backOf (W := 0) (rmV l Z a0 hw [] a1 b1 f1 (own_n (own_s q1)) h0 n0 O0 Fs Lb (own_n16 _)) hZ (hw _ (List.mem_of_getElem? (i := 68) rfl)) (hw _ (List.mem_of_getElem? (i := 18) rfl)) (by decide) (by decide)) (g := (mkF m 26 #[.val (.ref a1), .val (.ref a2), .val (.long q1), .second, .val (.int (own_n (own_s q1)))] [(.int (own_n (own_s q1))), (.ref a1)])) rfl (by rw [hml]; rfl) (Steps.refl _) (a := a1) (by rw [e121]; exact q122) q122' (argsL := [(.int (own_n (own_s q1)))]) (rest := []) (lenOf pd_4 rfl) rfl (by show 2 * 0 + _ ≤ _; exact Nat.le_of_eq rfl) (hb hby dc7_26) (fun _ _ => ⟨rfl, e121, (by decide : 0 + 0 ≤ _), (by decide : 0 + 0 ≤ _)⟩)
    dsimp only [Pt.U, Pt.locs, Pt.cells, Pt.slots] at X122 l122 y122 z122 st122 hQ122
    subst l122 y122 z122
    obtain ⟨rfl, N122q, hh122⟩ := hQ122
    have N122 := Fr.app N118 N122q
    obtain ⟨fs, hr, hrun, hended, hW, hsame⟩ := X122.leave (v := some (.int (own_n (own_s q1)))) (fun h => by rw [Bd.returns] at h; cases h)
    refine ⟨_, _, pre0 _ ?_, hrun, hended, _, _, rfl, ?_, ⟨_, rfl⟩, hW, hsame.mono (by decide) (by decide)⟩
    · skip
      show Steps p.tables e below (s₁.setTop (mkF m 0 #[.val (.ref a1), .val (.ref a2), .unset, .unset, .unset] [])) _
      refine XS.aloadN X0.here hx rfl (hb hby dc7_0) rfl rfl ?_
      show Steps p.tables e below (s₁.setTop (mkF m 1 #[.val (.ref a1), .val (.ref a2), .unset, .unset, .unset] [(.ref a2)])) _
      refine st114.trans ?_
      show Steps p.tables e below (T114.setTop (mkF m 4 #[.val (.ref a1), .val (.ref a2), .unset, .unset, .unset] [(.int (1 : Int32))])) _
      refine XS.ifNo X114.here hx rfl (hb hby dc7_4) rfl (by decide) ?_
      show Steps p.tables e below (T114.setTop (mkF m 7 #[.val (.ref a1), .val (.ref a2), .unset, .unset, .unset] [])) _
      refine XS.aloadN X114.here hx rfl (hb hby dc7_7) rfl rfl ?_
      show Steps p.tables e below (T114.setTop (mkF m 8 #[.val (.ref a1), .val (.ref a2), .unset, .unset, .unset] [(.ref a2)])) _
      refine st115.trans ?_
      show Steps p.tables e below (T115.setTop (mkF m 11 #[.val (.ref a1), .val (.ref a2), .unset, .unset, .unset] [(.long q1)])) _
      refine XS.lstoreN X115.here hx rfl (hb hby dc7_11) rfl (l' := #[.val (.ref a1), .val (.ref a2), .val (.long q1), .second, .unset]) rfl ?_
      show Steps p.tables e below (T115.setTop (mkF m 12 #[.val (.ref a1), .val (.ref a2), .val (.long q1), .second, .unset] [])) _
      refine XS.lloadN X115.here hx rfl (hb hby dc7_12) rfl ?_
      show Steps p.tables e below (T115.setTop (mkF m 13 #[.val (.ref a1), .val (.ref a2), .val (.long q1), .second, .unset] [(.long q1)])) _
      refine st116 _ ?_
      show Steps p.tables e below (T116.setTop (mkF m 16 #[.val (.ref a1), .val (.ref a2), .val (.long q1), .second, .unset] [(.int (own_h q1))])) _
      refine XS.aloadN X116.here hx rfl (hb hby dc7_16) rfl rfl ?_
      show Steps p.tables e below (T116.setTop (mkF m 17 #[.val (.ref a1), .val (.ref a2), .val (.long q1), .second, .unset] [(.ref a1), (.int (own_h q1))])) _
      refine st117 _ ?_
      show Steps p.tables e below (T117.setTop (mkF m 20 #[.val (.ref a1), .val (.ref a2), .val (.long q1), .second, .unset] [(.int (15 : Int32)), (.int (own_h q1))])) _
      refine XS.iand X117.here hx rfl (hb hby dc7_20) rfl ?_
      show Steps p.tables e below (T117.setTop (mkF m 21 #[.val (.ref a1), .val (.ref a2), .val (.long q1), .second, .unset] [(.int ((own_h q1) &&& (15 : Int32)))])) _
      rw [(show ((own_h q1) &&& (15 : Int32)) = own_s q1 from rfl)]
      show Steps p.tables e below (T117.setTop (mkF m 21 #[.val (.ref a1), .val (.ref a2), .val (.long q1), .second, .unset] [(.int (own_s q1))])) _
      refine XS.istore X117.here hx rfl (hb hby dc7_21) rfl (l' := #[.val (.ref a1), .val (.ref a2), .val (.long q1), .second, .val (.int (own_s q1))]) rfl ?_
      show Steps p.tables e below (T117.setTop (mkF m 23 #[.val (.ref a1), .val (.ref a2), .val (.long q1), .second, .val (.int (own_s q1))] [])) _
      refine XS.aloadN X117.here hx rfl (hb hby dc7_23) rfl rfl ?_
      show Steps p.tables e below (T117.setTop (mkF m 24 #[.val (.ref a1), .val (.ref a2), .val (.long q1), .second, .val (.int (own_s q1))] [(.ref a1)])) _
      refine XS.iload X117.here hx rfl (hb hby dc7_24) rfl ?_
      show Steps p.tables e below (T117.setTop (mkF m 26 #[.val (.ref a1), .val (.ref a2), .val (.long q1), .second, .val (.int (own_s q1))] [(.int (own_s q1)), (.ref a1)])) _
      refine st118.trans ?_
      show Steps p.tables e below (T118.setTop (mkF m 29 #[.val (.ref a1), .val (.ref a2), .val (.long q1), .second, .val (.int (own_s q1))] [(.long (f1 (((2 : Int32) * (own_s q1)) + (1 : Int32))))])) _
      refine XS.lconst X118.here hx rfl (hb hby dc7_29) ?_
      show Steps p.tables e below (T118.setTop (mkF m 30 #[.val (.ref a1), .val (.ref a2), .val (.long q1), .second, .val (.int (own_s q1))] [(.long (0 : Int64)), (.long (f1 (((2 : Int32) * (own_s q1)) + (1 : Int32))))])) _
      refine XS.lcmp X118.here hx rfl (hb hby dc7_30) rfl ?_
      show Steps p.tables e below (T118.setTop (mkF m 31 #[.val (.ref a1), .val (.ref a2), .val (.long q1), .second, .val (.int (own_s q1))] [(.int (lcmpW (f1 (((2 : Int32) * (own_s q1)) + (1 : Int32))) (0 : Int64)))])) _
      refine XS.ifNo X118.here hx rfl (hb hby dc7_31) rfl ((if0 _ _).trans (feq (mt (lw_eq _ _).mp hf1)).1) ?_
      show Steps p.tables e below (T118.setTop (mkF m 34 #[.val (.ref a1), .val (.ref a2), .val (.long q1), .second, .val (.int (own_s q1))] [])) _
      refine XS.aloadN X118.here hx rfl (hb hby dc7_34) rfl rfl ?_
      show Steps p.tables e below (T118.setTop (mkF m 35 #[.val (.ref a1), .val (.ref a2), .val (.long q1), .second, .val (.int (own_s q1))] [(.ref a1)])) _
      refine st119 _ ?_
      show Steps p.tables e below (T119.setTop (mkF m 38 #[.val (.ref a1), .val (.ref a2), .val (.long q1), .second, .val (.int (own_s q1))] [(.ref b1)])) _
      refine XS.iconst X119.here hx rfl (hb hby dc7_38) ?_
      show Steps p.tables e below (T119.setTop (mkF m 39 #[.val (.ref a1), .val (.ref a2), .val (.long q1), .second, .val (.int (own_s q1))] [(.int (2 : Int32)), (.ref b1)])) _
      refine XS.iload X119.here hx rfl (hb hby dc7_39) rfl ?_
      show Steps p.tables e below (T119.setTop (mkF m 41 #[.val (.ref a1), .val (.ref a2), .val (.long q1), .second, .val (.int (own_s q1))] [(.int (own_s q1)), (.int (2 : Int32)), (.ref b1)])) _
      refine XS.imul X119.here hx rfl (hb hby dc7_41) rfl ?_
      show Steps p.tables e below (T119.setTop (mkF m 42 #[.val (.ref a1), .val (.ref a2), .val (.long q1), .second, .val (.int (own_s q1))] [(.int ((2 : Int32) * (own_s q1))), (.ref b1)])) _
      refine X119.laload hx (j := ((2 : Int32) * (own_s q1))) (v := (.long (f1 ((2 : Int32) * (own_s q1))))) (by rw [e119]; exact Ar120.1) (State.isArrayOf_alike hZ.alike Ar120.2.1) Ar120.2.2 hin120 hat120 (g := (mkF m 42 #[.val (.ref a1), .val (.ref a2), .val (.long q1), .second, .val (.int (own_s q1))] [(.int ((2 : Int32) * (own_s q1))), (.ref b1)])) rfl rfl (hb hby dc7_42) _ ?_
      show Steps p.tables e below (T119.setTop (mkF m 43 #[.val (.ref a1), .val (.ref a2), .val (.long q1), .second, .val (.int (own_s q1))] [(.long (f1 ((2 : Int32) * (own_s q1))))])) _
      refine XS.lloadN X119.here hx rfl (hb hby dc7_43) rfl ?_
      show Steps p.tables e below (T119.setTop (mkF m 44 #[.val (.ref a1), .val (.ref a2), .val (.long q1), .second, .val (.int (own_s q1))] [(.long q1), (.long (f1 ((2 : Int32) * (own_s q1))))])) _
      refine XS.lcmp X119.here hx rfl (hb hby dc7_44) rfl ?_
      show Steps p.tables e below (T119.setTop (mkF m 45 #[.val (.ref a1), .val (.ref a2), .val (.long q1), .second, .val (.int (own_s q1))] [(.int (lcmpW (f1 ((2 : Int32) * (own_s q1))) q1))])) _
      refine XS.ifYes X119.here hx rfl (pc0 := 45) (pc' := 68) rfl (hb hby dc7_45) rfl ((if0 _ _).trans (feq (mt (lw_eq _ _).mp hf2)).2) (by decide) (by decide) ?_
      show Steps p.tables e below (T119.setTop (mkF m 68 #[.val (.ref a1), .val (.ref a2), .val (.long q1), .second, .val (.int (own_s q1))] [])) _
      refine XS.iload X119.here hx rfl (hb hby dc7_68) rfl ?_
      show Steps p.tables e below (T119.setTop (mkF m 70 #[.val (.ref a1), .val (.ref a2), .val (.long q1), .second, .val (.int (own_s q1))] [(.int (own_s q1))])) _
      refine XS.iconst X119.here hx rfl (hb hby dc7_70) ?_
      show Steps p.tables e below (T119.setTop (mkF m 71 #[.val (.ref a1), .val (.ref a2), .val (.long q1), .second, .val (.int (own_s q1))] [(.int (1 : Int32)), (.int (own_s q1))])) _
      refine XS.iadd X119.here hx rfl (hb hby dc7_71) rfl ?_
      show Steps p.tables e below (T119.setTop (mkF m 72 #[.val (.ref a1), .val (.ref a2), .val (.long q1), .second, .val (.int (own_s q1))] [(.int ((own_s q1) + (1 : Int32)))])) _
      refine XS.aloadN X119.here hx rfl (hb hby dc7_72) rfl rfl ?_
      show Steps p.tables e below (T119.setTop (mkF m 73 #[.val (.ref a1), .val (.ref a2), .val (.long q1), .second, .val (.int (own_s q1))] [(.ref a1), (.int ((own_s q1) + (1 : Int32)))])) _
      refine st121 _ ?_
      show Steps p.tables e below (T121.setTop (mkF m 76 #[.val (.ref a1), .val (.ref a2), .val (.long q1), .second, .val (.int (own_s q1))] [(.int (15 : Int32)), (.int ((own_s q1) + (1 : Int32)))])) _
      refine XS.iand X121.here hx rfl (hb hby dc7_76) rfl ?_
      show Steps p.tables e below (T121.setTop (mkF m 77 #[.val (.ref a1), .val (.ref a2), .val (.long q1), .second, .val (.int (own_s q1))] [(.int (((own_s q1) + (1 : Int32)) &&& (15 : Int32)))])) _
      rw [(show (((own_s q1) + (1 : Int32)) &&& (15 : Int32)) = own_n (own_s q1) from rfl)]
      show Steps p.tables e below (T121.setTop (mkF m 77 #[.val (.ref a1), .val (.ref a2), .val (.long q1), .second, .val (.int (own_s q1))] [(.int (own_n (own_s q1)))])) _
      refine XS.istore X121.here hx rfl (hb hby dc7_77) rfl (l' := #[.val (.ref a1), .val (.ref a2), .val (.long q1), .second, .val (.int (own_n (own_s q1)))]) rfl ?_
      show Steps p.tables e below (T121.setTop (mkF m 79 #[.val (.ref a1), .val (.ref a2), .val (.long q1), .second, .val (.int (own_n (own_s q1)))] [])) _
      refine XS.goto X121.here hx rfl (pc0 := 79) (pc' := 23) rfl (hb hby dc7_79) (by decide) (by decide) ?_
      show Steps p.tables e below (T121.setTop (mkF m 23 #[.val (.ref a1), .val (.ref a2), .val (.long q1), .second, .val (.int (own_n (own_s q1)))] [])) _
      refine XS.aloadN X121.here hx rfl (hb hby dc7_23) rfl rfl ?_
      show Steps p.tables e below (T121.setTop (mkF m 24 #[.val (.ref a1), .val (.ref a2), .val (.long q1), .second, .val (.int (own_n (own_s q1)))] [(.ref a1)])) _
      refine XS.iload X121.here hx rfl (hb hby dc7_24) rfl ?_
      show Steps p.tables e below (T121.setTop (mkF m 26 #[.val (.ref a1), .val (.ref a2), .val (.long q1), .second, .val (.int (own_n (own_s q1)))] [(.int (own_n (own_s q1))), (.ref a1)])) _
      refine st122.trans ?_
      show Steps p.tables e below (T122.setTop (mkF m 29 #[.val (.ref a1), .val (.ref a2), .val (.long q1), .second, .val (.int (own_n (own_s q1)))] [(.long (f1 (((2 : Int32) * (own_n (own_s q1))) + (1 : Int32))))])) _
      refine XS.lconst X122.here hx rfl (hb hby dc7_29) ?_
      show Steps p.tables e below (T122.setTop (mkF m 30 #[.val (.ref a1), .val (.ref a2), .val (.long q1), .second, .val (.int (own_n (own_s q1)))] [(.long (0 : Int64)), (.long (f1 (((2 : Int32) * (own_n (own_s q1))) + (1 : Int32))))])) _
      refine XS.lcmp X122.here hx rfl (hb hby dc7_30) rfl ?_
      show Steps p.tables e below (T122.setTop (mkF m 31 #[.val (.ref a1), .val (.ref a2), .val (.long q1), .second, .val (.int (own_n (own_s q1)))] [(.int (lcmpW (f1 (((2 : Int32) * (own_n (own_s q1))) + (1 : Int32))) (0 : Int64)))])) _
      refine XS.ifYes X122.here hx rfl (pc0 := 31) (pc' := 65) rfl (hb hby dc7_31) rfl ((if0 _ _).trans (teq ((lw_eq _ _).mpr hf3)).1) (by decide) (by decide) ?_
      show Steps p.tables e below (T122.setTop (mkF m 65 #[.val (.ref a1), .val (.ref a2), .val (.long q1), .second, .val (.int (own_n (own_s q1)))] [])) _
      refine XS.iload X122.here hx rfl (hb hby dc7_65) rfl ?_
      show Steps p.tables e below (T122.setTop (mkF m 67 #[.val (.ref a1), .val (.ref a2), .val (.long q1), .second, .val (.int (own_n (own_s q1)))] [(.int (own_n (own_s q1)))])) _
      exact retI X122 hx Bd.returns (hb hby dc7_67) hr
    · show Q_find r1 h0 n0 _ T122.heap _
      rw [hh122]
      exact ⟨by rw [hfr], N122, rfl⟩
  · skip
    obtain ⟨cq123, kq123, q123a, q123b, q123c⟩ := isOf hZ e0 Ek
    obtain ⟨_, _, ⟨T123, L123, k123, n123⟩, -, X123, ⟨Lc123, hQ123, l123, y123, z123⟩, st123⟩ := X0.virtualBack hx (y := (⟨"com/example/keyfold/keyfold/Key", "isInteger", "()Z"⟩ : MethodName)) (z := (⟨"com/example/keyfold/keyfold/Key", "isInteger", "()Z"⟩ : MethodName)) hown (mvT hZ (hw _ (List.mem_of_getElem? (i := 50) rfl))) (mvT hZ (hw _ (List.mem_of_getElem? (i := 51) rfl))) (notFace_of_selects (args := #[]) (mvT hZ (hw _ (List.mem_of_getElem? (i := 53) rfl)))) (mvT hZ (hw _ (List.mem_of_getElem? (i := 53) rfl))) (mvT hZ (hw _ (List.mem_of_getElem? (i := 52) rfl))) (by decide) (backOf (W := 0) (rmIs l Z a0 hw [] a2 h0 n0 O0 Fp) hZ (hw _ (List.mem_of_getElem? (i := 54) rfl)) (hw _ (List.mem_of_getElem? (i := 2) rfl)) (by decide) (by decide)) q123a q123c (g := (mkF m 1 #[.val (.ref a1), .val (.ref a2), .unset, .unset, .unset] [(.ref a2)])) rfl (by rw [hml]; rfl) (Steps.refl _) (argsL := []) (rest := []) (lenOf pd_1 rfl) rfl (by show 2 * 0 + _ ≤ _; exact Nat.le_of_eq rfl) (hb hby dc7_1) (fun _ _ => ⟨rfl, e0, (by decide : 0 + 0 ≤ _), (by decide : 0 + 0 ≤ _)⟩)
    dsimp only [Pt.U, Pt.locs, Pt.cells, Pt.slots] at X123 l123 y123 z123 st123 hQ123
    subst l123 y123 z123
    obtain ⟨rfl, N123q, hh123⟩ := hQ123
    have N123 := Fr.app N0 N123q
    obtain ⟨cq124, kq124, q124a, q124b, q124c⟩ := isOf hZ hh123 Ek
    obtain ⟨_, _, ⟨T124, L124, k124, n124⟩, -, X124, ⟨Lc124, hQ124, l124, y124, z124⟩, st124⟩ := X123.virtualBack hx (y := (⟨"com/example/keyfold/keyfold/Key", "integer", "()J"⟩ : MethodName)) (z := (⟨"com/example/keyfold/keyfold/Key", "integer", "()J"⟩ : MethodName)) hown (mvT hZ (hw _ (List.mem_of_getElem? (i := 55) rfl))) (mvT hZ (hw _ (List.mem_of_getElem? (i := 56) rfl))) (notFace_of_selects (args := #[]) (mvT hZ (hw _ (List.mem_of_getElem? (i := 58) rfl)))) (mvT hZ (hw _ (List.mem_of_getElem? (i := 58) rfl))) (mvT hZ (hw _ (List.mem_of_getElem? (i := 57) rfl))) (by decide) (backOf (W := 0) (rmIn l Z a0 hw [] a2 q1 h0 n0 O0 Fi) hZ (hw _ (List.mem_of_getElem? (i := 59) rfl)) (hw _ (List.mem_of_getElem? (i := 2) rfl)) (by decide) (by decide)) q124a q124c (g := (mkF m 8 #[.val (.ref a1), .val (.ref a2), .unset, .unset, .unset] [(.ref a2)])) rfl (by rw [hml]; rfl) (Steps.refl _) (argsL := []) (rest := []) (lenOf pd_2 rfl) rfl (by show 2 * 0 + _ ≤ _; exact Nat.le_of_eq rfl) (hb hby dc7_8) (fun _ _ => ⟨rfl, hh123, (by decide : 0 + 0 ≤ _), (by decide : 0 + 0 ≤ _)⟩)
    dsimp only [Pt.U, Pt.locs, Pt.cells, Pt.slots] at X124 l124 y124 z124 st124 hQ124
    subst l124 y124 z124
    obtain ⟨rfl, N124q, hh124⟩ := hQ124
    have N124 := Fr.app N123 N124q
    obtain ⟨_, _, ⟨T125, L125, k125, n125⟩, -, X125, ⟨Lc125, hQ125, l125, y125, z125⟩, st125⟩ := Jvm.LawKit.callS X124 hx (y := (⟨"com/example/keyfold/keyfold/KeyTable", "hash", "(J)I"⟩ : MethodName)) hown (mvT hZ (hw _ (List.mem_of_getElem? (i := 60) rfl))) (mvT hZ (hw _ (List.mem_of_getElem? (i := 61) rfl))) (mvT hZ (hw _ (List.mem_of_getElem? (i := 18) rfl))) (mvT hZ (hw _ (List.mem_of_getElem? (i := 62) rfl))) (by decide) (backOf (W := 0) (rmHj l Z a0 hw [] q1 h0 n0 O0) hZ (hw _ (List.mem_of_getElem? (i := 62) rfl)) (hw _ (List.mem_of_getElem? (i := 18) rfl)) (by decide) (by decide)) (g := (mkF m 13 #[.val (.ref a1), .val (.ref a2), .val (.long q1), .second, .unset] [(.long q1)])) rfl (by rw [hml]; rfl) (argsL := [(.long q1)]) (rest := []) (lenOf pd_3 rfl) rfl (by show 2 * 0 + _ ≤ _; exact Nat.le_of_eq rfl) (hb hby dc7_13) (fun _ _ => ⟨rfl, hh124, (by decide : 0 + 0 ≤ _), (by decide : 0 + 0 ≤ _)⟩)
    dsimp only [Pt.U, Pt.locs, Pt.cells, Pt.slots] at X125 l125 y125 z125 st125 hQ125
    subst l125 y125 z125
    obtain ⟨rfl, N125q, hh125⟩ := hQ125
    have N125 := Fr.app N124 N125q
    obtain ⟨T126, X126, e126, st126⟩ := getF X125 hx hZ hown (host := "") (Or.inl (hw _ (List.mem_of_getElem? (i := 33) rfl))) Via.refl hh125 Fm (g := (mkF m 17 #[.val (.ref a1), .val (.ref a2), .val (.long q1), .second, .unset] [(.ref a1), (.int (own_h q1))])) rfl rfl (hb hby dc7_17)
    obtain ⟨cq127, q127, q127'⟩ := Exa.cell Et
    obtain ⟨_, _, ⟨T127, L127, k127, n127⟩, -, X127, ⟨Lc127, hQ127, l127, y127, z127⟩, st127⟩ := X126.privateBack hx (y := (⟨"com/example/keyfold/keyfold/KeyTable", "value", "(I)J"⟩ : MethodName)) hown (mvT hZ (hw _ (List.mem_of_getElem? (i := 65) rfl))) (mvT hZ (hw _ (List.mem_of_getElem? (i := 66) rfl))) (mvT hZ (own_sel (y := (⟨"com/example/keyfold/keyfold/KeyTable", "value", "(I)J"⟩ : MethodName)) (hw _ (List.mem_of_getElem? (i := 17) rfl)) (hw _ (List.mem_of_getElem? (i := 67) rfl)) (hw _ (List.mem_of_getElem? (i := 66) rfl)) (by decide))) (Cond.privateMethod_at (mvP hZ (hw _ (List.mem_of_getElem? (i := 67) rfl)) (args := #[]))) (mvT hZ (hw _ (List.mem_of_getElem? (i := 68) rfl))) (by decide) (backOf (W := 0) (rmV l Z a0 hw [] a1 b1 f1 (own_s q1) h0 n0 O0 Fs Lb (own_s16 q1)) hZ (hw _ (List.mem_of_getElem? (i := 68) rfl)) (hw _ (List.mem_of_getElem? (i := 18) rfl)) (by decide) (by decide)) (g := (mkF m 26 #[.val (.ref a1), .val (.ref a2), .val (.long q1), .second, .val (.int (own_s q1))] [(.int (own_s q1)), (.ref a1)])) rfl (by rw [hml]; rfl) (Steps.refl _) (a := a1) (by rw [e126]; exact q127) q127' (argsL := [(.int (own_s q1))]) (rest := []) (lenOf pd_4 rfl) rfl (by show 2 * 0 + _ ≤ _; exact Nat.le_of_eq rfl) (hb hby dc7_26) (fun _ _ => ⟨rfl, e126, (by decide : 0 + 0 ≤ _), (by decide : 0 + 0 ≤ _)⟩)
    dsimp only [Pt.U, Pt.locs, Pt.cells, Pt.slots] at X127 l127 y127 z127 st127 hQ127
    subst l127 y127 z127
    obtain ⟨rfl, N127q, hh127⟩ := hQ127
    have N127 := Fr.app N125 N127q
    obtain ⟨T128, X128, e128, st128⟩ := getF X127 hx hZ hown (host := "") (Or.inl (hw _ (List.mem_of_getElem? (i := 29) rfl))) Via.refl hh127 Fs (g := (mkF m 35 #[.val (.ref a1), .val (.ref a2), .val (.long q1), .second, .val (.int (own_s q1))] [(.ref a1)])) rfl rfl (hb hby dc7_35)
    obtain ⟨cl129, Ar129, S129, H129⟩ := id Lb
    have hin129 : ¬ (((2 : Int32) * (own_s q1)) < 0 ∨ cl129.slots.size ≤ (((2 : Int32) * (own_s q1))).toNatClampNeg) := by rw [S129]; exact (own_b0 (own_s16 q1))
    have hat129 : cl129.slots[(((2 : Int32) * (own_s q1))).toNatClampNeg]? = some (.long (f1 ((2 : Int32) * (own_s q1)))) := H129 _ hin129
    obtain ⟨T130, X130, e130, st130⟩ := getF X128 hx hZ hown (host := "") (Or.inl (hw _ (List.mem_of_getElem? (i := 33) rfl))) Via.refl e128 Fm (g := (mkF m 73 #[.val (.ref a1), .val (.ref a2), .val (.long q1), .second, .val (.int (own_s q1))] [(.ref a1), (.int ((own_s q1) + (1 : Int32)))])) rfl rfl (hb hby dc7_73)
    obtain ⟨cq131, q131, q131'⟩ := Exa.cell Et
    obtain ⟨_, _, ⟨T131, L131, k131, n131⟩, -, X131, ⟨Lc131, hQ131, l131, y131, z131⟩, st131⟩ := X130.privateBack hx (y := (⟨"com/example/keyfold/keyfold/KeyTable", "value", "(I)J"⟩ : MethodName)) hown (mvT hZ (hw _ (List.mem_of_getElem? (i := 65) rfl))) (mvT hZ (hw _ (List.mem_of_getElem? (i := 66) rfl))) (mvT hZ (own_sel (y := (⟨"com/example/keyfold/keyfold/KeyTable", "value", "(I)J"⟩ : MethodName)) (hw _ (List.mem_of_getElem? (i := 17) rfl)) (hw _ (List.mem_of_getElem? (i := 67) rfl)) (hw _ (List.mem_of_getElem? (i := 66) rfl)) (by decide))) (Cond.privateMethod_at (mvP hZ (hw _ (List.mem_of_getElem? (i := 67) rfl)) (args := #[]))) (mvT hZ (hw _ (List.mem_of_getElem? (i := 68) rfl))) (by decide) (backOf (W := 0) (rmV l Z a0 hw [] a1 b1 f1 (own_n (own_s q1)) h0 n0 O0 Fs Lb (own_n16 _)) hZ (hw _ (List.mem_of_getElem? (i := 68) rfl)) (hw _ (List.mem_of_getElem? (i := 18) rfl)) (by decide) (by decide)) (g := (mkF m 26 #[.val (.ref a1), .val (.ref a2), .val (.long q1), .second, .val (.int (own_n (own_s q1)))] [(.int (own_n (own_s q1))), (.ref a1)])) rfl (by rw [hml]; rfl) (Steps.refl _) (a := a1) (by rw [e130]; exact q131) q131' (argsL := [(.int (own_n (own_s q1)))]) (rest := []) (lenOf pd_4 rfl) rfl (by show 2 * 0 + _ ≤ _; exact Nat.le_of_eq rfl) (hb hby dc7_26) (fun _ _ => ⟨rfl, e130, (by decide : 0 + 0 ≤ _), (by decide : 0 + 0 ≤ _)⟩)
    dsimp only [Pt.U, Pt.locs, Pt.cells, Pt.slots] at X131 l131 y131 z131 st131 hQ131
    subst l131 y131 z131
    obtain ⟨rfl, N131q, hh131⟩ := hQ131
    have N131 := Fr.app N127 N131q
    obtain ⟨T132, X132, e132, st132⟩ := getF X131 hx hZ hown (host := "") (Or.inl (hw _ (List.mem_of_getElem? (i := 29) rfl))) Via.refl hh131 Fs (g := (mkF m 35 #[.val (.ref a1), .val (.ref a2), .val (.long q1), .second, .val (.int (own_n (own_s q1)))] [(.ref a1)])) rfl rfl (hb hby dc7_35)
    obtain ⟨cl133, Ar133, S133, H133⟩ := id Lb
    have hin133 : ¬ (((2 : Int32) * (own_n (own_s q1))) < 0 ∨ cl133.slots.size ≤ (((2 : Int32) * (own_n (own_s q1)))).toNatClampNeg) := by rw [S133]; exact (own_b0 (own_n16 _))
    have hat133 : cl133.slots[(((2 : Int32) * (own_n (own_s q1)))).toNatClampNeg]? = some (.long (f1 ((2 : Int32) * (own_n (own_s q1))))) := H133 _ hin133
    obtain ⟨T134, X134, e134, st134⟩ := getF X132 hx hZ hown (host := "") (Or.inl (hw _ (List.mem_of_getElem? (i := 31) rfl))) Via.refl e132 Fo (g := (mkF m 49 #[.val (.ref a1), .val (.ref a2), .val (.long q1), .second, .val (.int (own_n (own_s q1)))] [(.ref a1)])) rfl rfl (hb hby dc7_49)
    obtain ⟨fs, hr, hrun, hended, hW, hsame⟩ := X134.leave (v := some (.int (own_n (own_s q1)))) (fun h => by rw [Bd.returns] at h; cases h)
    refine ⟨_, _, pre0 _ ?_, hrun, hended, _, _, rfl, ?_, ⟨_, rfl⟩, hW, hsame.mono (by decide) (by decide)⟩
    · skip
      show Steps p.tables e below (s₁.setTop (mkF m 0 #[.val (.ref a1), .val (.ref a2), .unset, .unset, .unset] [])) _
      refine XS.aloadN X0.here hx rfl (hb hby dc7_0) rfl rfl ?_
      show Steps p.tables e below (s₁.setTop (mkF m 1 #[.val (.ref a1), .val (.ref a2), .unset, .unset, .unset] [(.ref a2)])) _
      refine st123.trans ?_
      show Steps p.tables e below (T123.setTop (mkF m 4 #[.val (.ref a1), .val (.ref a2), .unset, .unset, .unset] [(.int (1 : Int32))])) _
      refine XS.ifNo X123.here hx rfl (hb hby dc7_4) rfl (by decide) ?_
      show Steps p.tables e below (T123.setTop (mkF m 7 #[.val (.ref a1), .val (.ref a2), .unset, .unset, .unset] [])) _
      refine XS.aloadN X123.here hx rfl (hb hby dc7_7) rfl rfl ?_
      show Steps p.tables e below (T123.setTop (mkF m 8 #[.val (.ref a1), .val (.ref a2), .unset, .unset, .unset] [(.ref a2)])) _
      refine st124.trans ?_
      show Steps p.tables e below (T124.setTop (mkF m 11 #[.val (.ref a1), .val (.ref a2), .unset, .unset, .unset] [(.long q1)])) _
      refine XS.lstoreN X124.here hx rfl (hb hby dc7_11) rfl (l' := #[.val (.ref a1), .val (.ref a2), .val (.long q1), .second, .unset]) rfl ?_
      show Steps p.tables e below (T124.setTop (mkF m 12 #[.val (.ref a1), .val (.ref a2), .val (.long q1), .second, .unset] [])) _
      refine XS.lloadN X124.here hx rfl (hb hby dc7_12) rfl ?_
      show Steps p.tables e below (T124.setTop (mkF m 13 #[.val (.ref a1), .val (.ref a2), .val (.long q1), .second, .unset] [(.long q1)])) _
      refine st125 _ ?_
      show Steps p.tables e below (T125.setTop (mkF m 16 #[.val (.ref a1), .val (.ref a2), .val (.long q1), .second, .unset] [(.int (own_h q1))])) _
      refine XS.aloadN X125.here hx rfl (hb hby dc7_16) rfl rfl ?_
      show Steps p.tables e below (T125.setTop (mkF m 17 #[.val (.ref a1), .val (.ref a2), .val (.long q1), .second, .unset] [(.ref a1), (.int (own_h q1))])) _
      refine st126 _ ?_
      show Steps p.tables e below (T126.setTop (mkF m 20 #[.val (.ref a1), .val (.ref a2), .val (.long q1), .second, .unset] [(.int (15 : Int32)), (.int (own_h q1))])) _
      refine XS.iand X126.here hx rfl (hb hby dc7_20) rfl ?_
      show Steps p.tables e below (T126.setTop (mkF m 21 #[.val (.ref a1), .val (.ref a2), .val (.long q1), .second, .unset] [(.int ((own_h q1) &&& (15 : Int32)))])) _
      rw [(show ((own_h q1) &&& (15 : Int32)) = own_s q1 from rfl)]
      show Steps p.tables e below (T126.setTop (mkF m 21 #[.val (.ref a1), .val (.ref a2), .val (.long q1), .second, .unset] [(.int (own_s q1))])) _
      refine XS.istore X126.here hx rfl (hb hby dc7_21) rfl (l' := #[.val (.ref a1), .val (.ref a2), .val (.long q1), .second, .val (.int (own_s q1))]) rfl ?_
      show Steps p.tables e below (T126.setTop (mkF m 23 #[.val (.ref a1), .val (.ref a2), .val (.long q1), .second, .val (.int (own_s q1))] [])) _
      refine XS.aloadN X126.here hx rfl (hb hby dc7_23) rfl rfl ?_
      show Steps p.tables e below (T126.setTop (mkF m 24 #[.val (.ref a1), .val (.ref a2), .val (.long q1), .second, .val (.int (own_s q1))] [(.ref a1)])) _
      refine XS.iload X126.here hx rfl (hb hby dc7_24) rfl ?_
      show Steps p.tables e below (T126.setTop (mkF m 26 #[.val (.ref a1), .val (.ref a2), .val (.long q1), .second, .val (.int (own_s q1))] [(.int (own_s q1)), (.ref a1)])) _
      refine st127.trans ?_
      show Steps p.tables e below (T127.setTop (mkF m 29 #[.val (.ref a1), .val (.ref a2), .val (.long q1), .second, .val (.int (own_s q1))] [(.long (f1 (((2 : Int32) * (own_s q1)) + (1 : Int32))))])) _
      refine XS.lconst X127.here hx rfl (hb hby dc7_29) ?_
      show Steps p.tables e below (T127.setTop (mkF m 30 #[.val (.ref a1), .val (.ref a2), .val (.long q1), .second, .val (.int (own_s q1))] [(.long (0 : Int64)), (.long (f1 (((2 : Int32) * (own_s q1)) + (1 : Int32))))])) _
      refine XS.lcmp X127.here hx rfl (hb hby dc7_30) rfl ?_
      show Steps p.tables e below (T127.setTop (mkF m 31 #[.val (.ref a1), .val (.ref a2), .val (.long q1), .second, .val (.int (own_s q1))] [(.int (lcmpW (f1 (((2 : Int32) * (own_s q1)) + (1 : Int32))) (0 : Int64)))])) _
      refine XS.ifNo X127.here hx rfl (hb hby dc7_31) rfl ((if0 _ _).trans (feq (mt (lw_eq _ _).mp hf1)).1) ?_
      show Steps p.tables e below (T127.setTop (mkF m 34 #[.val (.ref a1), .val (.ref a2), .val (.long q1), .second, .val (.int (own_s q1))] [])) _
      refine XS.aloadN X127.here hx rfl (hb hby dc7_34) rfl rfl ?_
      show Steps p.tables e below (T127.setTop (mkF m 35 #[.val (.ref a1), .val (.ref a2), .val (.long q1), .second, .val (.int (own_s q1))] [(.ref a1)])) _
      refine st128 _ ?_
      show Steps p.tables e below (T128.setTop (mkF m 38 #[.val (.ref a1), .val (.ref a2), .val (.long q1), .second, .val (.int (own_s q1))] [(.ref b1)])) _
      refine XS.iconst X128.here hx rfl (hb hby dc7_38) ?_
      show Steps p.tables e below (T128.setTop (mkF m 39 #[.val (.ref a1), .val (.ref a2), .val (.long q1), .second, .val (.int (own_s q1))] [(.int (2 : Int32)), (.ref b1)])) _
      refine XS.iload X128.here hx rfl (hb hby dc7_39) rfl ?_
      show Steps p.tables e below (T128.setTop (mkF m 41 #[.val (.ref a1), .val (.ref a2), .val (.long q1), .second, .val (.int (own_s q1))] [(.int (own_s q1)), (.int (2 : Int32)), (.ref b1)])) _
      refine XS.imul X128.here hx rfl (hb hby dc7_41) rfl ?_
      show Steps p.tables e below (T128.setTop (mkF m 42 #[.val (.ref a1), .val (.ref a2), .val (.long q1), .second, .val (.int (own_s q1))] [(.int ((2 : Int32) * (own_s q1))), (.ref b1)])) _
      refine X128.laload hx (j := ((2 : Int32) * (own_s q1))) (v := (.long (f1 ((2 : Int32) * (own_s q1))))) (by rw [e128]; exact Ar129.1) (State.isArrayOf_alike hZ.alike Ar129.2.1) Ar129.2.2 hin129 hat129 (g := (mkF m 42 #[.val (.ref a1), .val (.ref a2), .val (.long q1), .second, .val (.int (own_s q1))] [(.int ((2 : Int32) * (own_s q1))), (.ref b1)])) rfl rfl (hb hby dc7_42) _ ?_
      show Steps p.tables e below (T128.setTop (mkF m 43 #[.val (.ref a1), .val (.ref a2), .val (.long q1), .second, .val (.int (own_s q1))] [(.long (f1 ((2 : Int32) * (own_s q1))))])) _
      refine XS.lloadN X128.here hx rfl (hb hby dc7_43) rfl ?_
      show Steps p.tables e below (T128.setTop (mkF m 44 #[.val (.ref a1), .val (.ref a2), .val (.long q1), .second, .val (.int (own_s q1))] [(.long q1), (.long (f1 ((2 : Int32) * (own_s q1))))])) _
      refine XS.lcmp X128.here hx rfl (hb hby dc7_44) rfl ?_
      show Steps p.tables e below (T128.setTop (mkF m 45 #[.val (.ref a1), .val (.ref a2), .val (.long q1), .second, .val (.int (own_s q1))] [(.int (lcmpW (f1 ((2 : Int32) * (own_s q1))) q1))])) _
      refine XS.ifYes X128.here hx rfl (pc0 := 45) (pc' := 68) rfl (hb hby dc7_45) rfl ((if0 _ _).trans (feq (mt (lw_eq _ _).mp hf2)).2) (by decide) (by decide) ?_
      show Steps p.tables e below (T128.setTop (mkF m 68 #[.val (.ref a1), .val (.ref a2), .val (.long q1), .second, .val (.int (own_s q1))] [])) _
      refine XS.iload X128.here hx rfl (hb hby dc7_68) rfl ?_
      show Steps p.tables e below (T128.setTop (mkF m 70 #[.val (.ref a1), .val (.ref a2), .val (.long q1), .second, .val (.int (own_s q1))] [(.int (own_s q1))])) _
      refine XS.iconst X128.here hx rfl (hb hby dc7_70) ?_
      show Steps p.tables e below (T128.setTop (mkF m 71 #[.val (.ref a1), .val (.ref a2), .val (.long q1), .second, .val (.int (own_s q1))] [(.int (1 : Int32)), (.int (own_s q1))])) _
      refine XS.iadd X128.here hx rfl (hb hby dc7_71) rfl ?_
      show Steps p.tables e below (T128.setTop (mkF m 72 #[.val (.ref a1), .val (.ref a2), .val (.long q1), .second, .val (.int (own_s q1))] [(.int ((own_s q1) + (1 : Int32)))])) _
      refine XS.aloadN X128.here hx rfl (hb hby dc7_72) rfl rfl ?_
      show Steps p.tables e below (T128.setTop (mkF m 73 #[.val (.ref a1), .val (.ref a2), .val (.long q1), .second, .val (.int (own_s q1))] [(.ref a1), (.int ((own_s q1) + (1 : Int32)))])) _
      refine st130 _ ?_
      show Steps p.tables e below (T130.setTop (mkF m 76 #[.val (.ref a1), .val (.ref a2), .val (.long q1), .second, .val (.int (own_s q1))] [(.int (15 : Int32)), (.int ((own_s q1) + (1 : Int32)))])) _
      refine XS.iand X130.here hx rfl (hb hby dc7_76) rfl ?_
      show Steps p.tables e below (T130.setTop (mkF m 77 #[.val (.ref a1), .val (.ref a2), .val (.long q1), .second, .val (.int (own_s q1))] [(.int (((own_s q1) + (1 : Int32)) &&& (15 : Int32)))])) _
      rw [(show (((own_s q1) + (1 : Int32)) &&& (15 : Int32)) = own_n (own_s q1) from rfl)]
      show Steps p.tables e below (T130.setTop (mkF m 77 #[.val (.ref a1), .val (.ref a2), .val (.long q1), .second, .val (.int (own_s q1))] [(.int (own_n (own_s q1)))])) _
      refine XS.istore X130.here hx rfl (hb hby dc7_77) rfl (l' := #[.val (.ref a1), .val (.ref a2), .val (.long q1), .second, .val (.int (own_n (own_s q1)))]) rfl ?_
      show Steps p.tables e below (T130.setTop (mkF m 79 #[.val (.ref a1), .val (.ref a2), .val (.long q1), .second, .val (.int (own_n (own_s q1)))] [])) _
      refine XS.goto X130.here hx rfl (pc0 := 79) (pc' := 23) rfl (hb hby dc7_79) (by decide) (by decide) ?_
      show Steps p.tables e below (T130.setTop (mkF m 23 #[.val (.ref a1), .val (.ref a2), .val (.long q1), .second, .val (.int (own_n (own_s q1)))] [])) _
      refine XS.aloadN X130.here hx rfl (hb hby dc7_23) rfl rfl ?_
      show Steps p.tables e below (T130.setTop (mkF m 24 #[.val (.ref a1), .val (.ref a2), .val (.long q1), .second, .val (.int (own_n (own_s q1)))] [(.ref a1)])) _
      refine XS.iload X130.here hx rfl (hb hby dc7_24) rfl ?_
      show Steps p.tables e below (T130.setTop (mkF m 26 #[.val (.ref a1), .val (.ref a2), .val (.long q1), .second, .val (.int (own_n (own_s q1)))] [(.int (own_n (own_s q1))), (.ref a1)])) _
      refine st131.trans ?_
      show Steps p.tables e below (T131.setTop (mkF m 29 #[.val (.ref a1), .val (.ref a2), .val (.long q1), .second, .val (.int (own_n (own_s q1)))] [(.long (f1 (((2 : Int32) * (own_n (own_s q1))) + (1 : Int32))))])) _
      refine XS.lconst X131.here hx rfl (hb hby dc7_29) ?_
      show Steps p.tables e below (T131.setTop (mkF m 30 #[.val (.ref a1), .val (.ref a2), .val (.long q1), .second, .val (.int (own_n (own_s q1)))] [(.long (0 : Int64)), (.long (f1 (((2 : Int32) * (own_n (own_s q1))) + (1 : Int32))))])) _
      refine XS.lcmp X131.here hx rfl (hb hby dc7_30) rfl ?_
      show Steps p.tables e below (T131.setTop (mkF m 31 #[.val (.ref a1), .val (.ref a2), .val (.long q1), .second, .val (.int (own_n (own_s q1)))] [(.int (lcmpW (f1 (((2 : Int32) * (own_n (own_s q1))) + (1 : Int32))) (0 : Int64)))])) _
      refine XS.ifNo X131.here hx rfl (hb hby dc7_31) rfl ((if0 _ _).trans (feq (mt (lw_eq _ _).mp hf3)).1) ?_
      show Steps p.tables e below (T131.setTop (mkF m 34 #[.val (.ref a1), .val (.ref a2), .val (.long q1), .second, .val (.int (own_n (own_s q1)))] [])) _
      refine XS.aloadN X131.here hx rfl (hb hby dc7_34) rfl rfl ?_
      show Steps p.tables e below (T131.setTop (mkF m 35 #[.val (.ref a1), .val (.ref a2), .val (.long q1), .second, .val (.int (own_n (own_s q1)))] [(.ref a1)])) _
      refine st132 _ ?_
      show Steps p.tables e below (T132.setTop (mkF m 38 #[.val (.ref a1), .val (.ref a2), .val (.long q1), .second, .val (.int (own_n (own_s q1)))] [(.ref b1)])) _
      refine XS.iconst X132.here hx rfl (hb hby dc7_38) ?_
      show Steps p.tables e below (T132.setTop (mkF m 39 #[.val (.ref a1), .val (.ref a2), .val (.long q1), .second, .val (.int (own_n (own_s q1)))] [(.int (2 : Int32)), (.ref b1)])) _
      refine XS.iload X132.here hx rfl (hb hby dc7_39) rfl ?_
      show Steps p.tables e below (T132.setTop (mkF m 41 #[.val (.ref a1), .val (.ref a2), .val (.long q1), .second, .val (.int (own_n (own_s q1)))] [(.int (own_n (own_s q1))), (.int (2 : Int32)), (.ref b1)])) _
      refine XS.imul X132.here hx rfl (hb hby dc7_41) rfl ?_
      show Steps p.tables e below (T132.setTop (mkF m 42 #[.val (.ref a1), .val (.ref a2), .val (.long q1), .second, .val (.int (own_n (own_s q1)))] [(.int ((2 : Int32) * (own_n (own_s q1)))), (.ref b1)])) _
      refine X132.laload hx (j := ((2 : Int32) * (own_n (own_s q1)))) (v := (.long (f1 ((2 : Int32) * (own_n (own_s q1)))))) (by rw [e132]; exact Ar133.1) (State.isArrayOf_alike hZ.alike Ar133.2.1) Ar133.2.2 hin133 hat133 (g := (mkF m 42 #[.val (.ref a1), .val (.ref a2), .val (.long q1), .second, .val (.int (own_n (own_s q1)))] [(.int ((2 : Int32) * (own_n (own_s q1)))), (.ref b1)])) rfl rfl (hb hby dc7_42) _ ?_
      show Steps p.tables e below (T132.setTop (mkF m 43 #[.val (.ref a1), .val (.ref a2), .val (.long q1), .second, .val (.int (own_n (own_s q1)))] [(.long (f1 ((2 : Int32) * (own_n (own_s q1)))))])) _
      refine XS.lloadN X132.here hx rfl (hb hby dc7_43) rfl ?_
      show Steps p.tables e below (T132.setTop (mkF m 44 #[.val (.ref a1), .val (.ref a2), .val (.long q1), .second, .val (.int (own_n (own_s q1)))] [(.long q1), (.long (f1 ((2 : Int32) * (own_n (own_s q1)))))])) _
      refine XS.lcmp X132.here hx rfl (hb hby dc7_44) rfl ?_
      show Steps p.tables e below (T132.setTop (mkF m 45 #[.val (.ref a1), .val (.ref a2), .val (.long q1), .second, .val (.int (own_n (own_s q1)))] [(.int (lcmpW (f1 ((2 : Int32) * (own_n (own_s q1)))) q1))])) _
      refine XS.ifNo X132.here hx rfl (hb hby dc7_45) rfl ((if0 _ _).trans (teq ((lw_eq _ _).mpr hf4)).2) ?_
      show Steps p.tables e below (T132.setTop (mkF m 48 #[.val (.ref a1), .val (.ref a2), .val (.long q1), .second, .val (.int (own_n (own_s q1)))] [])) _
      refine XS.aloadN X132.here hx rfl (hb hby dc7_48) rfl rfl ?_
      show Steps p.tables e below (T132.setTop (mkF m 49 #[.val (.ref a1), .val (.ref a2), .val (.long q1), .second, .val (.int (own_n (own_s q1)))] [(.ref a1)])) _
      refine st134 _ ?_
      show Steps p.tables e below (T134.setTop (mkF m 52 #[.val (.ref a1), .val (.ref a2), .val (.long q1), .second, .val (.int (own_n (own_s q1)))] [.null])) _
      refine XS.ifnullYes X134.here hx rfl (pc0 := 52) (pc' := 65) rfl (hb hby dc7_52) rfl (by decide) (by decide) ?_
      show Steps p.tables e below (T134.setTop (mkF m 65 #[.val (.ref a1), .val (.ref a2), .val (.long q1), .second, .val (.int (own_n (own_s q1)))] [])) _
      refine XS.iload X134.here hx rfl (hb hby dc7_65) rfl ?_
      show Steps p.tables e below (T134.setTop (mkF m 67 #[.val (.ref a1), .val (.ref a2), .val (.long q1), .second, .val (.int (own_n (own_s q1)))] [(.int (own_n (own_s q1)))])) _
      exact retI X134 hx Bd.returns (hb hby dc7_67) hr
    · show Q_find r1 h0 n0 _ T134.heap _
      rw [e134]
      exact ⟨by rw [hfr], N131, rfl⟩
def Q_get (f1 : Int32 → Int64) (r1 : Int32) (h0 : Heap) (n0 : Nat) (v : Option Value) (h : Heap) (L : List Loc) : Prop := v = some (.long (f1 (((2 : Int32) * r1) + (1 : Int32)))) ∧ Fr n0 L ∧ h = h0
theorem ef_6 (m : MethodId) (x0 : Addr) (x1 : Addr) : entryFrame m #[(.ref x0), (.ref x1)] 2 = mkF m 0 #[.val (.ref x0), .val (.ref x1)] [] := by first | (simp [entryFrame, mkF, argsToLocals, Value.category]; done) | rfl
theorem dc8_0 : decode prog_58_method_2_code 0 = .ok (.aload_n 0, 1) := by decide +kernel
theorem dc8_1 : decode prog_58_method_2_code 1 = .ok (.aload_n 0, 1) := by decide +kernel
theorem dc8_2 : decode prog_58_method_2_code 2 = .ok (.aload_n 1, 1) := by decide +kernel
theorem dc8_3 : decode prog_58_method_2_code 3 = .ok (.invokevirtual 12, 3) := by decide +kernel
theorem pd_5 : parseMethodDescriptor "(Lcom/example/keyfold/keyfold/Key;)I" = some ⟨[(.object "com/example/keyfold/keyfold/Key")], some .int⟩ := by decide +kernel
theorem dc8_6 : decode prog_58_method_2_code 6 = .ok (.invokevirtual 16, 3) := by decide +kernel
theorem dc8_9 : decode prog_58_method_2_code 9 = .ok (.lreturn, 1) := by decide +kernel
set_option maxRecDepth 65536 in
set_option maxHeartbeats 40000000 in
theorem rmG (l : Launch) (Z : State) (a0 : Array Value) (hw : ∀ d ∈ tables_1, d.before a0 Z = true) (ws : List Jvm.Cond) (a1 a2 b1 : Addr) (f1 : Int32 → Int64) (n1 r1 : Int32) (q1 p1 : Int64) (h0 : Heap) (n0 : Nat) (O0 : Old Z n0 h0) (Et : Exa Z h0 a1 "com/example/keyfold/keyfold/KeyTable") (Fs : Fld Z h0 a1 "com/example/keyfold/keyfold/KeyTable" "slots" "[J" (.ref b1)) (Fo : Fld Z h0 a1 "com/example/keyfold/keyfold/KeyTable" "others" "[Lcom/example/keyfold/keyfold/Key;" .null) (Fm : Fld Z h0 a1 "com/example/keyfold/keyfold/KeyTable" "mask" "I" (.int (15 : Int32))) (Fz : Fld Z h0 a1 "com/example/keyfold/keyfold/KeyTable" "size" "I" (.int n1)) (Lb : Lv Z h0 b1 32 f1) (Fq : Fld Z h0 a1 "com/example/keyfold/keyfold/KeyTable" "prefetched" "J" (.long p1)) (Ek : Exa Z h0 a2 "com/example/keyfold/keyfold/Key") (Fp : Fld Z h0 a2 "com/example/keyfold/keyfold/Key" "parts" "[Ljava/lang/Object;" .null) (Fi : Fld Z h0 a2 "com/example/keyfold/keyfold/Key" "integer" "J" (.long q1)) (hF : Fnd f1 q1 r1) :
    MetFree l (⟨"com/example/keyfold/keyfold/KeyTable", "get", "(Lcom/example/keyfold/keyfold/Key;)J"⟩ : MethodName) (head1 (Jvm.Cond.code (⟨"com/example/keyfold/keyfold/KeyTable", "get", "(Lcom/example/keyfold/keyfold/Key;)J"⟩ : MethodName) prog_58_method_2_code 2 (some .long) :: ws) ({ frames := 2, cells := 0, slots := 0, locals := 32 } : Room)) (fun a U => a = #[(.ref a1), (.ref a2)] ∧ Z.Warmed39 U.vm ∧ U.heap = h0) (fun _ _ _ _ _ => True) (fun _ U o U' => ∃ v L, o = .returned v ∧ Q_get f1 r1 h0 n0 v U'.heap L ∧ FrameEnd U o U' L ({ frames := 2, cells := 0, slots := 0, locals := 32 } : Room).cells ({ frames := 2, cells := 0, slots := 0, locals := 32 } : Room).slots) := by
  refine MetFree.of_bodySF (plainFor_of_name pn_1) hisR ?_
  intro p e s m args below meth c s₁ Bd hml0 hP hK
  obtain ⟨rfl, hZ, hh⟩ := hP
  have hx := Bd.exec
  have hby := Bd.bytes
  have hml : c.maxLocals = 2 := hml0
  have hown : s.vm.findClass "com/example/keyfold/keyfold/KeyTable" = some m.cls := findClass_of_methodNamed Bd.named
  have hnm := (name_of_methodNamed Bd.named Bd.method).1
  have X0 : Stand p l e ({ frames := 2, cells := 0, slots := 0, locals := 32 } : Room) s m #[(.ref a1), (.ref a2)] below meth c s₁ [] 0 0 := Stand.of_body Bd
  have e0 : s₁.heap = h0 := by rw [← hh, Bd.state]; rfl
  have N0 := Fr.nil n0
  have pre0 : ∀ t, Steps p.tables e below (s₁.setTop (mkF m 0 #[.val (.ref a1), .val (.ref a2)] [])) t → Steps p.tables e below (s₁.setTop (entryFrame m #[(.ref a1), (.ref a2)] 2)) t := fun t k => castTop (ef_6 m a1 a2) k
  obtain ⟨cq101, q101, q101'⟩ := Exa.cell Et
  obtain ⟨_, _, ⟨T101, L101, k101, n101⟩, -, X101, ⟨Lc101, hQ101, l101, y101, z101⟩, st101⟩ := X0.privateBack hx (y := (⟨"com/example/keyfold/keyfold/KeyTable", "find", "(Lcom/example/keyfold/keyfold/Key;)I"⟩ : MethodName)) hown (mvT hZ (hw _ (List.mem_of_getElem? (i := 46) rfl))) (mvT hZ (hw _ (List.mem_of_getElem? (i := 47) rfl))) (mvT hZ (own_sel (y := (⟨"com/example/keyfold/keyfold/KeyTable", "find", "(Lcom/example/keyfold/keyfold/Key;)I"⟩ : MethodName)) (hw _ (List.mem_of_getElem? (i := 17) rfl)) (hw _ (List.mem_of_getElem? (i := 48) rfl)) (hw _ (List.mem_of_getElem? (i := 47) rfl)) (by decide))) (Cond.privateMethod_at (mvP hZ (hw _ (List.mem_of_getElem? (i := 48) rfl)) (args := #[]))) (mvT hZ (hw _ (List.mem_of_getElem? (i := 49) rfl))) (by decide) (backOf (W := 1) (rmF l Z a0 hw [] a1 a2 b1 f1 n1 r1 q1 p1 h0 n0 O0 Et Fs Fo Fm Fz Lb Fq Ek Fp Fi hF) hZ (hw _ (List.mem_of_getElem? (i := 49) rfl)) (hw _ (List.mem_of_getElem? (i := 18) rfl)) (by decide) (by decide)) (g := (mkF m 3 #[.val (.ref a1), .val (.ref a2)] [(.ref a2), (.ref a1), (.ref a1)])) rfl (by rw [hml]; rfl) (Steps.refl _) (a := a1) (by rw [e0]; exact q101) q101' (argsL := [(.ref a2)]) (rest := [(.ref a1)]) (lenOf pd_5 rfl) rfl (by show 2 * 0 + _ ≤ _; exact Nat.le_of_eq rfl) (hb hby dc8_3) (fun _ _ => ⟨rfl, e0, (by decide : 0 + 0 ≤ _), (by decide : 0 + 0 ≤ _)⟩)
  dsimp only [Pt.U, Pt.locs, Pt.cells, Pt.slots] at X101 l101 y101 z101 st101 hQ101
  subst l101 y101 z101
  obtain ⟨rfl, N101q, hh101⟩ := hQ101
  have N101 := Fr.app N0 N101q
  obtain ⟨cq102, q102, q102'⟩ := Exa.cell Et
  obtain ⟨_, _, ⟨T102, L102, k102, n102⟩, -, X102, ⟨Lc102, hQ102, l102, y102, z102⟩, st102⟩ := X101.privateBack hx (y := (⟨"com/example/keyfold/keyfold/KeyTable", "value", "(I)J"⟩ : MethodName)) hown (mvT hZ (hw _ (List.mem_of_getElem? (i := 65) rfl))) (mvT hZ (hw _ (List.mem_of_getElem? (i := 66) rfl))) (mvT hZ (own_sel (y := (⟨"com/example/keyfold/keyfold/KeyTable", "value", "(I)J"⟩ : MethodName)) (hw _ (List.mem_of_getElem? (i := 17) rfl)) (hw _ (List.mem_of_getElem? (i := 67) rfl)) (hw _ (List.mem_of_getElem? (i := 66) rfl)) (by decide))) (Cond.privateMethod_at (mvP hZ (hw _ (List.mem_of_getElem? (i := 67) rfl)) (args := #[]))) (mvT hZ (hw _ (List.mem_of_getElem? (i := 68) rfl))) (by decide) (backOf (W := 0) (rmV l Z a0 hw [] a1 b1 f1 r1 h0 n0 O0 Fs Lb (Fnd.in16 hF)) hZ (hw _ (List.mem_of_getElem? (i := 68) rfl)) (hw _ (List.mem_of_getElem? (i := 18) rfl)) (by decide) (by decide)) (g := (mkF m 6 #[.val (.ref a1), .val (.ref a2)] [(.int r1), (.ref a1)])) rfl (by rw [hml]; rfl) (Steps.refl _) (a := a1) (by rw [hh101]; exact q102) q102' (argsL := [(.int r1)]) (rest := []) (lenOf pd_4 rfl) rfl (by show 2 * 0 + _ ≤ _; exact Nat.le_of_eq rfl) (hb hby dc8_6) (fun _ _ => ⟨rfl, hh101, (by decide : 0 + 0 ≤ _), (by decide : 0 + 0 ≤ _)⟩)
  dsimp only [Pt.U, Pt.locs, Pt.cells, Pt.slots] at X102 l102 y102 z102 st102 hQ102
  subst l102 y102 z102
  obtain ⟨rfl, N102q, hh102⟩ := hQ102
  have N102 := Fr.app N101 N102q
  obtain ⟨fs, hr, hrun, hended, hW, hsame⟩ := X102.leave (v := some (.long (f1 (((2 : Int32) * r1) + (1 : Int32))))) (fun h => by rw [Bd.returns] at h; cases h)
  refine ⟨_, _, pre0 _ ?_, hrun, hended, _, _, rfl, ?_, ⟨_, rfl⟩, hW, hsame.mono (by decide) (by decide)⟩
  · skip
    show Steps p.tables e below (s₁.setTop (mkF m 0 #[.val (.ref a1), .val (.ref a2)] [])) _
    refine XS.aloadN X0.here hx rfl (hb hby dc8_0) rfl rfl ?_
    show Steps p.tables e below (s₁.setTop (mkF m 1 #[.val (.ref a1), .val (.ref a2)] [(.ref a1)])) _
    refine XS.aloadN X0.here hx rfl (hb hby dc8_1) rfl rfl ?_
    show Steps p.tables e below (s₁.setTop (mkF m 2 #[.val (.ref a1), .val (.ref a2)] [(.ref a1), (.ref a1)])) _
    refine XS.aloadN X0.here hx rfl (hb hby dc8_2) rfl rfl ?_
    show Steps p.tables e below (s₁.setTop (mkF m 3 #[.val (.ref a1), .val (.ref a2)] [(.ref a2), (.ref a1), (.ref a1)])) _
    refine st101.trans ?_
    show Steps p.tables e below (T101.setTop (mkF m 6 #[.val (.ref a1), .val (.ref a2)] [(.int r1), (.ref a1)])) _
    refine st102.trans ?_
    show Steps p.tables e below (T102.setTop (mkF m 9 #[.val (.ref a1), .val (.ref a2)] [(.long (f1 (((2 : Int32) * r1) + (1 : Int32))))])) _
    exact retOut X102 hx (t := .long) Bd.returns rfl (Or.inr (Or.inl ⟨rfl, rfl, _, rfl⟩)) (hb hby dc8_9) hr
  · show Q_get f1 r1 h0 n0 _ T102.heap _
    rw [hh102]
    exact ⟨rfl, N102, rfl⟩
theorem ef_7 (m : MethodId) (x0 : Addr) (x1 : Addr) : entryFrame m #[(.ref x0), (.ref x1)] 3 = mkF m 0 #[.val (.ref x0), .val (.ref x1), .unset] [] := by first | (simp [entryFrame, mkF, argsToLocals, Value.category]; done) | rfl
theorem dc9_0 : decode prog_58_method_5_code 0 = .ok (.aload_n 0, 1) := by decide +kernel
theorem dc9_1 : decode prog_58_method_5_code 1 = .ok (.aload_n 1, 1) := by decide +kernel
theorem dc9_2 : decode prog_58_method_5_code 2 = .ok (.invokevirtual 12, 3) := by decide +kernel
theorem dc9_5 : decode prog_58_method_5_code 5 = .ok (.istore_n 2, 1) := by decide +kernel
theorem dc9_6 : decode prog_58_method_5_code 6 = .ok (.aload_n 0, 1) := by decide +kernel
theorem dc9_7 : decode prog_58_method_5_code 7 = .ok (.iload_n 2, 1) := by decide +kernel
theorem dc9_8 : decode prog_58_method_5_code 8 = .ok (.invokevirtual 16, 3) := by decide +kernel
theorem dc9_11 : decode prog_58_method_5_code 11 = .ok (.lconst 0, 1) := by decide +kernel
theorem dc9_12 : decode prog_58_method_5_code 12 = .ok (.lcmp, 1) := by decide +kernel
theorem dc9_13 : decode prog_58_method_5_code 13 = .ok (.ifCond .eq 5, 3) := by decide +kernel
theorem dc9_16 : decode prog_58_method_5_code 16 = .ok (.iload_n 2, 1) := by decide +kernel
theorem dc9_17 : decode prog_58_method_5_code 17 = .ok (.ireturn, 1) := by decide +kernel
set_option maxRecDepth 65536 in
set_option maxHeartbeats 40000000 in
theorem rmSA (l : Launch) (Z : State) (a0 : Array Value) (hw : ∀ d ∈ tables_1, d.before a0 Z = true) (ws : List Jvm.Cond) (a1 a2 b1 : Addr) (f1 : Int32 → Int64) (n1 r1 : Int32) (q1 p1 : Int64) (h0 : Heap) (n0 : Nat) (O0 : Old Z n0 h0) (Et : Exa Z h0 a1 "com/example/keyfold/keyfold/KeyTable") (Fs : Fld Z h0 a1 "com/example/keyfold/keyfold/KeyTable" "slots" "[J" (.ref b1)) (Fo : Fld Z h0 a1 "com/example/keyfold/keyfold/KeyTable" "others" "[Lcom/example/keyfold/keyfold/Key;" .null) (Fm : Fld Z h0 a1 "com/example/keyfold/keyfold/KeyTable" "mask" "I" (.int (15 : Int32))) (Fz : Fld Z h0 a1 "com/example/keyfold/keyfold/KeyTable" "size" "I" (.int n1)) (Lb : Lv Z h0 b1 32 f1) (Fq : Fld Z h0 a1 "com/example/keyfold/keyfold/KeyTable" "prefetched" "J" (.long p1)) (Ek : Exa Z h0 a2 "com/example/keyfold/keyfold/Key") (Fp : Fld Z h0 a2 "com/example/keyfold/keyfold/Key" "parts" "[Ljava/lang/Object;" .null) (Fi : Fld Z h0 a2 "com/example/keyfold/keyfold/Key" "integer" "J" (.long q1)) (hF : Fnd f1 q1 r1) (hv : ¬ ((f1 (((2 : Int32) * r1) + (1 : Int32))) = (0 : Int64))) :
    MetFree l (⟨"com/example/keyfold/keyfold/KeyTable", "slotFor", "(Lcom/example/keyfold/keyfold/Key;)I"⟩ : MethodName) (head1 (Jvm.Cond.code (⟨"com/example/keyfold/keyfold/KeyTable", "slotFor", "(Lcom/example/keyfold/keyfold/Key;)I"⟩ : MethodName) prog_58_method_5_code 3 (some .int) :: ws) ({ frames := 2, cells := 0, slots := 0, locals := 31 } : Room)) (fun a U => a = #[(.ref a1), (.ref a2)] ∧ Z.Warmed39 U.vm ∧ U.heap = h0) (fun _ _ _ _ _ => True) (fun _ U o U' => ∃ v L, o = .returned v ∧ Q_find r1 h0 n0 v U'.heap L ∧ FrameEnd U o U' L ({ frames := 2, cells := 0, slots := 0, locals := 31 } : Room).cells ({ frames := 2, cells := 0, slots := 0, locals := 31 } : Room).slots) := by
  refine MetFree.of_bodySF (plainFor_of_name pn_1) hisR ?_
  intro p e s m args below meth c s₁ Bd hml0 hP hK
  obtain ⟨rfl, hZ, hh⟩ := hP
  have hx := Bd.exec
  have hby := Bd.bytes
  have hml : c.maxLocals = 3 := hml0
  have hown : s.vm.findClass "com/example/keyfold/keyfold/KeyTable" = some m.cls := findClass_of_methodNamed Bd.named
  have hnm := (name_of_methodNamed Bd.named Bd.method).1
  have X0 : Stand p l e ({ frames := 2, cells := 0, slots := 0, locals := 31 } : Room) s m #[(.ref a1), (.ref a2)] below meth c s₁ [] 0 0 := Stand.of_body Bd
  have e0 : s₁.heap = h0 := by rw [← hh, Bd.state]; rfl
  have N0 := Fr.nil n0
  have pre0 : ∀ t, Steps p.tables e below (s₁.setTop (mkF m 0 #[.val (.ref a1), .val (.ref a2), .unset] [])) t → Steps p.tables e below (s₁.setTop (entryFrame m #[(.ref a1), (.ref a2)] 3)) t := fun t k => castTop (ef_7 m a1 a2) k
  obtain ⟨cq101, q101, q101'⟩ := Exa.cell Et
  obtain ⟨_, _, ⟨T101, L101, k101, n101⟩, -, X101, ⟨Lc101, hQ101, l101, y101, z101⟩, st101⟩ := X0.privateBack hx (y := (⟨"com/example/keyfold/keyfold/KeyTable", "find", "(Lcom/example/keyfold/keyfold/Key;)I"⟩ : MethodName)) hown (mvT hZ (hw _ (List.mem_of_getElem? (i := 46) rfl))) (mvT hZ (hw _ (List.mem_of_getElem? (i := 47) rfl))) (mvT hZ (own_sel (y := (⟨"com/example/keyfold/keyfold/KeyTable", "find", "(Lcom/example/keyfold/keyfold/Key;)I"⟩ : MethodName)) (hw _ (List.mem_of_getElem? (i := 17) rfl)) (hw _ (List.mem_of_getElem? (i := 48) rfl)) (hw _ (List.mem_of_getElem? (i := 47) rfl)) (by decide))) (Cond.privateMethod_at (mvP hZ (hw _ (List.mem_of_getElem? (i := 48) rfl)) (args := #[]))) (mvT hZ (hw _ (List.mem_of_getElem? (i := 49) rfl))) (by decide) (backOf (W := 0) (rmF l Z a0 hw [] a1 a2 b1 f1 n1 r1 q1 p1 h0 n0 O0 Et Fs Fo Fm Fz Lb Fq Ek Fp Fi hF) hZ (hw _ (List.mem_of_getElem? (i := 49) rfl)) (hw _ (List.mem_of_getElem? (i := 18) rfl)) (by decide) (by decide)) (g := (mkF m 2 #[.val (.ref a1), .val (.ref a2), .unset] [(.ref a2), (.ref a1)])) rfl (by rw [hml]; rfl) (Steps.refl _) (a := a1) (by rw [e0]; exact q101) q101' (argsL := [(.ref a2)]) (rest := []) (lenOf pd_5 rfl) rfl (by show 2 * 0 + _ ≤ _; exact Nat.le_of_eq rfl) (hb hby dc9_2) (fun _ _ => ⟨rfl, e0, (by decide : 0 + 0 ≤ _), (by decide : 0 + 0 ≤ _)⟩)
  dsimp only [Pt.U, Pt.locs, Pt.cells, Pt.slots] at X101 l101 y101 z101 st101 hQ101
  subst l101 y101 z101
  obtain ⟨rfl, N101q, hh101⟩ := hQ101
  have N101 := Fr.app N0 N101q
  obtain ⟨cq102, q102, q102'⟩ := Exa.cell Et
  obtain ⟨_, _, ⟨T102, L102, k102, n102⟩, -, X102, ⟨Lc102, hQ102, l102, y102, z102⟩, st102⟩ := X101.privateBack hx (y := (⟨"com/example/keyfold/keyfold/KeyTable", "value", "(I)J"⟩ : MethodName)) hown (mvT hZ (hw _ (List.mem_of_getElem? (i := 65) rfl))) (mvT hZ (hw _ (List.mem_of_getElem? (i := 66) rfl))) (mvT hZ (own_sel (y := (⟨"com/example/keyfold/keyfold/KeyTable", "value", "(I)J"⟩ : MethodName)) (hw _ (List.mem_of_getElem? (i := 17) rfl)) (hw _ (List.mem_of_getElem? (i := 67) rfl)) (hw _ (List.mem_of_getElem? (i := 66) rfl)) (by decide))) (Cond.privateMethod_at (mvP hZ (hw _ (List.mem_of_getElem? (i := 67) rfl)) (args := #[]))) (mvT hZ (hw _ (List.mem_of_getElem? (i := 68) rfl))) (by decide) (backOf (W := 0) (rmV l Z a0 hw [] a1 b1 f1 r1 h0 n0 O0 Fs Lb (Fnd.in16 hF)) hZ (hw _ (List.mem_of_getElem? (i := 68) rfl)) (hw _ (List.mem_of_getElem? (i := 18) rfl)) (by decide) (by decide)) (g := (mkF m 8 #[.val (.ref a1), .val (.ref a2), .val (.int r1)] [(.int r1), (.ref a1)])) rfl (by rw [hml]; rfl) (Steps.refl _) (a := a1) (by rw [hh101]; exact q102) q102' (argsL := [(.int r1)]) (rest := []) (lenOf pd_4 rfl) rfl (by show 2 * 0 + _ ≤ _; exact Nat.le_of_eq rfl) (hb hby dc9_8) (fun _ _ => ⟨rfl, hh101, (by decide : 0 + 0 ≤ _), (by decide : 0 + 0 ≤ _)⟩)
  dsimp only [Pt.U, Pt.locs, Pt.cells, Pt.slots] at X102 l102 y102 z102 st102 hQ102
  subst l102 y102 z102
  obtain ⟨rfl, N102q, hh102⟩ := hQ102
  have N102 := Fr.app N101 N102q
  obtain ⟨fs, hr, hrun, hended, hW, hsame⟩ := X102.leave (v := some (.int r1)) (fun h => by rw [Bd.returns] at h; cases h)
  refine ⟨_, _, pre0 _ ?_, hrun, hended, _, _, rfl, ?_, ⟨_, rfl⟩, hW, hsame.mono (by decide) (by decide)⟩
  · skip
    show Steps p.tables e below (s₁.setTop (mkF m 0 #[.val (.ref a1), .val (.ref a2), .unset] [])) _
    refine XS.aloadN X0.here hx rfl (hb hby dc9_0) rfl rfl ?_
    show Steps p.tables e below (s₁.setTop (mkF m 1 #[.val (.ref a1), .val (.ref a2), .unset] [(.ref a1)])) _
    refine XS.aloadN X0.here hx rfl (hb hby dc9_1) rfl rfl ?_
    show Steps p.tables e below (s₁.setTop (mkF m 2 #[.val (.ref a1), .val (.ref a2), .unset] [(.ref a2), (.ref a1)])) _
    refine st101.trans ?_
    show Steps p.tables e below (T101.setTop (mkF m 5 #[.val (.ref a1), .val (.ref a2), .unset] [(.int r1)])) _
    refine XS.istoreN X101.here hx rfl (hb hby dc9_5) rfl (l' := #[.val (.ref a1), .val (.ref a2), .val (.int r1)]) rfl ?_
    show Steps p.tables e below (T101.setTop (mkF m 6 #[.val (.ref a1), .val (.ref a2), .val (.int r1)] [])) _
    refine XS.aloadN X101.here hx rfl (hb hby dc9_6) rfl rfl ?_
    show Steps p.tables e below (T101.setTop (mkF m 7 #[.val (.ref a1), .val (.ref a2), .val (.int r1)] [(.ref a1)])) _
    refine XS.iloadN X101.here hx rfl (hb hby dc9_7) rfl ?_
    show Steps p.tables e below (T101.setTop (mkF m 8 #[.val (.ref a1), .val (.ref a2), .val (.int r1)] [(.int r1), (.ref a1)])) _
    refine st102.trans ?_
    show Steps p.tables e below (T102.setTop (mkF m 11 #[.val (.ref a1), .val (.ref a2), .val (.int r1)] [(.long (f1 (((2 : Int32) * r1) + (1 : Int32))))])) _
    refine XS.lconst X102.here hx rfl (hb hby dc9_11) ?_
    show Steps p.tables e below (T102.setTop (mkF m 12 #[.val (.ref a1), .val (.ref a2), .val (.int r1)] [(.long (0 : Int64)), (.long (f1 (((2 : Int32) * r1) + (1 : Int32))))])) _
    refine XS.lcmp X102.here hx rfl (hb hby dc9_12) rfl ?_
    show Steps p.tables e below (T102.setTop (mkF m 13 #[.val (.ref a1), .val (.ref a2), .val (.int r1)] [(.int (lcmpW (f1 (((2 : Int32) * r1) + (1 : Int32))) (0 : Int64)))])) _
    refine XS.ifNo X102.here hx rfl (hb hby dc9_13) rfl ((if0 _ _).trans (feq (mt (lw_eq _ _).mp hv)).1) ?_
    show Steps p.tables e below (T102.setTop (mkF m 16 #[.val (.ref a1), .val (.ref a2), .val (.int r1)] [])) _
    refine XS.iloadN X102.here hx rfl (hb hby dc9_16) rfl ?_
    show Steps p.tables e below (T102.setTop (mkF m 17 #[.val (.ref a1), .val (.ref a2), .val (.int r1)] [(.int r1)])) _
    exact retI X102 hx Bd.returns (hb hby dc9_17) hr
  · show Q_find r1 h0 n0 _ T102.heap _
    rw [hh102]
    exact ⟨rfl, N102, rfl⟩
def Q_SB (Z : State) (a1 a2 b1 : Addr) (f1 : Int32 → Int64) (n1 r1 : Int32) (q1 p1 : Int64) (h0 : Heap) (n0 : Nat) (v : Option Value) (h : Heap) (L : List Loc) : Prop := v = some (.int r1) ∧ Fr n0 L ∧ Keep h0 h [a1, b1] ∧ Exa Z h a1 "com/example/keyfold/keyfold/KeyTable" ∧ Fld Z h a1 "com/example/keyfold/keyfold/KeyTable" "slots" "[J" (.ref b1) ∧ Fld Z h a1 "com/example/keyfold/keyfold/KeyTable" "others" "[Lcom/example/keyfold/keyfold/Key;" .null ∧ Fld Z h a1 "com/example/keyfold/keyfold/KeyTable" "mask" "I" (.int (15 : Int32)) ∧ Fld Z h a1 "com/example/keyfold/keyfold/KeyTable" "size" "I" (.int (n1 + (1 : Int32))) ∧ Lv Z h b1 32 (upd f1 ((2 : Int32) * r1) q1) ∧ Fld Z h a1 "com/example/keyfold/keyfold/KeyTable" "prefetched" "J" (.long p1)
theorem dc9_18 : decode prog_58_method_5_code 18 = .ok (.aload_n 0, 1) := by decide +kernel
theorem dc9_19 : decode prog_58_method_5_code 19 = .ok (.getfield 27, 3) := by decide +kernel
theorem dc9_22 : decode prog_58_method_5_code 22 = .ok (.iconst 1, 1) := by decide +kernel
theorem dc9_23 : decode prog_58_method_5_code 23 = .ok (.iadd, 1) := by decide +kernel
theorem dc9_24 : decode prog_58_method_5_code 24 = .ok (.aload_n 0, 1) := by decide +kernel
theorem dc9_25 : decode prog_58_method_5_code 25 = .ok (.getfield 31, 3) := by decide +kernel
theorem dc9_28 : decode prog_58_method_5_code 28 = .ok (.aload_n 0, 1) := by decide +kernel
theorem dc9_29 : decode prog_58_method_5_code 29 = .ok (.getfield 31, 3) := by decide +kernel
theorem dc9_32 : decode prog_58_method_5_code 32 = .ok (.iconst 2, 1) := by decide +kernel
theorem dc9_33 : decode prog_58_method_5_code 33 = .ok (.iushr, 1) := by decide +kernel
theorem dc9_34 : decode prog_58_method_5_code 34 = .ok (.isub, 1) := by decide +kernel
theorem dc9_35 : decode prog_58_method_5_code 35 = .ok (.if_icmp .le 13, 3) := by decide +kernel
theorem dc9_48 : decode prog_58_method_5_code 48 = .ok (.aload_n 1, 1) := by decide +kernel
theorem dc9_49 : decode prog_58_method_5_code 49 = .ok (.invokevirtual 37, 3) := by decide +kernel
theorem dc9_52 : decode prog_58_method_5_code 52 = .ok (.ifCond .eq 18, 3) := by decide +kernel
theorem dc9_55 : decode prog_58_method_5_code 55 = .ok (.aload_n 0, 1) := by decide +kernel
theorem dc9_56 : decode prog_58_method_5_code 56 = .ok (.getfield 23, 3) := by decide +kernel
theorem dc9_59 : decode prog_58_method_5_code 59 = .ok (.iconst 2, 1) := by decide +kernel
theorem dc9_60 : decode prog_58_method_5_code 60 = .ok (.iload_n 2, 1) := by decide +kernel
theorem dc9_61 : decode prog_58_method_5_code 61 = .ok (.imul, 1) := by decide +kernel
theorem dc9_62 : decode prog_58_method_5_code 62 = .ok (.aload_n 1, 1) := by decide +kernel
theorem dc9_63 : decode prog_58_method_5_code 63 = .ok (.invokevirtual 43, 3) := by decide +kernel
theorem dc9_66 : decode prog_58_method_5_code 66 = .ok (.lastore, 1) := by decide +kernel
theorem dc9_67 : decode prog_58_method_5_code 67 = .ok (.goto 30, 3) := by decide +kernel
theorem dc9_97 : decode prog_58_method_5_code 97 = .ok (.aload_n 0, 1) := by decide +kernel
theorem dc9_98 : decode prog_58_method_5_code 98 = .ok (.dup, 1) := by decide +kernel
theorem dc9_99 : decode prog_58_method_5_code 99 = .ok (.getfield 27, 3) := by decide +kernel
theorem dc9_102 : decode prog_58_method_5_code 102 = .ok (.iconst 1, 1) := by decide +kernel
theorem dc9_103 : decode prog_58_method_5_code 103 = .ok (.iadd, 1) := by decide +kernel
theorem dc9_104 : decode prog_58_method_5_code 104 = .ok (.putfield 27, 3) := by decide +kernel
theorem dc9_107 : decode prog_58_method_5_code 107 = .ok (.iload_n 2, 1) := by decide +kernel
theorem dc9_108 : decode prog_58_method_5_code 108 = .ok (.ireturn, 1) := by decide +kernel
set_option maxRecDepth 65536 in
set_option maxHeartbeats 40000000 in
theorem rmSB (l : Launch) (Z : State) (a0 : Array Value) (hw : ∀ d ∈ tables_1, d.before a0 Z = true) (ws : List Jvm.Cond) (a1 a2 b1 : Addr) (f1 : Int32 → Int64) (n1 r1 : Int32) (q1 p1 : Int64) (h0 : Heap) (n0 : Nat) (O0 : Old Z n0 h0) (Et : Exa Z h0 a1 "com/example/keyfold/keyfold/KeyTable") (Fs : Fld Z h0 a1 "com/example/keyfold/keyfold/KeyTable" "slots" "[J" (.ref b1)) (Fo : Fld Z h0 a1 "com/example/keyfold/keyfold/KeyTable" "others" "[Lcom/example/keyfold/keyfold/Key;" .null) (Fm : Fld Z h0 a1 "com/example/keyfold/keyfold/KeyTable" "mask" "I" (.int (15 : Int32))) (Fz : Fld Z h0 a1 "com/example/keyfold/keyfold/KeyTable" "size" "I" (.int n1)) (Lb : Lv Z h0 b1 32 f1) (Fq : Fld Z h0 a1 "com/example/keyfold/keyfold/KeyTable" "prefetched" "J" (.long p1)) (Ek : Exa Z h0 a2 "com/example/keyfold/keyfold/Key") (Fp : Fld Z h0 a2 "com/example/keyfold/keyfold/Key" "parts" "[Ljava/lang/Object;" .null) (Fi : Fld Z h0 a2 "com/example/keyfold/keyfold/Key" "integer" "J" (.long q1)) (ne1 : a1 ≠ b1) (ne2 : a2 ≠ b1) (ne3 : a2 ≠ a1) (g1 : n0 ≤ a1) (g2 : n0 ≤ b1) (hF : Fnd f1 q1 r1) (hv : (f1 (((2 : Int32) * r1) + (1 : Int32))) = (0 : Int64)) (hn : ¬ ((12 : Int32) < (n1 + (1 : Int32)))) :
    MetFree l (⟨"com/example/keyfold/keyfold/KeyTable", "slotFor", "(Lcom/example/keyfold/keyfold/Key;)I"⟩ : MethodName) (head1 (Jvm.Cond.code (⟨"com/example/keyfold/keyfold/KeyTable", "slotFor", "(Lcom/example/keyfold/keyfold/Key;)I"⟩ : MethodName) prog_58_method_5_code 3 (some .int) :: ws) ({ frames := 2, cells := 0, slots := 0, locals := 31 } : Room)) (fun a U => a = #[(.ref a1), (.ref a2)] ∧ Z.Warmed39 U.vm ∧ U.heap = h0) (fun _ _ _ _ _ => True) (fun _ U o U' => ∃ v L, o = .returned v ∧ Q_SB Z a1 a2 b1 f1 n1 r1 q1 p1 h0 n0 v U'.heap L ∧ FrameEnd U o U' L ({ frames := 2, cells := 0, slots := 0, locals := 31 } : Room).cells ({ frames := 2, cells := 0, slots := 0, locals := 31 } : Room).slots) := by
  refine MetFree.of_bodySF (plainFor_of_name pn_1) hisR ?_
  intro p e s m args below meth c s₁ Bd hml0 hP hK
  obtain ⟨rfl, hZ, hh⟩ := hP
  have hx := Bd.exec
  have hby := Bd.bytes
  have hml : c.maxLocals = 3 := hml0
  have hown : s.vm.findClass "com/example/keyfold/keyfold/KeyTable" = some m.cls := findClass_of_methodNamed Bd.named
  have hnm := (name_of_methodNamed Bd.named Bd.method).1
  have X0 : Stand p l e ({ frames := 2, cells := 0, slots := 0, locals := 31 } : Room) s m #[(.ref a1), (.ref a2)] below meth c s₁ [] 0 0 := Stand.of_body Bd
  have e0 : s₁.heap = h0 := by rw [← hh, Bd.state]; rfl
  have N0 := Fr.nil n0
  have pre0 : ∀ t, Steps p.tables e below (s₁.setTop (mkF m 0 #[.val (.ref a1), .val (.ref a2), .unset] [])) t → Steps p.tables e below (s₁.setTop (entryFrame m #[(.ref a1), (.ref a2)] 3)) t := fun t k => castTop (ef_7 m a1 a2) k
  obtain ⟨cq101, q101, q101'⟩ := Exa.cell Et
  obtain ⟨_, _, ⟨T101, L101, k101, n101⟩, -, X101, ⟨Lc101, hQ101, l101, y101, z101⟩, st101⟩ := X0.privateBack hx (y := (⟨"com/example/keyfold/keyfold/KeyTable", "find", "(Lcom/example/keyfold/keyfold/Key;)I"⟩ : MethodName)) hown (mvT hZ (hw _ (List.mem_of_getElem? (i := 46) rfl))) (mvT hZ (hw _ (List.mem_of_getElem? (i := 47) rfl))) (mvT hZ (own_sel (y := (⟨"com/example/keyfold/keyfold/KeyTable", "find", "(Lcom/example/keyfold/keyfold/Key;)I"⟩ : MethodName)) (hw _ (List.mem_of_getElem? (i := 17) rfl)) (hw _ (List.mem_of_getElem? (i := 48) rfl)) (hw _ (List.mem_of_getElem? (i := 47) rfl)) (by decide))) (Cond.privateMethod_at (mvP hZ (hw _ (List.mem_of_getElem? (i := 48) rfl)) (args := #[]))) (mvT hZ (hw _ (List.mem_of_getElem? (i := 49) rfl))) (by decide) (backOf (W := 0) (rmF l Z a0 hw [] a1 a2 b1 f1 n1 r1 q1 p1 h0 n0 O0 Et Fs Fo Fm Fz Lb Fq Ek Fp Fi hF) hZ (hw _ (List.mem_of_getElem? (i := 49) rfl)) (hw _ (List.mem_of_getElem? (i := 18) rfl)) (by decide) (by decide)) (g := (mkF m 2 #[.val (.ref a1), .val (.ref a2), .unset] [(.ref a2), (.ref a1)])) rfl (by rw [hml]; rfl) (Steps.refl _) (a := a1) (by rw [e0]; exact q101) q101' (argsL := [(.ref a2)]) (rest := []) (lenOf pd_5 rfl) rfl (by show 2 * 0 + _ ≤ _; exact Nat.le_of_eq rfl) (hb hby dc9_2) (fun _ _ => ⟨rfl, e0, (by decide : 0 + 0 ≤ _), (by decide : 0 + 0 ≤ _)⟩)
  dsimp only [Pt.U, Pt.locs, Pt.cells, Pt.slots] at X101 l101 y101 z101 st101 hQ101
  subst l101 y101 z101
  obtain ⟨rfl, N101q, hh101⟩ := hQ101
  have N101 := Fr.app N0 N101q
  obtain ⟨cq102, q102, q102'⟩ := Exa.cell Et
  obtain ⟨_, _, ⟨T102, L102, k102, n102⟩, -, X102, ⟨Lc102, hQ102, l102, y102, z102⟩, st102⟩ := X101.privateBack hx (y := (⟨"com/example/keyfold/keyfold/KeyTable", "value", "(I)J"⟩ : MethodName)) hown (mvT hZ (hw _ (List.mem_of_getElem? (i := 65) rfl))) (mvT hZ (hw _ (List.mem_of_getElem? (i := 66) rfl))) (mvT hZ (own_sel (y := (⟨"com/example/keyfold/keyfold/KeyTable", "value", "(I)J"⟩ : MethodName)) (hw _ (List.mem_of_getElem? (i := 17) rfl)) (hw _ (List.mem_of_getElem? (i := 67) rfl)) (hw _ (List.mem_of_getElem? (i := 66) rfl)) (by decide))) (Cond.privateMethod_at (mvP hZ (hw _ (List.mem_of_getElem? (i := 67) rfl)) (args := #[]))) (mvT hZ (hw _ (List.mem_of_getElem? (i := 68) rfl))) (by decide) (backOf (W := 0) (rmV l Z a0 hw [] a1 b1 f1 r1 h0 n0 O0 Fs Lb (Fnd.in16 hF)) hZ (hw _ (List.mem_of_getElem? (i := 68) rfl)) (hw _ (List.mem_of_getElem? (i := 18) rfl)) (by decide) (by decide)) (g := (mkF m 8 #[.val (.ref a1), .val (.ref a2), .val (.int r1)] [(.int r1), (.ref a1)])) rfl (by rw [hml]; rfl) (Steps.refl _) (a := a1) (by rw [hh101]; exact q102) q102' (argsL := [(.int r1)]) (rest := []) (lenOf pd_4 rfl) rfl (by show 2 * 0 + _ ≤ _; exact Nat.le_of_eq rfl) (hb hby dc9_8) (fun _ _ => ⟨rfl, hh101, (by decide : 0 + 0 ≤ _), (by decide : 0 + 0 ≤ _)⟩)
  dsimp only [Pt.U, Pt.locs, Pt.cells, Pt.slots] at X102 l102 y102 z102 st102 hQ102
  subst l102 y102 z102
  obtain ⟨rfl, N102q, hh102⟩ := hQ102
  have N102 := Fr.app N101 N102q
  obtain ⟨T103, X103, e103, st103⟩ := getF X102 hx hZ hown (host := "") (Or.inl (hw _ (List.mem_of_getElem? (i := 35) rfl))) Via.refl hh102 Fz (g := (mkF m 19 #[.val (.ref a1), .val (.ref a2), .val (.int r1)] [(.ref a1)])) rfl rfl (hb hby dc9_19)
  obtain ⟨T104, X104, e104, st104⟩ := getF X103 hx hZ hown (host := "") (Or.inl (hw _ (List.mem_of_getElem? (i := 33) rfl))) Via.refl e103 Fm (g := (mkF m 25 #[.val (.ref a1), .val (.ref a2), .val (.int r1)] [(.ref a1), (.int (n1 + (1 : Int32)))])) rfl rfl (hb hby dc9_25)
  obtain ⟨T105, X105, e105, st105⟩ := getF X104 hx hZ hown (host := "") (Or.inl (hw _ (List.mem_of_getElem? (i := 33) rfl))) Via.refl e104 Fm (g := (mkF m 29 #[.val (.ref a1), .val (.ref a2), .val (.int r1)] [(.ref a1), (.int (15 : Int32)), (.int (n1 + (1 : Int32)))])) rfl rfl (hb hby dc9_29)
  obtain ⟨cq106, kq106, q106a, q106b, q106c⟩ := isOf hZ e105 Ek
  obtain ⟨_, _, ⟨T106, L106, k106, n106⟩, -, X106, ⟨Lc106, hQ106, l106, y106, z106⟩, st106⟩ := X105.virtualBack hx (y := (⟨"com/example/keyfold/keyfold/Key", "isInteger", "()Z"⟩ : MethodName)) (z := (⟨"com/example/keyfold/keyfold/Key", "isInteger", "()Z"⟩ : MethodName)) hown (mvT hZ (hw _ (List.mem_of_getElem? (i := 50) rfl))) (mvT hZ (hw _ (List.mem_of_getElem? (i := 51) rfl))) (notFace_of_selects (args := #[]) (mvT hZ (hw _ (List.mem_of_getElem? (i := 53) rfl)))) (mvT hZ (hw _ (List.mem_of_getElem? (i := 53) rfl))) (mvT hZ (hw _ (List.mem_of_getElem? (i := 52) rfl))) (by decide) (backOf (W := 0) (rmIs l Z a0 hw [] a2 h0 n0 O0 Fp) hZ (hw _ (List.mem_of_getElem? (i := 54) rfl)) (hw _ (List.mem_of_getElem? (i := 2) rfl)) (by decide) (by decide)) q106a q106c (g := (mkF m 49 #[.val (.ref a1), .val (.ref a2), .val (.int r1)] [(.ref a2)])) rfl (by rw [hml]; rfl) (Steps.refl _) (argsL := []) (rest := []) (lenOf pd_1 rfl) rfl (by show 2 * 0 + _ ≤ _; exact Nat.le_of_eq rfl) (hb hby dc9_49) (fun _ _ => ⟨rfl, e105, (by decide : 0 + 0 ≤ _), (by decide : 0 + 0 ≤ _)⟩)
  dsimp only [Pt.U, Pt.locs, Pt.cells, Pt.slots] at X106 l106 y106 z106 st106 hQ106
  subst l106 y106 z106
  obtain ⟨rfl, N106q, hh106⟩ := hQ106
  have N106 := Fr.app N102 N106q
  obtain ⟨T107, X107, e107, st107⟩ := getF X106 hx hZ hown (host := "") (Or.inl (hw _ (List.mem_of_getElem? (i := 29) rfl))) Via.refl hh106 Fs (g := (mkF m 56 #[.val (.ref a1), .val (.ref a2), .val (.int r1)] [(.ref a1)])) rfl rfl (hb hby dc9_56)
  obtain ⟨cq108, kq108, q108a, q108b, q108c⟩ := isOf hZ e107 Ek
  obtain ⟨_, _, ⟨T108, L108, k108, n108⟩, -, X108, ⟨Lc108, hQ108, l108, y108, z108⟩, st108⟩ := X107.virtualBack hx (y := (⟨"com/example/keyfold/keyfold/Key", "integer", "()J"⟩ : MethodName)) (z := (⟨"com/example/keyfold/keyfold/Key", "integer", "()J"⟩ : MethodName)) hown (mvT hZ (hw _ (List.mem_of_getElem? (i := 55) rfl))) (mvT hZ (hw _ (List.mem_of_getElem? (i := 56) rfl))) (notFace_of_selects (args := #[]) (mvT hZ (hw _ (List.mem_of_getElem? (i := 58) rfl)))) (mvT hZ (hw _ (List.mem_of_getElem? (i := 58) rfl))) (mvT hZ (hw _ (List.mem_of_getElem? (i := 57) rfl))) (by decide) (backOf (W := 2) (rmIn l Z a0 hw [] a2 q1 h0 n0 O0 Fi) hZ (hw _ (List.mem_of_getElem? (i := 59) rfl)) (hw _ (List.mem_of_getElem? (i := 2) rfl)) (by decide) (by decide)) q108a q108c (g := (mkF m 63 #[.val (.ref a1), .val (.ref a2), .val (.int r1)] [(.ref a2), (.int ((2 : Int32) * r1)), (.ref b1)])) rfl (by rw [hml]; rfl) (Steps.refl _) (argsL := []) (rest := [(.int ((2 : Int32) * r1)), (.ref b1)]) (lenOf pd_2 rfl) rfl (by show 2 * 0 + _ ≤ _; exact Nat.le_of_eq rfl) (hb hby dc9_63) (fun _ _ => ⟨rfl, e107, (by decide : 0 + 0 ≤ _), (by decide : 0 + 0 ≤ _)⟩)
  dsimp only [Pt.U, Pt.locs, Pt.cells, Pt.slots] at X108 l108 y108 z108 st108 hQ108
  subst l108 y108 z108
  obtain ⟨rfl, N108q, hh108⟩ := hQ108
  have N108 := Fr.app N106 N108q
  obtain ⟨cl109, Ar109, S109, H109⟩ := id Lb
  have hin109 : ¬ (((2 : Int32) * r1) < 0 ∨ cl109.slots.size ≤ (((2 : Int32) * r1)).toNatClampNeg) := by rw [S109]; exact (own_b0 (Fnd.in16 hF))
  obtain ⟨T110, h110, X110, e110, W110, st110⟩ := stJ X108 hx hZ hh108 Ar109 (j := ((2 : Int32) * r1)) hin109 (g := (mkF m 66 #[.val (.ref a1), .val (.ref a2), .val (.int r1)] [(.long q1), (.int ((2 : Int32) * r1)), (.ref b1)])) rfl rfl (hb hby dc9_66)
  have H110 : Lv Z h110 b1 32 (upd f1 ((2 : Int32) * r1) q1) := Lv.set Ar109 S109 H109 hin109 W110
  have N110 := Fr.snoc X110 N108 g2
  have f111 := (Fz.other W110 (Or.inl ne1))
  obtain ⟨T112, X112, e112, st112⟩ := getF X110 hx hZ hown (host := "") (Or.inl (hw _ (List.mem_of_getElem? (i := 35) rfl))) Via.refl e110 f111 (g := (mkF m 99 #[.val (.ref a1), .val (.ref a2), .val (.int r1)] [(.ref a1), (.ref a1)])) rfl rfl (hb hby dc9_99)
  have f113 := (Et.wr W110)
  obtain ⟨T114, h114, X114, e114, W114, st114⟩ := putF X112 hx hZ hown (host := "") (Or.inl (hw _ (List.mem_of_getElem? (i := 35) rfl))) Via.refl e112 f111 f113 (Or.inl (hw _ (List.mem_of_getElem? (i := 36) rfl))) (hw _ (List.mem_of_getElem? (i := 17) rfl)) (ty := .int) (by decide) rfl rfl (g := (mkF m 104 #[.val (.ref a1), .val (.ref a2), .val (.int r1)] [(.int (n1 + (1 : Int32))), (.ref a1)])) rfl rfl (hb hby dc9_104)
  have Fw114 : Fld Z h114 a1 "com/example/keyfold/keyfold/KeyTable" "size" "I" (.int (n1 + (1 : Int32))) := Fld.same W114 f111
  have N114 := Fr.snoc X114 N110 g1
  obtain ⟨fs, hr, hrun, hended, hW, hsame⟩ := X114.leave (v := some (.int r1)) (fun h => by rw [Bd.returns] at h; cases h)
  have K115 : Keep h0 h114 [a1, b1] := (Keep.wr (Keep.wr (Keep.refl h0 [a1, b1]) W110 (Or.inl (List.mem_of_getElem? (i := 1) rfl))) W114 (Or.inl (List.mem_of_getElem? (i := 0) rfl)))
  have f116 := (f113.wr W114)
  have f117 := ((Fs.other W110 (Or.inl ne1)).other W114 (Or.inr (slot_ne (Or.inl (hw _ (List.mem_of_getElem? (i := 30) rfl))) (Or.inl (hw _ (List.mem_of_getElem? (i := 36) rfl))) (by decide) (t := (.array .long)) (t' := .int) (by decide) (by decide))))
  have f118 := ((Fo.other W110 (Or.inl ne1)).other W114 (Or.inr (slot_ne (Or.inl (hw _ (List.mem_of_getElem? (i := 32) rfl))) (Or.inl (hw _ (List.mem_of_getElem? (i := 36) rfl))) (by decide) (t := (.array (.object "com/example/keyfold/keyfold/Key"))) (t' := .int) (by decide) (by decide))))
  have f119 := ((Fm.other W110 (Or.inl ne1)).other W114 (Or.inr (slot_ne (Or.inl (hw _ (List.mem_of_getElem? (i := 34) rfl))) (Or.inl (hw _ (List.mem_of_getElem? (i := 36) rfl))) (by decide) (t := .int) (t' := .int) (by decide) (by decide))))
  have f120 := (H110.other W114 (Ne.symm ne1))
  have f121 := ((Fq.other W110 (Or.inl ne1)).other W114 (Or.inr (slot_ne (Or.inl (hw _ (List.mem_of_getElem? (i := 79) rfl))) (Or.inl (hw _ (List.mem_of_getElem? (i := 36) rfl))) (by decide) (t := .long) (t' := .int) (by decide) (by decide))))
  refine ⟨_, _, pre0 _ ?_, hrun, hended, _, _, rfl, ?_, ⟨_, rfl⟩, hW, hsame.mono (by decide) (by decide)⟩
  · skip
    show Steps p.tables e below (s₁.setTop (mkF m 0 #[.val (.ref a1), .val (.ref a2), .unset] [])) _
    refine XS.aloadN X0.here hx rfl (hb hby dc9_0) rfl rfl ?_
    show Steps p.tables e below (s₁.setTop (mkF m 1 #[.val (.ref a1), .val (.ref a2), .unset] [(.ref a1)])) _
    refine XS.aloadN X0.here hx rfl (hb hby dc9_1) rfl rfl ?_
    show Steps p.tables e below (s₁.setTop (mkF m 2 #[.val (.ref a1), .val (.ref a2), .unset] [(.ref a2), (.ref a1)])) _
    refine st101.trans ?_
    show Steps p.tables e below (T101.setTop (mkF m 5 #[.val (.ref a1), .val (.ref a2), .unset] [(.int r1)])) _
    refine XS.istoreN X101.here hx rfl (hb hby dc9_5) rfl (l' := #[.val (.ref a1), .val (.ref a2), .val (.int r1)]) rfl ?_
    show Steps p.tables e below (T101.setTop (mkF m 6 #[.val (.ref a1), .val (.ref a2), .val (.int r1)] [])) _
    refine XS.aloadN X101.here hx rfl (hb hby dc9_6) rfl rfl ?_
    show Steps p.tables e below (T101.setTop (mkF m 7 #[.val (.ref a1), .val (.ref a2), .val (.int r1)] [(.ref a1)])) _
    refine XS.iloadN X101.here hx rfl (hb hby dc9_7) rfl ?_
    show Steps p.tables e below (T101.setTop (mkF m 8 #[.val (.ref a1), .val (.ref a2), .val (.int r1)] [(.int r1), (.ref a1)])) _
    refine st102.trans ?_
    show Steps p.tables e below (T102.setTop (mkF m 11 #[.val (.ref a1), .val (.ref a2), .val (.int r1)] [(.long (f1 (((2 : Int32) * r1) + (1 : Int32))))])) _
    refine XS.lconst X102.here hx rfl (hb hby dc9_11) ?_
    show Steps p.tables e below (T102.setTop (mkF m 12 #[.val (.ref a1), .val (.ref a2), .val (.int r1)] [(.long (0 : Int64)), (.long (f1 (((2 : Int32) * r1) + (1 : Int32))))])) _
    refine XS.lcmp X102.here hx rfl (hb hby dc9_12) rfl ?_
    show Steps p.tables e below (T102.setTop (mkF m 13 #[.val (.ref a1), .val (.ref a2), .val (.int r1)] [(.int (lcmpW (f1 (((2 : Int32) * r1) + (1 : Int32))) (0 : Int64)))])) _
    refine XS.ifYes X102.here hx rfl (pc0 := 13) (pc' := 18) rfl (hb hby dc9_13) rfl ((if0 _ _).trans (teq ((lw_eq _ _).mpr hv)).1) (by decide) (by decide) ?_
    show Steps p.tables e below (T102.setTop (mkF m 18 #[.val (.ref a1), .val (.ref a2), .val (.int r1)] [])) _
    refine XS.aloadN X102.here hx rfl (hb hby dc9_18) rfl rfl ?_
    show Steps p.tables e below (T102.setTop (mkF m 19 #[.val (.ref a1), .val (.ref a2), .val (.int r1)] [(.ref a1)])) _
    refine st103 _ ?_
    show Steps p.tables e below (T103.setTop (mkF m 22 #[.val (.ref a1), .val (.ref a2), .val (.int r1)] [(.int n1)])) _
    refine XS.iconst X103.here hx rfl (hb hby dc9_22) ?_
    show Steps p.tables e below (T103.setTop (mkF m 23 #[.val (.ref a1), .val (.ref a2), .val (.int r1)] [(.int (1 : Int32)), (.int n1)])) _
    refine XS.iadd X103.here hx rfl (hb hby dc9_23) rfl ?_
    show Steps p.tables e below (T103.setTop (mkF m 24 #[.val (.ref a1), .val (.ref a2), .val (.int r1)] [(.int (n1 + (1 : Int32)))])) _
    refine XS.aloadN X103.here hx rfl (hb hby dc9_24) rfl rfl ?_
    show Steps p.tables e below (T103.setTop (mkF m 25 #[.val (.ref a1), .val (.ref a2), .val (.int r1)] [(.ref a1), (.int (n1 + (1 : Int32)))])) _
    refine st104 _ ?_
    show Steps p.tables e below (T104.setTop (mkF m 28 #[.val (.ref a1), .val (.ref a2), .val (.int r1)] [(.int (15 : Int32)), (.int (n1 + (1 : Int32)))])) _
    refine XS.aloadN X104.here hx rfl (hb hby dc9_28) rfl rfl ?_
    show Steps p.tables e below (T104.setTop (mkF m 29 #[.val (.ref a1), .val (.ref a2), .val (.int r1)] [(.ref a1), (.int (15 : Int32)), (.int (n1 + (1 : Int32)))])) _
    refine st105 _ ?_
    show Steps p.tables e below (T105.setTop (mkF m 32 #[.val (.ref a1), .val (.ref a2), .val (.int r1)] [(.int (15 : Int32)), (.int (15 : Int32)), (.int (n1 + (1 : Int32)))])) _
    refine XS.iconst X105.here hx rfl (hb hby dc9_32) ?_
    show Steps p.tables e below (T105.setTop (mkF m 33 #[.val (.ref a1), .val (.ref a2), .val (.int r1)] [(.int (2 : Int32)), (.int (15 : Int32)), (.int (15 : Int32)), (.int (n1 + (1 : Int32)))])) _
    refine XS.iushr X105.here hx rfl (hb hby dc9_33) rfl ?_
    show Steps p.tables e below (T105.setTop (mkF m 34 #[.val (.ref a1), .val (.ref a2), .val (.int r1)] [(.int (3 : Int32)), (.int (15 : Int32)), (.int (n1 + (1 : Int32)))])) _
    refine XS.isub X105.here hx rfl (hb hby dc9_34) rfl ?_
    show Steps p.tables e below (T105.setTop (mkF m 35 #[.val (.ref a1), .val (.ref a2), .val (.int r1)] [(.int (12 : Int32)), (.int (n1 + (1 : Int32)))])) _
    refine XS.icmpYes X105.here hx rfl (pc0 := 35) (pc' := 48) rfl (hb hby dc9_35) rfl (flt hn).2.2.2 (by decide) (by decide) ?_
    show Steps p.tables e below (T105.setTop (mkF m 48 #[.val (.ref a1), .val (.ref a2), .val (.int r1)] [])) _
    refine XS.aloadN X105.here hx rfl (hb hby dc9_48) rfl rfl ?_
    show Steps p.tables e below (T105.setTop (mkF m 49 #[.val (.ref a1), .val (.ref a2), .val (.int r1)] [(.ref a2)])) _
    refine st106.trans ?_
    show Steps p.tables e below (T106.setTop (mkF m 52 #[.val (.ref a1), .val (.ref a2), .val (.int r1)] [(.int (1 : Int32))])) _
    refine XS.ifNo X106.here hx rfl (hb hby dc9_52) rfl (by decide) ?_
    show Steps p.tables e below (T106.setTop (mkF m 55 #[.val (.ref a1), .val (.ref a2), .val (.int r1)] [])) _
    refine XS.aloadN X106.here hx rfl (hb hby dc9_55) rfl rfl ?_
    show Steps p.tables e below (T106.setTop (mkF m 56 #[.val (.ref a1), .val (.ref a2), .val (.int r1)] [(.ref a1)])) _
    refine st107 _ ?_
    show Steps p.tables e below (T107.setTop (mkF m 59 #[.val (.ref a1), .val (.ref a2), .val (.int r1)] [(.ref b1)])) _
    refine XS.iconst X107.here hx rfl (hb hby dc9_59) ?_
    show Steps p.tables e below (T107.setTop (mkF m 60 #[.val (.ref a1), .val (.ref a2), .val (.int r1)] [(.int (2 : Int32)), (.ref b1)])) _
    refine XS.iloadN X107.here hx rfl (hb hby dc9_60) rfl ?_
    show Steps p.tables e below (T107.setTop (mkF m 61 #[.val (.ref a1), .val (.ref a2), .val (.int r1)] [(.int r1), (.int (2 : Int32)), (.ref b1)])) _
    refine XS.imul X107.here hx rfl (hb hby dc9_61) rfl ?_
    show Steps p.tables e below (T107.setTop (mkF m 62 #[.val (.ref a1), .val (.ref a2), .val (.int r1)] [(.int ((2 : Int32) * r1)), (.ref b1)])) _
    refine XS.aloadN X107.here hx rfl (hb hby dc9_62) rfl rfl ?_
    show Steps p.tables e below (T107.setTop (mkF m 63 #[.val (.ref a1), .val (.ref a2), .val (.int r1)] [(.ref a2), (.int ((2 : Int32) * r1)), (.ref b1)])) _
    refine st108.trans ?_
    show Steps p.tables e below (T108.setTop (mkF m 66 #[.val (.ref a1), .val (.ref a2), .val (.int r1)] [(.long q1), (.int ((2 : Int32) * r1)), (.ref b1)])) _
    refine st110 _ ?_
    show Steps p.tables e below (T110.setTop (mkF m 67 #[.val (.ref a1), .val (.ref a2), .val (.int r1)] [])) _
    refine XS.goto X110.here hx rfl (pc0 := 67) (pc' := 97) rfl (hb hby dc9_67) (by decide) (by decide) ?_
    show Steps p.tables e below (T110.setTop (mkF m 97 #[.val (.ref a1), .val (.ref a2), .val (.int r1)] [])) _
    refine XS.aloadN X110.here hx rfl (hb hby dc9_97) rfl rfl ?_
    show Steps p.tables e below (T110.setTop (mkF m 98 #[.val (.ref a1), .val (.ref a2), .val (.int r1)] [(.ref a1)])) _
    refine XS.dup X110.here hx rfl (hb hby dc9_98) rfl rfl ?_
    show Steps p.tables e below (T110.setTop (mkF m 99 #[.val (.ref a1), .val (.ref a2), .val (.int r1)] [(.ref a1), (.ref a1)])) _
    refine st112 _ ?_
    show Steps p.tables e below (T112.setTop (mkF m 102 #[.val (.ref a1), .val (.ref a2), .val (.int r1)] [(.int n1), (.ref a1)])) _
    refine XS.iconst X112.here hx rfl (hb hby dc9_102) ?_
    show Steps p.tables e below (T112.setTop (mkF m 103 #[.val (.ref a1), .val (.ref a2), .val (.int r1)] [(.int (1 : Int32)), (.int n1), (.ref a1)])) _
    refine XS.iadd X112.here hx rfl (hb hby dc9_103) rfl ?_
    show Steps p.tables e below (T112.setTop (mkF m 104 #[.val (.ref a1), .val (.ref a2), .val (.int r1)] [(.int (n1 + (1 : Int32))), (.ref a1)])) _
    refine st114 _ ?_
    show Steps p.tables e below (T114.setTop (mkF m 107 #[.val (.ref a1), .val (.ref a2), .val (.int r1)] [])) _
    refine XS.iloadN X114.here hx rfl (hb hby dc9_107) rfl ?_
    show Steps p.tables e below (T114.setTop (mkF m 108 #[.val (.ref a1), .val (.ref a2), .val (.int r1)] [(.int r1)])) _
    exact retI X114 hx Bd.returns (hb hby dc9_108) hr
  · show Q_SB Z a1 a2 b1 f1 n1 r1 q1 p1 h0 n0 _ T114.heap _
    rw [e114]
    exact ⟨rfl, N114, K115, f116, f117, f118, f119, Fw114, f120, f121⟩
def Q_PA (Z : State) (a1 a2 b1 : Addr) (f1 : Int32 → Int64) (n1 r1 : Int32) (q1 p1 : Int64) (x1 : Int64) (h0 : Heap) (n0 : Nat) (v : Option Value) (h : Heap) (L : List Loc) : Prop := v = some (.long (f1 (((2 : Int32) * r1) + (1 : Int32)))) ∧ Fr n0 L ∧ Keep h0 h [a1, b1] ∧ Exa Z h a1 "com/example/keyfold/keyfold/KeyTable" ∧ Fld Z h a1 "com/example/keyfold/keyfold/KeyTable" "slots" "[J" (.ref b1) ∧ Fld Z h a1 "com/example/keyfold/keyfold/KeyTable" "others" "[Lcom/example/keyfold/keyfold/Key;" .null ∧ Fld Z h a1 "com/example/keyfold/keyfold/KeyTable" "mask" "I" (.int (15 : Int32)) ∧ Fld Z h a1 "com/example/keyfold/keyfold/KeyTable" "size" "I" (.int n1) ∧ Lv Z h b1 32 (upd f1 (((2 : Int32) * r1) + (1 : Int32)) x1) ∧ Fld Z h a1 "com/example/keyfold/keyfold/KeyTable" "prefetched" "J" (.long p1)
def Q_PB (Z : State) (a1 a2 b1 : Addr) (f1 : Int32 → Int64) (n1 r1 : Int32) (q1 p1 : Int64) (x1 : Int64) (h0 : Heap) (n0 : Nat) (v : Option Value) (h : Heap) (L : List Loc) : Prop := v = some (.long ((upd f1 ((2 : Int32) * r1) q1) (((2 : Int32) * r1) + (1 : Int32)))) ∧ Fr n0 L ∧ Keep h0 h [a1, b1] ∧ Exa Z h a1 "com/example/keyfold/keyfold/KeyTable" ∧ Fld Z h a1 "com/example/keyfold/keyfold/KeyTable" "slots" "[J" (.ref b1) ∧ Fld Z h a1 "com/example/keyfold/keyfold/KeyTable" "others" "[Lcom/example/keyfold/keyfold/Key;" .null ∧ Fld Z h a1 "com/example/keyfold/keyfold/KeyTable" "mask" "I" (.int (15 : Int32)) ∧ Fld Z h a1 "com/example/keyfold/keyfold/KeyTable" "size" "I" (.int (n1 + (1 : Int32))) ∧ Lv Z h b1 32 (upd (upd f1 ((2 : Int32) * r1) q1) (((2 : Int32) * r1) + (1 : Int32)) x1) ∧ Fld Z h a1 "com/example/keyfold/keyfold/KeyTable" "prefetched" "J" (.long p1)
theorem ef_8 (m : MethodId) (x0 : Addr) (x1 : Addr) (x2 : Int64) : entryFrame m #[(.ref x0), (.ref x1), (.long x2)] 7 = mkF m 0 #[.val (.ref x0), .val (.ref x1), .val (.long x2), .second, .unset, .unset, .unset] [] := by first | (simp [entryFrame, mkF, argsToLocals, Value.category]; done) | rfl
theorem dc10_0 : decode prog_58_method_3_code 0 = .ok (.aload_n 0, 1) := by decide +kernel
theorem dc10_1 : decode prog_58_method_3_code 1 = .ok (.aload_n 1, 1) := by decide +kernel
theorem dc10_2 : decode prog_58_method_3_code 2 = .ok (.invokevirtual 20, 3) := by decide +kernel
theorem dc10_5 : decode prog_58_method_3_code 5 = .ok (.istore 4, 2) := by decide +kernel
theorem dc10_7 : decode prog_58_method_3_code 7 = .ok (.aload_n 0, 1) := by decide +kernel
theorem dc10_8 : decode prog_58_method_3_code 8 = .ok (.iload 4, 2) := by decide +kernel
theorem dc10_10 : decode prog_58_method_3_code 10 = .ok (.invokevirtual 16, 3) := by decide +kernel
theorem dc10_13 : decode prog_58_method_3_code 13 = .ok (.lstore 5, 2) := by decide +kernel
theorem dc10_15 : decode prog_58_method_3_code 15 = .ok (.aload_n 0, 1) := by decide +kernel
theorem dc10_16 : decode prog_58_method_3_code 16 = .ok (.getfield 23, 3) := by decide +kernel
theorem dc10_19 : decode prog_58_method_3_code 19 = .ok (.iconst 2, 1) := by decide +kernel
theorem dc10_20 : decode prog_58_method_3_code 20 = .ok (.iload 4, 2) := by decide +kernel
theorem dc10_22 : decode prog_58_method_3_code 22 = .ok (.imul, 1) := by decide +kernel
theorem dc10_23 : decode prog_58_method_3_code 23 = .ok (.iconst 1, 1) := by decide +kernel
theorem dc10_24 : decode prog_58_method_3_code 24 = .ok (.iadd, 1) := by decide +kernel
theorem dc10_25 : decode prog_58_method_3_code 25 = .ok (.lload_n 2, 1) := by decide +kernel
theorem dc10_26 : decode prog_58_method_3_code 26 = .ok (.lastore, 1) := by decide +kernel
theorem dc10_27 : decode prog_58_method_3_code 27 = .ok (.lload 5, 2) := by decide +kernel
theorem dc10_29 : decode prog_58_method_3_code 29 = .ok (.lreturn, 1) := by decide +kernel
set_option maxRecDepth 65536 in
set_option maxHeartbeats 40000000 in
theorem rmPA (l : Launch) (Z : State) (a0 : Array Value) (hw : ∀ d ∈ tables_1, d.before a0 Z = true) (ws : List Jvm.Cond) (a1 a2 b1 : Addr) (f1 : Int32 → Int64) (n1 r1 : Int32) (q1 p1 : Int64) (x1 : Int64) (h0 : Heap) (n0 : Nat) (O0 : Old Z n0 h0) (Et : Exa Z h0 a1 "com/example/keyfold/keyfold/KeyTable") (Fs : Fld Z h0 a1 "com/example/keyfold/keyfold/KeyTable" "slots" "[J" (.ref b1)) (Fo : Fld Z h0 a1 "com/example/keyfold/keyfold/KeyTable" "others" "[Lcom/example/keyfold/keyfold/Key;" .null) (Fm : Fld Z h0 a1 "com/example/keyfold/keyfold/KeyTable" "mask" "I" (.int (15 : Int32))) (Fz : Fld Z h0 a1 "com/example/keyfold/keyfold/KeyTable" "size" "I" (.int n1)) (Lb : Lv Z h0 b1 32 f1) (Fq : Fld Z h0 a1 "com/example/keyfold/keyfold/KeyTable" "prefetched" "J" (.long p1)) (Ek : Exa Z h0 a2 "com/example/keyfold/keyfold/Key") (Fp : Fld Z h0 a2 "com/example/keyfold/keyfold/Key" "parts" "[Ljava/lang/Object;" .null) (Fi : Fld Z h0 a2 "com/example/keyfold/keyfold/Key" "integer" "J" (.long q1)) (ne1 : a1 ≠ b1) (ne2 : a2 ≠ b1) (ne3 : a2 ≠ a1) (g1 : n0 ≤ a1) (g2 : n0 ≤ b1) (hF : Fnd f1 q1 r1) (hv : ¬ ((f1 (((2 : Int32) * r1) + (1 : Int32))) = (0 : Int64))) :
    MetFree l (⟨"com/example/keyfold/keyfold/KeyTable", "put", "(Lcom/example/keyfold/keyfold/Key;J)J"⟩ : MethodName) (head1 (Jvm.Cond.code (⟨"com/example/keyfold/keyfold/KeyTable", "put", "(Lcom/example/keyfold/keyfold/Key;J)J"⟩ : MethodName) prog_58_method_3_code 7 (some .long) :: ws) ({ frames := 3, cells := 0, slots := 0, locals := 45 } : Room)) (fun a U => a = #[(.ref a1), (.ref a2), (.long x1)] ∧ Z.Warmed39 U.vm ∧ U.heap = h0) (fun _ _ _ _ _ => True) (fun _ U o U' => ∃ v L, o = .returned v ∧ Q_PA Z a1 a2 b1 f1 n1 r1 q1 p1 x1 h0 n0 v U'.heap L ∧ FrameEnd U o U' L ({ frames := 3, cells := 0, slots := 0, locals := 45 } : Room).cells ({ frames := 3, cells := 0, slots := 0, locals := 45 } : Room).slots) := by
  refine MetFree.of_bodySF (plainFor_of_name pn_1) hisR ?_
  intro p e s m args below meth c s₁ Bd hml0 hP hK
  obtain ⟨rfl, hZ, hh⟩ := hP
  have hx := Bd.exec
  have hby := Bd.bytes
  have hml : c.maxLocals = 7 := hml0
  have hown : s.vm.findClass "com/example/keyfold/keyfold/KeyTable" = some m.cls := findClass_of_methodNamed Bd.named
  have hnm := (name_of_methodNamed Bd.named Bd.method).1
  have X0 : Stand p l e ({ frames := 3, cells := 0, slots := 0, locals := 45 } : Room) s m #[(.ref a1), (.ref a2), (.long x1)] below meth c s₁ [] 0 0 := Stand.of_body Bd
  have e0 : s₁.heap = h0 := by rw [← hh, Bd.state]; rfl
  have N0 := Fr.nil n0
  have pre0 : ∀ t, Steps p.tables e below (s₁.setTop (mkF m 0 #[.val (.ref a1), .val (.ref a2), .val (.long x1), .second, .unset, .unset, .unset] [])) t → Steps p.tables e below (s₁.setTop (entryFrame m #[(.ref a1), (.ref a2), (.long x1)] 7)) t := fun t k => castTop (ef_8 m a1 a2 x1) k
  obtain ⟨cq101, q101, q101'⟩ := Exa.cell Et
  obtain ⟨_, _, ⟨T101, L101, k101, n101⟩, -, X101, ⟨Lc101, hQ101, l101, y101, z101⟩, st101⟩ := X0.privateBack hx (y := (⟨"com/example/keyfold/keyfold/KeyTable", "slotFor", "(Lcom/example/keyfold/keyfold/Key;)I"⟩ : MethodName)) hown (mvT hZ (hw _ (List.mem_of_getElem? (i := 42) rfl))) (mvT hZ (hw _ (List.mem_of_getElem? (i := 43) rfl))) (mvT hZ (own_sel (y := (⟨"com/example/keyfold/keyfold/KeyTable", "slotFor", "(Lcom/example/keyfold/keyfold/Key;)I"⟩ : MethodName)) (hw _ (List.mem_of_getElem? (i := 17) rfl)) (hw _ (List.mem_of_getElem? (i := 44) rfl)) (hw _ (List.mem_of_getElem? (i := 43) rfl)) (by decide))) (Cond.privateMethod_at (mvP hZ (hw _ (List.mem_of_getElem? (i := 44) rfl)) (args := #[]))) (mvT hZ (hw _ (List.mem_of_getElem? (i := 45) rfl))) (by decide) (backOf (W := 0) (rmSA l Z a0 hw [] a1 a2 b1 f1 n1 r1 q1 p1 h0 n0 O0 Et Fs Fo Fm Fz Lb Fq Ek Fp Fi hF hv) hZ (hw _ (List.mem_of_getElem? (i := 45) rfl)) (hw _ (List.mem_of_getElem? (i := 18) rfl)) (by decide) (by decide)) (g := (mkF m 2 #[.val (.ref a1), .val (.ref a2), .val (.long x1), .second, .unset, .unset, .unset] [(.ref a2), (.ref a1)])) rfl (by rw [hml]; rfl) (Steps.refl _) (a := a1) (by rw [e0]; exact q101) q101' (argsL := [(.ref a2)]) (rest := []) (lenOf pd_5 rfl) rfl (by show 2 * 0 + _ ≤ _; exact Nat.le_of_eq rfl) (hb hby dc10_2) (fun _ _ => ⟨rfl, e0, (by decide : 0 + 0 ≤ _), (by decide : 0 + 0 ≤ _)⟩)
  dsimp only [Pt.U, Pt.locs, Pt.cells, Pt.slots] at X101 l101 y101 z101 st101 hQ101
  subst l101 y101 z101
  obtain ⟨rfl, N101q, hh101⟩ := hQ101
  have N101 := Fr.app N0 N101q
  obtain ⟨cq102, q102, q102'⟩ := Exa.cell Et
  obtain ⟨_, _, ⟨T102, L102, k102, n102⟩, -, X102, ⟨Lc102, hQ102, l102, y102, z102⟩, st102⟩ := X101.privateBack hx (y := (⟨"com/example/keyfold/keyfold/KeyTable", "value", "(I)J"⟩ : MethodName)) hown (mvT hZ (hw _ (List.mem_of_getElem? (i := 65) rfl))) (mvT hZ (hw _ (List.mem_of_getElem? (i := 66) rfl))) (mvT hZ (own_sel (y := (⟨"com/example/keyfold/keyfold/KeyTable", "value", "(I)J"⟩ : MethodName)) (hw _ (List.mem_of_getElem? (i := 17) rfl)) (hw _ (List.mem_of_getElem? (i := 67) rfl)) (hw _ (List.mem_of_getElem? (i := 66) rfl)) (by decide))) (Cond.privateMethod_at (mvP hZ (hw _ (List.mem_of_getElem? (i := 67) rfl)) (args := #[]))) (mvT hZ (hw _ (List.mem_of_getElem? (i := 68) rfl))) (by decide) (backOf (W := 0) (rmV l Z a0 hw [] a1 b1 f1 r1 h0 n0 O0 Fs Lb (Fnd.in16 hF)) hZ (hw _ (List.mem_of_getElem? (i := 68) rfl)) (hw _ (List.mem_of_getElem? (i := 18) rfl)) (by decide) (by decide)) (g := (mkF m 10 #[.val (.ref a1), .val (.ref a2), .val (.long x1), .second, .val (.int r1), .unset, .unset] [(.int r1), (.ref a1)])) rfl (by rw [hml]; rfl) (Steps.refl _) (a := a1) (by rw [hh101]; exact q102) q102' (argsL := [(.int r1)]) (rest := []) (lenOf pd_4 rfl) rfl (by show 2 * 0 + _ ≤ _; exact Nat.le_of_eq rfl) (hb hby dc10_10) (fun _ _ => ⟨rfl, hh101, (by decide : 0 + 0 ≤ _), (by decide : 0 + 0 ≤ _)⟩)
  dsimp only [Pt.U, Pt.locs, Pt.cells, Pt.slots] at X102 l102 y102 z102 st102 hQ102
  subst l102 y102 z102
  obtain ⟨rfl, N102q, hh102⟩ := hQ102
  have N102 := Fr.app N101 N102q
  obtain ⟨T103, X103, e103, st103⟩ := getF X102 hx hZ hown (host := "") (Or.inl (hw _ (List.mem_of_getElem? (i := 29) rfl))) Via.refl hh102 Fs (g := (mkF m 16 #[.val (.ref a1), .val (.ref a2), .val (.long x1), .second, .val (.int r1), .val (.long (f1 (((2 : Int32) * r1) + (1 : Int32)))), .second] [(.ref a1)])) rfl rfl (hb hby dc10_16)
  obtain ⟨cl104, Ar104, S104, H104⟩ := id Lb
  have hin104 : ¬ ((((2 : Int32) * r1) + (1 : Int32)) < 0 ∨ cl104.slots.size ≤ ((((2 : Int32) * r1) + (1 : Int32))).toNatClampNeg) := by rw [S104]; exact (own_b1 (Fnd.in16 hF))
  obtain ⟨T105, h105, X105, e105, W105, st105⟩ := stJ X103 hx hZ e103 Ar104 (j := (((2 : Int32) * r1) + (1 : Int32))) hin104 (g := (mkF m 26 #[.val (.ref a1), .val (.ref a2), .val (.long x1), .second, .val (.int r1), .val (.long (f1 (((2 : Int32) * r1) + (1 : Int32)))), .second] [(.long x1), (.int (((2 : Int32) * r1) + (1 : Int32))), (.ref b1)])) rfl rfl (hb hby dc10_26)
  have H105 : Lv Z h105 b1 32 (upd f1 (((2 : Int32) * r1) + (1 : Int32)) x1) := Lv.set Ar104 S104 H104 hin104 W105
  have N105 := Fr.snoc X105 N102 g2
  obtain ⟨fs, hr, hrun, hended, hW, hsame⟩ := X105.leave (v := some (.long (f1 (((2 : Int32) * r1) + (1 : Int32))))) (fun h => by rw [Bd.returns] at h; cases h)
  have K106 : Keep h0 h105 [a1, b1] := (Keep.wr (Keep.refl h0 [a1, b1]) W105 (Or.inl (List.mem_of_getElem? (i := 1) rfl)))
  have f107 := (Et.wr W105)
  have f108 := (Fs.other W105 (Or.inl ne1))
  have f109 := (Fo.other W105 (Or.inl ne1))
  have f110 := (Fm.other W105 (Or.inl ne1))
  have f111 := (Fz.other W105 (Or.inl ne1))
  have f112 := (Fq.other W105 (Or.inl ne1))
  refine ⟨_, _, pre0 _ ?_, hrun, hended, _, _, rfl, ?_, ⟨_, rfl⟩, hW, hsame.mono (by decide) (by decide)⟩
  · skip
    show Steps p.tables e below (s₁.setTop (mkF m 0 #[.val (.ref a1), .val (.ref a2), .val (.long x1), .second, .unset, .unset, .unset] [])) _
    refine XS.aloadN X0.here hx rfl (hb hby dc10_0) rfl rfl ?_
    show Steps p.tables e below (s₁.setTop (mkF m 1 #[.val (.ref a1), .val (.ref a2), .val (.long x1), .second, .unset, .unset, .unset] [(.ref a1)])) _
    refine XS.aloadN X0.here hx rfl (hb hby dc10_1) rfl rfl ?_
    show Steps p.tables e below (s₁.setTop (mkF m 2 #[.val (.ref a1), .val (.ref a2), .val (.long x1), .second, .unset, .unset, .unset] [(.ref a2), (.ref a1)])) _
    refine st101.trans ?_
    show Steps p.tables e below (T101.setTop (mkF m 5 #[.val (.ref a1), .val (.ref a2), .val (.long x1), .second, .unset, .unset, .unset] [(.int r1)])) _
    refine XS.istore X101.here hx rfl (hb hby dc10_5) rfl (l' := #[.val (.ref a1), .val (.ref a2), .val (.long x1), .second, .val (.int r1), .unset, .unset]) rfl ?_
    show Steps p.tables e below (T101.setTop (mkF m 7 #[.val (.ref a1), .val (.ref a2), .val (.long x1), .second, .val (.int r1), .unset, .unset] [])) _
    refine XS.aloadN X101.here hx rfl (hb hby dc10_7) rfl rfl ?_
    show Steps p.tables e below (T101.setTop (mkF m 8 #[.val (.ref a1), .val (.ref a2), .val (.long x1), .second, .val (.int r1), .unset, .unset] [(.ref a1)])) _
    refine XS.iload X101.here hx rfl (hb hby dc10_8) rfl ?_
    show Steps p.tables e below (T101.setTop (mkF m 10 #[.val (.ref a1), .val (.ref a2), .val (.long x1), .second, .val (.int r1), .unset, .unset] [(.int r1), (.ref a1)])) _
    refine st102.trans ?_
    show Steps p.tables e below (T102.setTop (mkF m 13 #[.val (.ref a1), .val (.ref a2), .val (.long x1), .second, .val (.int r1), .unset, .unset] [(.long (f1 (((2 : Int32) * r1) + (1 : Int32))))])) _
    refine XS.lstore X102.here hx rfl (hb hby dc10_13) rfl (l' := #[.val (.ref a1), .val (.ref a2), .val (.long x1), .second, .val (.int r1), .val (.long (f1 (((2 : Int32) * r1) + (1 : Int32)))), .second]) rfl ?_
    show Steps p.tables e below (T102.setTop (mkF m 15 #[.val (.ref a1), .val (.ref a2), .val (.long x1), .second, .val (.int r1), .val (.long (f1 (((2 : Int32) * r1) + (1 : Int32)))), .second] [])) _
    refine XS.aloadN X102.here hx rfl (hb hby dc10_15) rfl rfl ?_
    show Steps p.tables e below (T102.setTop (mkF m 16 #[.val (.ref a1), .val (.ref a2), .val (.long x1), .second, .val (.int r1), .val (.long (f1 (((2 : Int32) * r1) + (1 : Int32)))), .second] [(.ref a1)])) _
    refine st103 _ ?_
    show Steps p.tables e below (T103.setTop (mkF m 19 #[.val (.ref a1), .val (.ref a2), .val (.long x1), .second, .val (.int r1), .val (.long (f1 (((2 : Int32) * r1) + (1 : Int32)))), .second] [(.ref b1)])) _
    refine XS.iconst X103.here hx rfl (hb hby dc10_19) ?_
    show Steps p.tables e below (T103.setTop (mkF m 20 #[.val (.ref a1), .val (.ref a2), .val (.long x1), .second, .val (.int r1), .val (.long (f1 (((2 : Int32) * r1) + (1 : Int32)))), .second] [(.int (2 : Int32)), (.ref b1)])) _
    refine XS.iload X103.here hx rfl (hb hby dc10_20) rfl ?_
    show Steps p.tables e below (T103.setTop (mkF m 22 #[.val (.ref a1), .val (.ref a2), .val (.long x1), .second, .val (.int r1), .val (.long (f1 (((2 : Int32) * r1) + (1 : Int32)))), .second] [(.int r1), (.int (2 : Int32)), (.ref b1)])) _
    refine XS.imul X103.here hx rfl (hb hby dc10_22) rfl ?_
    show Steps p.tables e below (T103.setTop (mkF m 23 #[.val (.ref a1), .val (.ref a2), .val (.long x1), .second, .val (.int r1), .val (.long (f1 (((2 : Int32) * r1) + (1 : Int32)))), .second] [(.int ((2 : Int32) * r1)), (.ref b1)])) _
    refine XS.iconst X103.here hx rfl (hb hby dc10_23) ?_
    show Steps p.tables e below (T103.setTop (mkF m 24 #[.val (.ref a1), .val (.ref a2), .val (.long x1), .second, .val (.int r1), .val (.long (f1 (((2 : Int32) * r1) + (1 : Int32)))), .second] [(.int (1 : Int32)), (.int ((2 : Int32) * r1)), (.ref b1)])) _
    refine XS.iadd X103.here hx rfl (hb hby dc10_24) rfl ?_
    show Steps p.tables e below (T103.setTop (mkF m 25 #[.val (.ref a1), .val (.ref a2), .val (.long x1), .second, .val (.int r1), .val (.long (f1 (((2 : Int32) * r1) + (1 : Int32)))), .second] [(.int (((2 : Int32) * r1) + (1 : Int32))), (.ref b1)])) _
    refine XS.lloadN X103.here hx rfl (hb hby dc10_25) rfl ?_
    show Steps p.tables e below (T103.setTop (mkF m 26 #[.val (.ref a1), .val (.ref a2), .val (.long x1), .second, .val (.int r1), .val (.long (f1 (((2 : Int32) * r1) + (1 : Int32)))), .second] [(.long x1), (.int (((2 : Int32) * r1) + (1 : Int32))), (.ref b1)])) _
    refine st105 _ ?_
    show Steps p.tables e below (T105.setTop (mkF m 27 #[.val (.ref a1), .val (.ref a2), .val (.long x1), .second, .val (.int r1), .val (.long (f1 (((2 : Int32) * r1) + (1 : Int32)))), .second] [])) _
    refine XS.lload X105.here hx rfl (hb hby dc10_27) rfl ?_
    show Steps p.tables e below (T105.setTop (mkF m 29 #[.val (.ref a1), .val (.ref a2), .val (.long x1), .second, .val (.int r1), .val (.long (f1 (((2 : Int32) * r1) + (1 : Int32)))), .second] [(.long (f1 (((2 : Int32) * r1) + (1 : Int32))))])) _
    exact retOut X105 hx (t := .long) Bd.returns rfl (Or.inr (Or.inl ⟨rfl, rfl, _, rfl⟩)) (hb hby dc10_29) hr
  · show Q_PA Z a1 a2 b1 f1 n1 r1 q1 p1 x1 h0 n0 _ T105.heap _
    rw [e105]
    exact ⟨rfl, N105, K106, f107, f108, f109, f110, f111, H105, f112⟩
set_option maxRecDepth 65536 in
set_option maxHeartbeats 40000000 in
theorem rmPB (l : Launch) (Z : State) (a0 : Array Value) (hw : ∀ d ∈ tables_1, d.before a0 Z = true) (ws : List Jvm.Cond) (a1 a2 b1 : Addr) (f1 : Int32 → Int64) (n1 r1 : Int32) (q1 p1 : Int64) (x1 : Int64) (h0 : Heap) (n0 : Nat) (O0 : Old Z n0 h0) (Et : Exa Z h0 a1 "com/example/keyfold/keyfold/KeyTable") (Fs : Fld Z h0 a1 "com/example/keyfold/keyfold/KeyTable" "slots" "[J" (.ref b1)) (Fo : Fld Z h0 a1 "com/example/keyfold/keyfold/KeyTable" "others" "[Lcom/example/keyfold/keyfold/Key;" .null) (Fm : Fld Z h0 a1 "com/example/keyfold/keyfold/KeyTable" "mask" "I" (.int (15 : Int32))) (Fz : Fld Z h0 a1 "com/example/keyfold/keyfold/KeyTable" "size" "I" (.int n1)) (Lb : Lv Z h0 b1 32 f1) (Fq : Fld Z h0 a1 "com/example/keyfold/keyfold/KeyTable" "prefetched" "J" (.long p1)) (Ek : Exa Z h0 a2 "com/example/keyfold/keyfold/Key") (Fp : Fld Z h0 a2 "com/example/keyfold/keyfold/Key" "parts" "[Ljava/lang/Object;" .null) (Fi : Fld Z h0 a2 "com/example/keyfold/keyfold/Key" "integer" "J" (.long q1)) (ne1 : a1 ≠ b1) (ne2 : a2 ≠ b1) (ne3 : a2 ≠ a1) (g1 : n0 ≤ a1) (g2 : n0 ≤ b1) (hF : Fnd f1 q1 r1) (hv : (f1 (((2 : Int32) * r1) + (1 : Int32))) = (0 : Int64)) (hn : ¬ ((12 : Int32) < (n1 + (1 : Int32)))) :
    MetFree l (⟨"com/example/keyfold/keyfold/KeyTable", "put", "(Lcom/example/keyfold/keyfold/Key;J)J"⟩ : MethodName) (head1 (Jvm.Cond.code (⟨"com/example/keyfold/keyfold/KeyTable", "put", "(Lcom/example/keyfold/keyfold/Key;J)J"⟩ : MethodName) prog_58_method_3_code 7 (some .long) :: ws) ({ frames := 3, cells := 0, slots := 0, locals := 45 } : Room)) (fun a U => a = #[(.ref a1), (.ref a2), (.long x1)] ∧ Z.Warmed39 U.vm ∧ U.heap = h0) (fun _ _ _ _ _ => True) (fun _ U o U' => ∃ v L, o = .returned v ∧ Q_PB Z a1 a2 b1 f1 n1 r1 q1 p1 x1 h0 n0 v U'.heap L ∧ FrameEnd U o U' L ({ frames := 3, cells := 0, slots := 0, locals := 45 } : Room).cells ({ frames := 3, cells := 0, slots := 0, locals := 45 } : Room).slots) := by
  refine MetFree.of_bodySF (plainFor_of_name pn_1) hisR ?_
  intro p e s m args below meth c s₁ Bd hml0 hP hK
  obtain ⟨rfl, hZ, hh⟩ := hP
  have hx := Bd.exec
  have hby := Bd.bytes
  have hml : c.maxLocals = 7 := hml0
  have hown : s.vm.findClass "com/example/keyfold/keyfold/KeyTable" = some m.cls := findClass_of_methodNamed Bd.named
  have hnm := (name_of_methodNamed Bd.named Bd.method).1
  have X0 : Stand p l e ({ frames := 3, cells := 0, slots := 0, locals := 45 } : Room) s m #[(.ref a1), (.ref a2), (.long x1)] below meth c s₁ [] 0 0 := Stand.of_body Bd
  have e0 : s₁.heap = h0 := by rw [← hh, Bd.state]; rfl
  have N0 := Fr.nil n0
  have pre0 : ∀ t, Steps p.tables e below (s₁.setTop (mkF m 0 #[.val (.ref a1), .val (.ref a2), .val (.long x1), .second, .unset, .unset, .unset] [])) t → Steps p.tables e below (s₁.setTop (entryFrame m #[(.ref a1), (.ref a2), (.long x1)] 7)) t := fun t k => castTop (ef_8 m a1 a2 x1) k
  obtain ⟨cq101, q101, q101'⟩ := Exa.cell Et
  obtain ⟨_, _, ⟨T101, L101, k101, n101⟩, -, X101, ⟨Lc101, hQ101, l101, y101, z101⟩, st101⟩ := X0.privateBack hx (y := (⟨"com/example/keyfold/keyfold/KeyTable", "slotFor", "(Lcom/example/keyfold/keyfold/Key;)I"⟩ : MethodName)) hown (mvT hZ (hw _ (List.mem_of_getElem? (i := 42) rfl))) (mvT hZ (hw _ (List.mem_of_getElem? (i := 43) rfl))) (mvT hZ (own_sel (y := (⟨"com/example/keyfold/keyfold/KeyTable", "slotFor", "(Lcom/example/keyfold/keyfold/Key;)I"⟩ : MethodName)) (hw _ (List.mem_of_getElem? (i := 17) rfl)) (hw _ (List.mem_of_getElem? (i := 44) rfl)) (hw _ (List.mem_of_getElem? (i := 43) rfl)) (by decide))) (Cond.privateMethod_at (mvP hZ (hw _ (List.mem_of_getElem? (i := 44) rfl)) (args := #[]))) (mvT hZ (hw _ (List.mem_of_getElem? (i := 45) rfl))) (by decide) (backOf (W := 0) (rmSB l Z a0 hw [] a1 a2 b1 f1 n1 r1 q1 p1 h0 n0 O0 Et Fs Fo Fm Fz Lb Fq Ek Fp Fi ne1 ne2 ne3 g1 g2 hF hv hn) hZ (hw _ (List.mem_of_getElem? (i := 45) rfl)) (hw _ (List.mem_of_getElem? (i := 18) rfl)) (by decide) (by decide)) (g := (mkF m 2 #[.val (.ref a1), .val (.ref a2), .val (.long x1), .second, .unset, .unset, .unset] [(.ref a2), (.ref a1)])) rfl (by rw [hml]; rfl) (Steps.refl _) (a := a1) (by rw [e0]; exact q101) q101' (argsL := [(.ref a2)]) (rest := []) (lenOf pd_5 rfl) rfl (by show 2 * 0 + _ ≤ _; exact Nat.le_of_eq rfl) (hb hby dc10_2) (fun _ _ => ⟨rfl, e0, (by decide : 0 + 0 ≤ _), (by decide : 0 + 0 ≤ _)⟩)
  dsimp only [Pt.U, Pt.locs, Pt.cells, Pt.slots] at X101 l101 y101 z101 st101 hQ101
  subst l101 y101 z101
  obtain ⟨rfl, N101q, K101, Ex101, Fs101, Fo101, Fm101, Fz101, Lb101, Fq101⟩ := hQ101
  have N101 := Fr.app N0 N101q
  have O102 : Old Z n0 T101.heap := (O0.keep K101 (allS g1 (allS g2 all0)))
  obtain ⟨cq103, q103, q103'⟩ := Exa.cell Ex101
  obtain ⟨_, _, ⟨T103, L103, k103, n103⟩, -, X103, ⟨Lc103, hQ103, l103, y103, z103⟩, st103⟩ := X101.privateBack hx (y := (⟨"com/example/keyfold/keyfold/KeyTable", "value", "(I)J"⟩ : MethodName)) hown (mvT hZ (hw _ (List.mem_of_getElem? (i := 65) rfl))) (mvT hZ (hw _ (List.mem_of_getElem? (i := 66) rfl))) (mvT hZ (own_sel (y := (⟨"com/example/keyfold/keyfold/KeyTable", "value", "(I)J"⟩ : MethodName)) (hw _ (List.mem_of_getElem? (i := 17) rfl)) (hw _ (List.mem_of_getElem? (i := 67) rfl)) (hw _ (List.mem_of_getElem? (i := 66) rfl)) (by decide))) (Cond.privateMethod_at (mvP hZ (hw _ (List.mem_of_getElem? (i := 67) rfl)) (args := #[]))) (mvT hZ (hw _ (List.mem_of_getElem? (i := 68) rfl))) (by decide) (backOf (W := 0) (rmV l Z a0 hw [] a1 b1 (upd f1 ((2 : Int32) * r1) q1) r1 T101.heap n0 O102 Fs101 Lb101 (Fnd.in16 hF)) hZ (hw _ (List.mem_of_getElem? (i := 68) rfl)) (hw _ (List.mem_of_getElem? (i := 18) rfl)) (by decide) (by decide)) (g := (mkF m 10 #[.val (.ref a1), .val (.ref a2), .val (.long x1), .second, .val (.int r1), .unset, .unset] [(.int r1), (.ref a1)])) rfl (by rw [hml]; rfl) (Steps.refl _) (a := a1) q103 q103' (argsL := [(.int r1)]) (rest := []) (lenOf pd_4 rfl) rfl (by show 2 * 0 + _ ≤ _; exact Nat.le_of_eq rfl) (hb hby dc10_10) (fun _ _ => ⟨rfl, rfl, (by decide : 0 + 0 ≤ _), (by decide : 0 + 0 ≤ _)⟩)
  dsimp only [Pt.U, Pt.locs, Pt.cells, Pt.slots] at X103 l103 y103 z103 st103 hQ103
  subst l103 y103 z103
  obtain ⟨rfl, N103q, hh103⟩ := hQ103
  have N103 := Fr.app N101 N103q
  obtain ⟨T104, X104, e104, st104⟩ := getF X103 hx hZ hown (host := "") (Or.inl (hw _ (List.mem_of_getElem? (i := 29) rfl))) Via.refl hh103 Fs101 (g := (mkF m 16 #[.val (.ref a1), .val (.ref a2), .val (.long x1), .second, .val (.int r1), .val (.long ((upd f1 ((2 : Int32) * r1) q1) (((2 : Int32) * r1) + (1 : Int32)))), .second] [(.ref a1)])) rfl rfl (hb hby dc10_16)
  obtain ⟨cl105, Ar105, S105, H105⟩ := id Lb101
  have hin105 : ¬ ((((2 : Int32) * r1) + (1 : Int32)) < 0 ∨ cl105.slots.size ≤ ((((2 : Int32) * r1) + (1 : Int32))).toNatClampNeg) := by rw [S105]; exact (own_b1 (Fnd.in16 hF))
  obtain ⟨T106, h106, X106, e106, W106, st106⟩ := stJ X104 hx hZ e104 Ar105 (j := (((2 : Int32) * r1) + (1 : Int32))) hin105 (g := (mkF m 26 #[.val (.ref a1), .val (.ref a2), .val (.long x1), .second, .val (.int r1), .val (.long ((upd f1 ((2 : Int32) * r1) q1) (((2 : Int32) * r1) + (1 : Int32)))), .second] [(.long x1), (.int (((2 : Int32) * r1) + (1 : Int32))), (.ref b1)])) rfl rfl (hb hby dc10_26)
  have H106 : Lv Z h106 b1 32 (upd (upd f1 ((2 : Int32) * r1) q1) (((2 : Int32) * r1) + (1 : Int32)) x1) := Lv.set Ar105 S105 H105 hin105 W106
  have N106 := Fr.snoc X106 N103 g2
  obtain ⟨fs, hr, hrun, hended, hW, hsame⟩ := X106.leave (v := some (.long ((upd f1 ((2 : Int32) * r1) q1) (((2 : Int32) * r1) + (1 : Int32))))) (fun h => by rw [Bd.returns] at h; cases h)
  have K107 : Keep h0 h106 [a1, b1] := (Keep.wr (Keep.trans (Keep.refl h0 [a1, b1]) K101 (allS (P := fun x => x ∈ [a1, b1] ∨ h0.size ≤ x) (Or.inl (List.mem_of_getElem? (i := 0) rfl)) (allS (P := fun x => x ∈ [a1, b1] ∨ h0.size ≤ x) (Or.inl (List.mem_of_getElem? (i := 1) rfl)) all0))) W106 (Or.inl (List.mem_of_getElem? (i := 1) rfl)))
  have f108 := (Ex101.wr W106)
  have f109 := (Fs101.other W106 (Or.inl ne1))
  have f110 := (Fo101.other W106 (Or.inl ne1))
  have f111 := (Fm101.other W106 (Or.inl ne1))
  have f112 := (Fz101.other W106 (Or.inl ne1))
  have f113 := (Fq101.other W106 (Or.inl ne1))
  refine ⟨_, _, pre0 _ ?_, hrun, hended, _, _, rfl, ?_, ⟨_, rfl⟩, hW, hsame.mono (by decide) (by decide)⟩
  · skip
    show Steps p.tables e below (s₁.setTop (mkF m 0 #[.val (.ref a1), .val (.ref a2), .val (.long x1), .second, .unset, .unset, .unset] [])) _
    refine XS.aloadN X0.here hx rfl (hb hby dc10_0) rfl rfl ?_
    show Steps p.tables e below (s₁.setTop (mkF m 1 #[.val (.ref a1), .val (.ref a2), .val (.long x1), .second, .unset, .unset, .unset] [(.ref a1)])) _
    refine XS.aloadN X0.here hx rfl (hb hby dc10_1) rfl rfl ?_
    show Steps p.tables e below (s₁.setTop (mkF m 2 #[.val (.ref a1), .val (.ref a2), .val (.long x1), .second, .unset, .unset, .unset] [(.ref a2), (.ref a1)])) _
    refine st101.trans ?_
    show Steps p.tables e below (T101.setTop (mkF m 5 #[.val (.ref a1), .val (.ref a2), .val (.long x1), .second, .unset, .unset, .unset] [(.int r1)])) _
    refine XS.istore X101.here hx rfl (hb hby dc10_5) rfl (l' := #[.val (.ref a1), .val (.ref a2), .val (.long x1), .second, .val (.int r1), .unset, .unset]) rfl ?_
    show Steps p.tables e below (T101.setTop (mkF m 7 #[.val (.ref a1), .val (.ref a2), .val (.long x1), .second, .val (.int r1), .unset, .unset] [])) _
    refine XS.aloadN X101.here hx rfl (hb hby dc10_7) rfl rfl ?_
    show Steps p.tables e below (T101.setTop (mkF m 8 #[.val (.ref a1), .val (.ref a2), .val (.long x1), .second, .val (.int r1), .unset, .unset] [(.ref a1)])) _
    refine XS.iload X101.here hx rfl (hb hby dc10_8) rfl ?_
    show Steps p.tables e below (T101.setTop (mkF m 10 #[.val (.ref a1), .val (.ref a2), .val (.long x1), .second, .val (.int r1), .unset, .unset] [(.int r1), (.ref a1)])) _
    refine st103.trans ?_
    show Steps p.tables e below (T103.setTop (mkF m 13 #[.val (.ref a1), .val (.ref a2), .val (.long x1), .second, .val (.int r1), .unset, .unset] [(.long ((upd f1 ((2 : Int32) * r1) q1) (((2 : Int32) * r1) + (1 : Int32))))])) _
    refine XS.lstore X103.here hx rfl (hb hby dc10_13) rfl (l' := #[.val (.ref a1), .val (.ref a2), .val (.long x1), .second, .val (.int r1), .val (.long ((upd f1 ((2 : Int32) * r1) q1) (((2 : Int32) * r1) + (1 : Int32)))), .second]) rfl ?_
    show Steps p.tables e below (T103.setTop (mkF m 15 #[.val (.ref a1), .val (.ref a2), .val (.long x1), .second, .val (.int r1), .val (.long ((upd f1 ((2 : Int32) * r1) q1) (((2 : Int32) * r1) + (1 : Int32)))), .second] [])) _
    refine XS.aloadN X103.here hx rfl (hb hby dc10_15) rfl rfl ?_
    show Steps p.tables e below (T103.setTop (mkF m 16 #[.val (.ref a1), .val (.ref a2), .val (.long x1), .second, .val (.int r1), .val (.long ((upd f1 ((2 : Int32) * r1) q1) (((2 : Int32) * r1) + (1 : Int32)))), .second] [(.ref a1)])) _
    refine st104 _ ?_
    show Steps p.tables e below (T104.setTop (mkF m 19 #[.val (.ref a1), .val (.ref a2), .val (.long x1), .second, .val (.int r1), .val (.long ((upd f1 ((2 : Int32) * r1) q1) (((2 : Int32) * r1) + (1 : Int32)))), .second] [(.ref b1)])) _
    refine XS.iconst X104.here hx rfl (hb hby dc10_19) ?_
    show Steps p.tables e below (T104.setTop (mkF m 20 #[.val (.ref a1), .val (.ref a2), .val (.long x1), .second, .val (.int r1), .val (.long ((upd f1 ((2 : Int32) * r1) q1) (((2 : Int32) * r1) + (1 : Int32)))), .second] [(.int (2 : Int32)), (.ref b1)])) _
    refine XS.iload X104.here hx rfl (hb hby dc10_20) rfl ?_
    show Steps p.tables e below (T104.setTop (mkF m 22 #[.val (.ref a1), .val (.ref a2), .val (.long x1), .second, .val (.int r1), .val (.long ((upd f1 ((2 : Int32) * r1) q1) (((2 : Int32) * r1) + (1 : Int32)))), .second] [(.int r1), (.int (2 : Int32)), (.ref b1)])) _
    refine XS.imul X104.here hx rfl (hb hby dc10_22) rfl ?_
    show Steps p.tables e below (T104.setTop (mkF m 23 #[.val (.ref a1), .val (.ref a2), .val (.long x1), .second, .val (.int r1), .val (.long ((upd f1 ((2 : Int32) * r1) q1) (((2 : Int32) * r1) + (1 : Int32)))), .second] [(.int ((2 : Int32) * r1)), (.ref b1)])) _
    refine XS.iconst X104.here hx rfl (hb hby dc10_23) ?_
    show Steps p.tables e below (T104.setTop (mkF m 24 #[.val (.ref a1), .val (.ref a2), .val (.long x1), .second, .val (.int r1), .val (.long ((upd f1 ((2 : Int32) * r1) q1) (((2 : Int32) * r1) + (1 : Int32)))), .second] [(.int (1 : Int32)), (.int ((2 : Int32) * r1)), (.ref b1)])) _
    refine XS.iadd X104.here hx rfl (hb hby dc10_24) rfl ?_
    show Steps p.tables e below (T104.setTop (mkF m 25 #[.val (.ref a1), .val (.ref a2), .val (.long x1), .second, .val (.int r1), .val (.long ((upd f1 ((2 : Int32) * r1) q1) (((2 : Int32) * r1) + (1 : Int32)))), .second] [(.int (((2 : Int32) * r1) + (1 : Int32))), (.ref b1)])) _
    refine XS.lloadN X104.here hx rfl (hb hby dc10_25) rfl ?_
    show Steps p.tables e below (T104.setTop (mkF m 26 #[.val (.ref a1), .val (.ref a2), .val (.long x1), .second, .val (.int r1), .val (.long ((upd f1 ((2 : Int32) * r1) q1) (((2 : Int32) * r1) + (1 : Int32)))), .second] [(.long x1), (.int (((2 : Int32) * r1) + (1 : Int32))), (.ref b1)])) _
    refine st106 _ ?_
    show Steps p.tables e below (T106.setTop (mkF m 27 #[.val (.ref a1), .val (.ref a2), .val (.long x1), .second, .val (.int r1), .val (.long ((upd f1 ((2 : Int32) * r1) q1) (((2 : Int32) * r1) + (1 : Int32)))), .second] [])) _
    refine XS.lload X106.here hx rfl (hb hby dc10_27) rfl ?_
    show Steps p.tables e below (T106.setTop (mkF m 29 #[.val (.ref a1), .val (.ref a2), .val (.long x1), .second, .val (.int r1), .val (.long ((upd f1 ((2 : Int32) * r1) q1) (((2 : Int32) * r1) + (1 : Int32)))), .second] [(.long ((upd f1 ((2 : Int32) * r1) q1) (((2 : Int32) * r1) + (1 : Int32))))])) _
    exact retOut X106 hx (t := .long) Bd.returns rfl (Or.inr (Or.inl ⟨rfl, rfl, _, rfl⟩)) (hb hby dc10_29) hr
  · show Q_PB Z a1 a2 b1 f1 n1 r1 q1 p1 x1 h0 n0 _ T106.heap _
    rw [e106]
    exact ⟨rfl, N106, K107, f108, f109, f110, f111, f112, H106, f113⟩
theorem Lv.zero {Z : State} {h : Heap} {b : Addr} {kc : ClassId} {vs : List Value} (hvs : vs = List.replicate 32 (.long (0 : Int64))) (F : Arv Z h b kc .long (32 : Int32) vs (.long (0 : Int64))) : Lv Z h b 32 (fun _ => 0) := by
  obtain ⟨c, A, -, S, -, H, -⟩ := F
  refine ⟨c, A, S, fun j hj => ?_⟩
  have q := H j.toNatClampNeg (Nat.lt_of_not_le fun y => hj (Or.inr y))
  rw [q, hvs, List.getD_eq_getElem?_getD, List.getElem?_replicate]; split <;> rfl
def Q_clr (Z : State) (a1 : Addr) (h0 : Heap) (n0 : Nat) (v : Option Value) (h : Heap) (L : List Loc) : Prop := v = none ∧ Fr n0 L ∧ Keep h0 h [a1] ∧ Exa Z h a1 "com/example/keyfold/keyfold/KeyTable" ∧ (∃ b1 : Addr, n0 ≤ b1 ∧ h0.size ≤ b1 ∧ a1 ≠ b1 ∧ Fld Z h a1 "com/example/keyfold/keyfold/KeyTable" "slots" "[J" (.ref b1) ∧ Lv Z h b1 32 (fun _ => 0)) ∧ Fld Z h a1 "com/example/keyfold/keyfold/KeyTable" "others" "[Lcom/example/keyfold/keyfold/Key;" .null ∧ Fld Z h a1 "com/example/keyfold/keyfold/KeyTable" "mask" "I" (.int (15 : Int32)) ∧ Fld Z h a1 "com/example/keyfold/keyfold/KeyTable" "size" "I" (.int (0 : Int32)) ∧ Fld Z h a1 "com/example/keyfold/keyfold/KeyTable" "prefetched" "J" (.long (0 : Int64))
theorem dc11_0 : decode prog_58_method_8_code 0 = .ok (.aload_n 0, 1) := by decide +kernel
theorem dc11_1 : decode prog_58_method_8_code 1 = .ok (.bipush 32, 2) := by decide +kernel
theorem dc11_3 : decode prog_58_method_8_code 3 = .ok (.newarray .long, 2) := by decide +kernel
theorem dc11_5 : decode prog_58_method_8_code 5 = .ok (.putfield 23, 3) := by decide +kernel
theorem dc11_8 : decode prog_58_method_8_code 8 = .ok (.aload_n 0, 1) := by decide +kernel
theorem dc11_9 : decode prog_58_method_8_code 9 = .ok (.aconst_null, 1) := by decide +kernel
theorem dc11_10 : decode prog_58_method_8_code 10 = .ok (.putfield 47, 3) := by decide +kernel
theorem dc11_13 : decode prog_58_method_8_code 13 = .ok (.aload_n 0, 1) := by decide +kernel
theorem dc11_14 : decode prog_58_method_8_code 14 = .ok (.bipush 15, 2) := by decide +kernel
theorem dc11_16 : decode prog_58_method_8_code 16 = .ok (.putfield 31, 3) := by decide +kernel
theorem dc11_19 : decode prog_58_method_8_code 19 = .ok (.aload_n 0, 1) := by decide +kernel
theorem dc11_20 : decode prog_58_method_8_code 20 = .ok (.iconst 0, 1) := by decide +kernel
theorem dc11_21 : decode prog_58_method_8_code 21 = .ok (.putfield 27, 3) := by decide +kernel
theorem dc11_24 : decode prog_58_method_8_code 24 = .ok (.return_, 1) := by decide +kernel
set_option maxRecDepth 65536 in
set_option maxHeartbeats 40000000 in
theorem rmCl (l : Launch) (Z : State) (a0 : Array Value) (hw : ∀ d ∈ tables_1, d.before a0 Z = true) (ws : List Jvm.Cond) (a1 : Addr) (h0 : Heap) (n0 : Nat) (O0 : Old Z n0 h0) (Et : Exa Z h0 a1 "com/example/keyfold/keyfold/KeyTable") (F_slots : Fld Z h0 a1 "com/example/keyfold/keyfold/KeyTable" "slots" "[J" .null) (F_others : Fld Z h0 a1 "com/example/keyfold/keyfold/KeyTable" "others" "[Lcom/example/keyfold/keyfold/Key;" .null) (F_mask : Fld Z h0 a1 "com/example/keyfold/keyfold/KeyTable" "mask" "I" (.int (0 : Int32))) (F_size : Fld Z h0 a1 "com/example/keyfold/keyfold/KeyTable" "size" "I" (.int (0 : Int32))) (F_prefetched : Fld Z h0 a1 "com/example/keyfold/keyfold/KeyTable" "prefetched" "J" (.long (0 : Int64))) (g1 : n0 ≤ a1) :
    MetFree l (⟨"com/example/keyfold/keyfold/KeyTable", "clear", "()V"⟩ : MethodName) (head1 (Jvm.Cond.code (⟨"com/example/keyfold/keyfold/KeyTable", "clear", "()V"⟩ : MethodName) prog_58_method_8_code 1 none :: ws) ({ frames := 0, cells := 1, slots := 32, locals := 0 } : Room)) (fun a U => a = #[(.ref a1)] ∧ Z.Warmed39 U.vm ∧ U.heap = h0) (fun _ _ _ _ _ => True) (fun _ U o U' => ∃ v L, o = .returned v ∧ Q_clr Z a1 h0 n0 v U'.heap L ∧ FrameEnd U o U' L ({ frames := 0, cells := 1, slots := 32, locals := 0 } : Room).cells ({ frames := 0, cells := 1, slots := 32, locals := 0 } : Room).slots) := by
  refine MetFree.of_bodySF (plainFor_of_name pn_1) hisR ?_
  intro p e s m args below meth c s₁ Bd hml0 hP hK
  obtain ⟨rfl, hZ, hh⟩ := hP
  have hx := Bd.exec
  have hby := Bd.bytes
  have hml : c.maxLocals = 1 := hml0
  have hown : s.vm.findClass "com/example/keyfold/keyfold/KeyTable" = some m.cls := findClass_of_methodNamed Bd.named
  have hnm := (name_of_methodNamed Bd.named Bd.method).1
  have X0 : Stand p l e ({ frames := 0, cells := 1, slots := 32, locals := 0 } : Room) s m #[(.ref a1)] below meth c s₁ [] 0 0 := Stand.of_body Bd
  have e0 : s₁.heap = h0 := by rw [← hh, Bd.state]; rfl
  have N0 := Fr.nil n0
  have pre0 : ∀ t, Steps p.tables e below (s₁.setTop (mkF m 0 #[.val (.ref a1)] [])) t → Steps p.tables e below (s₁.setTop (entryFrame m #[(.ref a1)] 1)) t := fun t k => castTop (ef_2 m a1) k
  obtain ⟨T101, h101, k101, X101, e101, E101, A101, st101⟩ := newP X0 hx hZ (hw _ (List.mem_of_getElem? (i := 28) rfl)) e0 (g := (mkF m 3 #[.val (.ref a1)] [(.int (32 : Int32)), (.ref a1)])) rfl (hb hby dc11_3) rfl (by decide) (cap := 32) (by decide) (by decide) (by decide) (by decide)
  obtain ⟨b101, g101⟩ : ∃ z, z = h0.size := ⟨_, rfl⟩
  rw [← g101] at A101 st101
  have gb101 : n0 ≤ b101 := by rw [g101, ← O0.1]; exact O0.2.1
  have ne101_a1 : a1 ≠ b101 := by rw [g101]; exact Nat.ne_of_lt (Et).lt
  have sz101 : h0.size ≤ b101 := by rw [g101]; exact ((Keep.refl h0 [a1])).1
  have V101 : Arv Z h101 b101 k101 .long (32 : Int32) [(.long (0 : Int64)), (.long (0 : Int64)), (.long (0 : Int64)), (.long (0 : Int64)), (.long (0 : Int64)), (.long (0 : Int64)), (.long (0 : Int64)), (.long (0 : Int64)), (.long (0 : Int64)), (.long (0 : Int64)), (.long (0 : Int64)), (.long (0 : Int64)), (.long (0 : Int64)), (.long (0 : Int64)), (.long (0 : Int64)), (.long (0 : Int64)), (.long (0 : Int64)), (.long (0 : Int64)), (.long (0 : Int64)), (.long (0 : Int64)), (.long (0 : Int64)), (.long (0 : Int64)), (.long (0 : Int64)), (.long (0 : Int64)), (.long (0 : Int64)), (.long (0 : Int64)), (.long (0 : Int64)), (.long (0 : Int64)), (.long (0 : Int64)), (.long (0 : Int64)), (.long (0 : Int64)), (.long (0 : Int64))] (.long (0 : Int64)) := (Arv.new A101 (by decide)).pad (pad_rep [] (.long (0 : Int64)) 32)
  have f102 := (Et.ext E101)
  have f103 := (F_slots.ext E101)
  obtain ⟨T104, h104, X104, e104, W104, st104⟩ := putF X101 hx hZ hown (host := "") (Or.inl (hw _ (List.mem_of_getElem? (i := 29) rfl))) Via.refl e101 f103 f102 (Or.inl (hw _ (List.mem_of_getElem? (i := 30) rfl))) (hw _ (List.mem_of_getElem? (i := 17) rfl)) (ty := (.array .long)) (by decide) rfl rfl (g := (mkF m 5 #[.val (.ref a1)] [(.ref b101), (.ref a1)])) rfl rfl (hb hby dc11_5)
  have Fw104 : Fld Z h104 a1 "com/example/keyfold/keyfold/KeyTable" "slots" "[J" (.ref b101) := Fld.same W104 f103
  have N104 := Fr.snoc X104 N0 g1
  have f105 := (f102.wr W104)
  have f106 := ((F_others.ext E101).other W104 (Or.inr (slot_ne (Or.inl (hw _ (List.mem_of_getElem? (i := 32) rfl))) (Or.inl (hw _ (List.mem_of_getElem? (i := 30) rfl))) (by decide) (t := (.array (.object "com/example/keyfold/keyfold/Key"))) (t' := (.array .long)) (by decide) (by decide))))
  obtain ⟨T107, h107, X107, e107, W107, st107⟩ := putF X104 hx hZ hown (host := "") (Or.inl (hw _ (List.mem_of_getElem? (i := 31) rfl))) Via.refl e104 f106 f105 (Or.inl (hw _ (List.mem_of_getElem? (i := 32) rfl))) (hw _ (List.mem_of_getElem? (i := 17) rfl)) (ty := (.array (.object "com/example/keyfold/keyfold/Key"))) (by decide) rfl rfl (g := (mkF m 10 #[.val (.ref a1)] [.null, (.ref a1)])) rfl rfl (hb hby dc11_10)
  have Fw107 : Fld Z h107 a1 "com/example/keyfold/keyfold/KeyTable" "others" "[Lcom/example/keyfold/keyfold/Key;" .null := Fld.same W107 f106
  have N107 := Fr.snoc X107 N104 g1
  have f108 := (f105.wr W107)
  have f109 := (((F_mask.ext E101).other W104 (Or.inr (slot_ne (Or.inl (hw _ (List.mem_of_getElem? (i := 34) rfl))) (Or.inl (hw _ (List.mem_of_getElem? (i := 30) rfl))) (by decide) (t := .int) (t' := (.array .long)) (by decide) (by decide)))).other W107 (Or.inr (slot_ne (Or.inl (hw _ (List.mem_of_getElem? (i := 34) rfl))) (Or.inl (hw _ (List.mem_of_getElem? (i := 32) rfl))) (by decide) (t := .int) (t' := (.array (.object "com/example/keyfold/keyfold/Key"))) (by decide) (by decide))))
  obtain ⟨T110, h110, X110, e110, W110, st110⟩ := putF X107 hx hZ hown (host := "") (Or.inl (hw _ (List.mem_of_getElem? (i := 33) rfl))) Via.refl e107 f109 f108 (Or.inl (hw _ (List.mem_of_getElem? (i := 34) rfl))) (hw _ (List.mem_of_getElem? (i := 17) rfl)) (ty := .int) (by decide) rfl rfl (g := (mkF m 16 #[.val (.ref a1)] [(.int (15 : Int32)), (.ref a1)])) rfl rfl (hb hby dc11_16)
  have Fw110 : Fld Z h110 a1 "com/example/keyfold/keyfold/KeyTable" "mask" "I" (.int (15 : Int32)) := Fld.same W110 f109
  have N110 := Fr.snoc X110 N107 g1
  have f111 := (f108.wr W110)
  have f112 := ((((F_size.ext E101).other W104 (Or.inr (slot_ne (Or.inl (hw _ (List.mem_of_getElem? (i := 36) rfl))) (Or.inl (hw _ (List.mem_of_getElem? (i := 30) rfl))) (by decide) (t := .int) (t' := (.array .long)) (by decide) (by decide)))).other W107 (Or.inr (slot_ne (Or.inl (hw _ (List.mem_of_getElem? (i := 36) rfl))) (Or.inl (hw _ (List.mem_of_getElem? (i := 32) rfl))) (by decide) (t := .int) (t' := (.array (.object "com/example/keyfold/keyfold/Key"))) (by decide) (by decide)))).other W110 (Or.inr (slot_ne (Or.inl (hw _ (List.mem_of_getElem? (i := 36) rfl))) (Or.inl (hw _ (List.mem_of_getElem? (i := 34) rfl))) (by decide) (t := .int) (t' := .int) (by decide) (by decide))))
  obtain ⟨T113, h113, X113, e113, W113, st113⟩ := putF X110 hx hZ hown (host := "") (Or.inl (hw _ (List.mem_of_getElem? (i := 35) rfl))) Via.refl e110 f112 f111 (Or.inl (hw _ (List.mem_of_getElem? (i := 36) rfl))) (hw _ (List.mem_of_getElem? (i := 17) rfl)) (ty := .int) (by decide) rfl rfl (g := (mkF m 21 #[.val (.ref a1)] [(.int (0 : Int32)), (.ref a1)])) rfl rfl (hb hby dc11_21)
  have Fw113 : Fld Z h113 a1 "com/example/keyfold/keyfold/KeyTable" "size" "I" (.int (0 : Int32)) := Fld.same W113 f112
  have N113 := Fr.snoc X113 N110 g1
  obtain ⟨fs, hr, hrun, hended, hW, hsame⟩ := X113.leave (v := none) (fun _ => rfl)
  have K114 : Keep h0 h113 [a1] := (Keep.wr (Keep.wr (Keep.wr (Keep.wr (Keep.ext (Keep.refl h0 [a1]) E101) W104 (Or.inl (List.mem_of_getElem? (i := 0) rfl))) W107 (Or.inl (List.mem_of_getElem? (i := 0) rfl))) W110 (Or.inl (List.mem_of_getElem? (i := 0) rfl))) W113 (Or.inl (List.mem_of_getElem? (i := 0) rfl)))
  have f115 := (f111.wr W113)
  have f116 := (((Fw104.other W107 (Or.inr (slot_ne (Or.inl (hw _ (List.mem_of_getElem? (i := 30) rfl))) (Or.inl (hw _ (List.mem_of_getElem? (i := 32) rfl))) (by decide) (t := (.array .long)) (t' := (.array (.object "com/example/keyfold/keyfold/Key"))) (by decide) (by decide)))).other W110 (Or.inr (slot_ne (Or.inl (hw _ (List.mem_of_getElem? (i := 30) rfl))) (Or.inl (hw _ (List.mem_of_getElem? (i := 34) rfl))) (by decide) (t := (.array .long)) (t' := .int) (by decide) (by decide)))).other W113 (Or.inr (slot_ne (Or.inl (hw _ (List.mem_of_getElem? (i := 30) rfl))) (Or.inl (hw _ (List.mem_of_getElem? (i := 36) rfl))) (by decide) (t := (.array .long)) (t' := .int) (by decide) (by decide))))
  have f117 := ((((V101.other W104 (Ne.symm ne101_a1)).other W107 (Ne.symm ne101_a1)).other W110 (Ne.symm ne101_a1)).other W113 (Ne.symm ne101_a1))
  have f118 := ((Fw107.other W110 (Or.inr (slot_ne (Or.inl (hw _ (List.mem_of_getElem? (i := 32) rfl))) (Or.inl (hw _ (List.mem_of_getElem? (i := 34) rfl))) (by decide) (t := (.array (.object "com/example/keyfold/keyfold/Key"))) (t' := .int) (by decide) (by decide)))).other W113 (Or.inr (slot_ne (Or.inl (hw _ (List.mem_of_getElem? (i := 32) rfl))) (Or.inl (hw _ (List.mem_of_getElem? (i := 36) rfl))) (by decide) (t := (.array (.object "com/example/keyfold/keyfold/Key"))) (t' := .int) (by decide) (by decide))))
  have f119 := (Fw110.other W113 (Or.inr (slot_ne (Or.inl (hw _ (List.mem_of_getElem? (i := 34) rfl))) (Or.inl (hw _ (List.mem_of_getElem? (i := 36) rfl))) (by decide) (t := .int) (t' := .int) (by decide) (by decide))))
  have f120 := (((((F_prefetched.ext E101).other W104 (Or.inr (slot_ne (Or.inl (hw _ (List.mem_of_getElem? (i := 79) rfl))) (Or.inl (hw _ (List.mem_of_getElem? (i := 30) rfl))) (by decide) (t := .long) (t' := (.array .long)) (by decide) (by decide)))).other W107 (Or.inr (slot_ne (Or.inl (hw _ (List.mem_of_getElem? (i := 79) rfl))) (Or.inl (hw _ (List.mem_of_getElem? (i := 32) rfl))) (by decide) (t := .long) (t' := (.array (.object "com/example/keyfold/keyfold/Key"))) (by decide) (by decide)))).other W110 (Or.inr (slot_ne (Or.inl (hw _ (List.mem_of_getElem? (i := 79) rfl))) (Or.inl (hw _ (List.mem_of_getElem? (i := 34) rfl))) (by decide) (t := .long) (t' := .int) (by decide) (by decide)))).other W113 (Or.inr (slot_ne (Or.inl (hw _ (List.mem_of_getElem? (i := 79) rfl))) (Or.inl (hw _ (List.mem_of_getElem? (i := 36) rfl))) (by decide) (t := .long) (t' := .int) (by decide) (by decide))))
  refine ⟨_, _, pre0 _ ?_, hrun, hended, _, _, rfl, ?_, ⟨_, rfl⟩, hW, hsame.mono (by decide) (by decide)⟩
  · skip
    show Steps p.tables e below (s₁.setTop (mkF m 0 #[.val (.ref a1)] [])) _
    refine XS.aloadN X0.here hx rfl (hb hby dc11_0) rfl rfl ?_
    show Steps p.tables e below (s₁.setTop (mkF m 1 #[.val (.ref a1)] [(.ref a1)])) _
    refine XS.bipush X0.here hx rfl (hb hby dc11_1) ?_
    show Steps p.tables e below (s₁.setTop (mkF m 3 #[.val (.ref a1)] [(.int (32 : Int32)), (.ref a1)])) _
    refine st101 _ ?_
    show Steps p.tables e below (T101.setTop (mkF m 5 #[.val (.ref a1)] [(.ref b101), (.ref a1)])) _
    refine st104 _ ?_
    show Steps p.tables e below (T104.setTop (mkF m 8 #[.val (.ref a1)] [])) _
    refine XS.aloadN X104.here hx rfl (hb hby dc11_8) rfl rfl ?_
    show Steps p.tables e below (T104.setTop (mkF m 9 #[.val (.ref a1)] [(.ref a1)])) _
    refine XS.aconstNull X104.here hx rfl (hb hby dc11_9) ?_
    show Steps p.tables e below (T104.setTop (mkF m 10 #[.val (.ref a1)] [.null, (.ref a1)])) _
    refine st107 _ ?_
    show Steps p.tables e below (T107.setTop (mkF m 13 #[.val (.ref a1)] [])) _
    refine XS.aloadN X107.here hx rfl (hb hby dc11_13) rfl rfl ?_
    show Steps p.tables e below (T107.setTop (mkF m 14 #[.val (.ref a1)] [(.ref a1)])) _
    refine XS.bipush X107.here hx rfl (hb hby dc11_14) ?_
    show Steps p.tables e below (T107.setTop (mkF m 16 #[.val (.ref a1)] [(.int (15 : Int32)), (.ref a1)])) _
    refine st110 _ ?_
    show Steps p.tables e below (T110.setTop (mkF m 19 #[.val (.ref a1)] [])) _
    refine XS.aloadN X110.here hx rfl (hb hby dc11_19) rfl rfl ?_
    show Steps p.tables e below (T110.setTop (mkF m 20 #[.val (.ref a1)] [(.ref a1)])) _
    refine XS.iconst X110.here hx rfl (hb hby dc11_20) ?_
    show Steps p.tables e below (T110.setTop (mkF m 21 #[.val (.ref a1)] [(.int (0 : Int32)), (.ref a1)])) _
    refine st113 _ ?_
    show Steps p.tables e below (T113.setTop (mkF m 24 #[.val (.ref a1)] [])) _
    exact X113.returnOut hx Bd.returns (hb hby dc11_24) hr
  · show Q_clr Z a1 h0 n0 _ T113.heap _
    rw [e113]
    exact ⟨rfl, N113, K114, f115, ⟨b101, gb101, sz101, ne101_a1, f116, (Lv.zero rfl f117)⟩, f118, f119, Fw113, f120⟩
theorem dc12_0 : decode prog_58_method_1_code 0 = .ok (.aload_n 0, 1) := by decide +kernel
theorem dc12_1 : decode prog_58_method_1_code 1 = .ok (.invokespecial 1, 3) := by decide +kernel
theorem dc12_4 : decode prog_58_method_1_code 4 = .ok (.aload_n 0, 1) := by decide +kernel
theorem dc12_5 : decode prog_58_method_1_code 5 = .ok (.invokevirtual 7, 3) := by decide +kernel
theorem pd_6 : parseMethodDescriptor "()V" = some ⟨[], none⟩ := by decide +kernel
theorem dc12_8 : decode prog_58_method_1_code 8 = .ok (.return_, 1) := by decide +kernel
set_option maxRecDepth 65536 in
set_option maxHeartbeats 40000000 in
theorem rmTi (l : Launch) (Z : State) (a0 : Array Value) (hw : ∀ d ∈ tables_1, d.before a0 Z = true) (ws : List Jvm.Cond) (a1 : Addr) (h0 : Heap) (n0 : Nat) (O0 : Old Z n0 h0) (Et : Exa Z h0 a1 "com/example/keyfold/keyfold/KeyTable") (F_slots : Fld Z h0 a1 "com/example/keyfold/keyfold/KeyTable" "slots" "[J" .null) (F_others : Fld Z h0 a1 "com/example/keyfold/keyfold/KeyTable" "others" "[Lcom/example/keyfold/keyfold/Key;" .null) (F_mask : Fld Z h0 a1 "com/example/keyfold/keyfold/KeyTable" "mask" "I" (.int (0 : Int32))) (F_size : Fld Z h0 a1 "com/example/keyfold/keyfold/KeyTable" "size" "I" (.int (0 : Int32))) (F_prefetched : Fld Z h0 a1 "com/example/keyfold/keyfold/KeyTable" "prefetched" "J" (.long (0 : Int64))) (g1 : n0 ≤ a1) :
    MetFree l (⟨"com/example/keyfold/keyfold/KeyTable", "<init>", "()V"⟩ : MethodName) (head1 (Jvm.Cond.code (⟨"com/example/keyfold/keyfold/KeyTable", "<init>", "()V"⟩ : MethodName) prog_58_method_1_code 1 none :: ws) ({ frames := 1, cells := 1, slots := 32, locals := 12 } : Room)) (fun a U => a = #[(.ref a1)] ∧ Z.Warmed39 U.vm ∧ U.heap = h0) (fun _ _ _ _ _ => True) (fun _ U o U' => ∃ v L, o = .returned v ∧ Q_clr Z a1 h0 n0 v U'.heap L ∧ FrameEnd U o U' L ({ frames := 1, cells := 1, slots := 32, locals := 12 } : Room).cells ({ frames := 1, cells := 1, slots := 32, locals := 12 } : Room).slots) := by
  refine MetFree.of_bodySF (plainFor_of_name pn_1) hisR ?_
  intro p e s m args below meth c s₁ Bd hml0 hP hK
  obtain ⟨rfl, hZ, hh⟩ := hP
  have hx := Bd.exec
  have hby := Bd.bytes
  have hml : c.maxLocals = 1 := hml0
  have hown : s.vm.findClass "com/example/keyfold/keyfold/KeyTable" = some m.cls := findClass_of_methodNamed Bd.named
  have hnm := (name_of_methodNamed Bd.named Bd.method).1
  have X0 : Stand p l e ({ frames := 1, cells := 1, slots := 32, locals := 12 } : Room) s m #[(.ref a1)] below meth c s₁ [] 0 0 := Stand.of_body Bd
  have e0 : s₁.heap = h0 := by rw [← hh, Bd.state]; rfl
  have N0 := Fr.nil n0
  have pre0 : ∀ t, Steps p.tables e below (s₁.setTop (mkF m 0 #[.val (.ref a1)] [])) t → Steps p.tables e below (s₁.setTop (entryFrame m #[(.ref a1)] 1)) t := fun t k => castTop (ef_2 m a1) k
  obtain ⟨T101, X101, e101, st101⟩ := initO X0 hx hZ hown (hw _ (List.mem_of_getElem? (i := 22) rfl)) (hw _ (List.mem_of_getElem? (i := 10) rfl)) (hw _ (List.mem_of_getElem? (i := 11) rfl)) e0 (g := (mkF m 1 #[.val (.ref a1)] [(.ref a1)])) rfl (by rw [hml]; rfl) rfl (hb hby dc12_1) (by decide) (W := 0) (by show 2 * 0 + _ ≤ _; exact Nat.le_of_eq rfl) (by decide)
  obtain ⟨cq102, kq102, q102a, q102b, q102c⟩ := isOf hZ e101 Et
  obtain ⟨_, _, ⟨T102, L102, k102, n102⟩, -, X102, ⟨Lc102, hQ102, l102, y102, z102⟩, st102⟩ := X101.virtualBack hx (y := (⟨"com/example/keyfold/keyfold/KeyTable", "clear", "()V"⟩ : MethodName)) (z := (⟨"com/example/keyfold/keyfold/KeyTable", "clear", "()V"⟩ : MethodName)) hown (mvT hZ (hw _ (List.mem_of_getElem? (i := 23) rfl))) (mvT hZ (hw _ (List.mem_of_getElem? (i := 24) rfl))) (notFace_of_selects (args := #[]) (mvT hZ (hw _ (List.mem_of_getElem? (i := 26) rfl)))) (mvT hZ (hw _ (List.mem_of_getElem? (i := 26) rfl))) (mvT hZ (hw _ (List.mem_of_getElem? (i := 25) rfl))) (by decide) (backOf (W := 0) (rmCl l Z a0 hw [] a1 h0 n0 O0 Et F_slots F_others F_mask F_size F_prefetched g1) hZ (hw _ (List.mem_of_getElem? (i := 27) rfl)) (hw _ (List.mem_of_getElem? (i := 18) rfl)) (by decide) (by decide)) q102a q102c (g := (mkF m 5 #[.val (.ref a1)] [(.ref a1)])) rfl (by rw [hml]; rfl) (Steps.refl _) (argsL := []) (rest := []) (lenOf pd_6 rfl) rfl (by show 2 * 0 + _ ≤ _; exact Nat.le_of_eq rfl) (hb hby dc12_5) (fun _ _ => ⟨rfl, e101, (by decide : 0 + 1 ≤ _), (by decide : 0 + 32 ≤ _)⟩)
  dsimp only [Pt.U, Pt.locs, Pt.cells, Pt.slots] at X102 l102 y102 z102 st102 hQ102
  subst l102 y102 z102
  obtain ⟨rfl, N102q, K102, Ex102, ⟨bt102, gbt102, szt102, net102, Fs102, Lb102⟩, Fo102, Fm102, Fz102, Fq102⟩ := hQ102
  have N102 := Fr.app N0 N102q
  have szz102 : h0.size ≤ bt102 := Nat.le_trans ((Keep.refl h0 [a1])).1 szt102
  obtain ⟨fs, hr, hrun, hended, hW, hsame⟩ := X102.leave (v := none) (fun _ => rfl)
  have K103 : Keep h0 T102.heap [a1] := (Keep.trans (Keep.refl h0 [a1]) K102 (allS (P := fun x => x ∈ [a1] ∨ h0.size ≤ x) (Or.inl (List.mem_of_getElem? (i := 0) rfl)) all0))
  refine ⟨_, _, pre0 _ ?_, hrun, hended, _, _, rfl, ?_, ⟨_, rfl⟩, hW, hsame.mono (by decide) (by decide)⟩
  · skip
    show Steps p.tables e below (s₁.setTop (mkF m 0 #[.val (.ref a1)] [])) _
    refine XS.aloadN X0.here hx rfl (hb hby dc12_0) rfl rfl ?_
    show Steps p.tables e below (s₁.setTop (mkF m 1 #[.val (.ref a1)] [(.ref a1)])) _
    refine st101 _ ?_
    show Steps p.tables e below (T101.setTop (mkF m 4 #[.val (.ref a1)] [])) _
    refine XS.aloadN X101.here hx rfl (hb hby dc12_4) rfl rfl ?_
    show Steps p.tables e below (T101.setTop (mkF m 5 #[.val (.ref a1)] [(.ref a1)])) _
    refine st102.trans ?_
    show Steps p.tables e below (T102.setTop (mkF m 8 #[.val (.ref a1)] [])) _
    exact X102.returnOut hx Bd.returns (hb hby dc12_8) hr
  · show Q_clr Z a1 h0 n0 _ T102.heap _
    exact ⟨rfl, N102, K103, Ex102, ⟨bt102, gbt102, szz102, net102, Fs102, Lb102⟩, Fo102, Fm102, Fz102, Fq102⟩
def Q_rmSz (w1 : Int32) (h0 : Heap) (n0 : Nat) (v : Option Value) (h : Heap) (L : List Loc) : Prop := v = some (.int w1) ∧ Fr n0 L ∧ h = h0
theorem dc13_0 : decode prog_58_method_9_code 0 = .ok (.aload_n 0, 1) := by decide +kernel
theorem dc13_1 : decode prog_58_method_9_code 1 = .ok (.getfield 27, 3) := by decide +kernel
theorem dc13_4 : decode prog_58_method_9_code 4 = .ok (.ireturn, 1) := by decide +kernel
set_option maxRecDepth 65536 in
set_option maxHeartbeats 40000000 in
theorem rmSz (l : Launch) (Z : State) (a0 : Array Value) (hw : ∀ d ∈ tables_1, d.before a0 Z = true) (ws : List Jvm.Cond) (a1 : Addr) (w1 : Int32) (h0 : Heap) (n0 : Nat) (O0 : Old Z n0 h0) (F1 : Fld Z h0 a1 "com/example/keyfold/keyfold/KeyTable" "size" "I" (.int w1)) :
    MetFree l (⟨"com/example/keyfold/keyfold/KeyTable", "size", "()I"⟩ : MethodName) (head1 (Jvm.Cond.code (⟨"com/example/keyfold/keyfold/KeyTable", "size", "()I"⟩ : MethodName) prog_58_method_9_code 1 (some .int) :: ws) ({ frames := 0, cells := 0, slots := 0, locals := 0 } : Room)) (fun a U => a = #[(.ref a1)] ∧ Z.Warmed39 U.vm ∧ U.heap = h0) (fun _ _ _ _ _ => True) (fun _ U o U' => ∃ v L, o = .returned v ∧ Q_rmSz w1 h0 n0 v U'.heap L ∧ FrameEnd U o U' L ({ frames := 0, cells := 0, slots := 0, locals := 0 } : Room).cells ({ frames := 0, cells := 0, slots := 0, locals := 0 } : Room).slots) := by
  refine MetFree.of_bodySF (plainFor_of_name pn_1) hisR ?_
  intro p e s m args below meth c s₁ Bd hml0 hP hK
  obtain ⟨rfl, hZ, hh⟩ := hP
  have hx := Bd.exec
  have hby := Bd.bytes
  have hml : c.maxLocals = 1 := hml0
  have hown : s.vm.findClass "com/example/keyfold/keyfold/KeyTable" = some m.cls := findClass_of_methodNamed Bd.named
  have hnm := (name_of_methodNamed Bd.named Bd.method).1
  have X0 : Stand p l e ({ frames := 0, cells := 0, slots := 0, locals := 0 } : Room) s m #[(.ref a1)] below meth c s₁ [] 0 0 := Stand.of_body Bd
  have e0 : s₁.heap = h0 := by rw [← hh, Bd.state]; rfl
  have N0 := Fr.nil n0
  have pre0 : ∀ t, Steps p.tables e below (s₁.setTop (mkF m 0 #[.val (.ref a1)] [])) t → Steps p.tables e below (s₁.setTop (entryFrame m #[(.ref a1)] 1)) t := fun t k => castTop (ef_2 m a1) k
  obtain ⟨T101, X101, e101, st101⟩ := getF X0 hx hZ hown (host := "") (Or.inl (hw _ (List.mem_of_getElem? (i := 35) rfl))) Via.refl e0 F1 (g := (mkF m 1 #[.val (.ref a1)] [(.ref a1)])) rfl rfl (hb hby dc13_1)
  obtain ⟨fs, hr, hrun, hended, hW, hsame⟩ := X101.leave (v := some (.int w1)) (fun h => by rw [Bd.returns] at h; cases h)
  refine ⟨_, _, pre0 _ ?_, hrun, hended, _, _, rfl, ?_, ⟨_, rfl⟩, hW, hsame.mono (by decide) (by decide)⟩
  · skip
    show Steps p.tables e below (s₁.setTop (mkF m 0 #[.val (.ref a1)] [])) _
    refine XS.aloadN X0.here hx rfl (hb hby dc13_0) rfl rfl ?_
    show Steps p.tables e below (s₁.setTop (mkF m 1 #[.val (.ref a1)] [(.ref a1)])) _
    refine st101 _ ?_
    show Steps p.tables e below (T101.setTop (mkF m 4 #[.val (.ref a1)] [(.int w1)])) _
    exact retI X101 hx Bd.returns (hb hby dc13_4) hr
  · show Q_rmSz w1 h0 n0 _ T101.heap _
    rw [e101]
    exact ⟨rfl, N0, rfl⟩
def Q_pf (Z : State) (a1 b1 : Addr) (f1 : Int32 → Int64) (n1 : Int32) (h0 : Heap) (n0 : Nat) (v : Option Value) (h : Heap) (L : List Loc) : Prop := v = none ∧ Fr n0 L ∧ Keep h0 h [a1] ∧ ∃ p2 : Int64, Exa Z h a1 "com/example/keyfold/keyfold/KeyTable" ∧ Fld Z h a1 "com/example/keyfold/keyfold/KeyTable" "slots" "[J" (.ref b1) ∧ Fld Z h a1 "com/example/keyfold/keyfold/KeyTable" "others" "[Lcom/example/keyfold/keyfold/Key;" .null ∧ Fld Z h a1 "com/example/keyfold/keyfold/KeyTable" "mask" "I" (.int (15 : Int32)) ∧ Fld Z h a1 "com/example/keyfold/keyfold/KeyTable" "size" "I" (.int n1) ∧ Lv Z h b1 32 f1 ∧ Fld Z h a1 "com/example/keyfold/keyfold/KeyTable" "prefetched" "J" (.long p2)
theorem ef_9 (m : MethodId) (x0 : Addr) (x1 : Addr) (x2 : Int32) : entryFrame m #[(.ref x0), (.ref x1), (.int x2)] 6 = mkF m 0 #[.val (.ref x0), .val (.ref x1), .val (.int x2), .unset, .unset, .unset] [] := by first | (simp [entryFrame, mkF, argsToLocals, Value.category]; done) | rfl
theorem dc14_0 : decode prog_58_method_6_code 0 = .ok (.lconst 0, 1) := by decide +kernel
theorem dc14_1 : decode prog_58_method_6_code 1 = .ok (.lstore_n 3, 1) := by decide +kernel
theorem dc14_2 : decode prog_58_method_6_code 2 = .ok (.iconst 0, 1) := by decide +kernel
theorem dc14_3 : decode prog_58_method_6_code 3 = .ok (.istore 5, 2) := by decide +kernel
theorem dc14_5 : decode prog_58_method_6_code 5 = .ok (.iload 5, 2) := by decide +kernel
theorem dc14_7 : decode prog_58_method_6_code 7 = .ok (.iload_n 2, 1) := by decide +kernel
theorem dc14_8 : decode prog_58_method_6_code 8 = .ok (.if_icmp .ge 30, 3) := by decide +kernel
theorem dc14_38 : decode prog_58_method_6_code 38 = .ok (.aload_n 0, 1) := by decide +kernel
theorem dc14_39 : decode prog_58_method_6_code 39 = .ok (.dup, 1) := by decide +kernel
theorem dc14_40 : decode prog_58_method_6_code 40 = .ok (.getfield 51, 3) := by decide +kernel
theorem dc14_43 : decode prog_58_method_6_code 43 = .ok (.lload_n 3, 1) := by decide +kernel
theorem dc14_44 : decode prog_58_method_6_code 44 = .ok (.ladd, 1) := by decide +kernel
theorem dc14_45 : decode prog_58_method_6_code 45 = .ok (.putfield 51, 3) := by decide +kernel
theorem dc14_48 : decode prog_58_method_6_code 48 = .ok (.return_, 1) := by decide +kernel
set_option maxRecDepth 65536 in
set_option maxHeartbeats 40000000 in
theorem rmPf0 (l : Launch) (Z : State) (a0 : Array Value) (hw : ∀ d ∈ tables_1, d.before a0 Z = true) (ws : List Jvm.Cond) (a1 b1 c1 : Addr) (k1 : ClassId) (f1 : Int32 → Int64) (n1 u0 u1 u2 : Int32) (p1 : Int64) (h0 : Heap) (n0 : Nat) (O0 : Old Z n0 h0) (Et : Exa Z h0 a1 "com/example/keyfold/keyfold/KeyTable") (Fs : Fld Z h0 a1 "com/example/keyfold/keyfold/KeyTable" "slots" "[J" (.ref b1)) (Fo : Fld Z h0 a1 "com/example/keyfold/keyfold/KeyTable" "others" "[Lcom/example/keyfold/keyfold/Key;" .null) (Fm : Fld Z h0 a1 "com/example/keyfold/keyfold/KeyTable" "mask" "I" (.int (15 : Int32))) (Fz : Fld Z h0 a1 "com/example/keyfold/keyfold/KeyTable" "size" "I" (.int n1)) (Lb : Lv Z h0 b1 32 f1) (Fq : Fld Z h0 a1 "com/example/keyfold/keyfold/KeyTable" "prefetched" "J" (.long p1)) (Va : Arv Z h0 c1 k1 .int (3 : Int32) [(.int u0), (.int u1), (.int u2)] (.int (0 : Int32))) (ne1 : a1 ≠ b1) (ne2 : a1 ≠ c1) (g1 : n0 ≤ a1) :
    MetFree l (⟨"com/example/keyfold/keyfold/KeyTable", "prefetch", "([II)V"⟩ : MethodName) (head1 (Jvm.Cond.code (⟨"com/example/keyfold/keyfold/KeyTable", "prefetch", "([II)V"⟩ : MethodName) prog_58_method_6_code 6 none :: ws) ({ frames := 0, cells := 0, slots := 0, locals := 0 } : Room)) (fun a U => a = #[(.ref a1), (.ref c1), (.int (0 : Int32))] ∧ Z.Warmed39 U.vm ∧ U.heap = h0) (fun _ _ _ _ _ => True) (fun _ U o U' => ∃ v L, o = .returned v ∧ Q_pf Z a1 b1 f1 n1 h0 n0 v U'.heap L ∧ FrameEnd U o U' L ({ frames := 0, cells := 0, slots := 0, locals := 0 } : Room).cells ({ frames := 0, cells := 0, slots := 0, locals := 0 } : Room).slots) := by
  refine MetFree.of_bodySF (plainFor_of_name pn_1) hisR ?_
  intro p e s m args below meth c s₁ Bd hml0 hP hK
  obtain ⟨rfl, hZ, hh⟩ := hP
  have hx := Bd.exec
  have hby := Bd.bytes
  have hml : c.maxLocals = 6 := hml0
  have hown : s.vm.findClass "com/example/keyfold/keyfold/KeyTable" = some m.cls := findClass_of_methodNamed Bd.named
  have hnm := (name_of_methodNamed Bd.named Bd.method).1
  have X0 : Stand p l e ({ frames := 0, cells := 0, slots := 0, locals := 0 } : Room) s m #[(.ref a1), (.ref c1), (.int (0 : Int32))] below meth c s₁ [] 0 0 := Stand.of_body Bd
  have e0 : s₁.heap = h0 := by rw [← hh, Bd.state]; rfl
  have N0 := Fr.nil n0
  have pre0 : ∀ t, Steps p.tables e below (s₁.setTop (mkF m 0 #[.val (.ref a1), .val (.ref c1), .val (.int (0 : Int32)), .unset, .unset, .unset] [])) t → Steps p.tables e below (s₁.setTop (entryFrame m #[(.ref a1), (.ref c1), (.int (0 : Int32))] 6)) t := fun t k => castTop (ef_9 m a1 c1 (0 : Int32)) k
  obtain ⟨T101, X101, e101, st101⟩ := getF X0 hx hZ hown (host := "") (Or.inl (hw _ (List.mem_of_getElem? (i := 78) rfl))) Via.refl e0 Fq (g := (mkF m 40 #[.val (.ref a1), .val (.ref c1), .val (.int (0 : Int32)), .val (.long (0 : Int64)), .second, .val (.int (0 : Int32))] [(.ref a1), (.ref a1)])) rfl rfl (hb hby dc14_40)
  obtain ⟨T102, h102, X102, e102, W102, st102⟩ := putF X101 hx hZ hown (host := "") (Or.inl (hw _ (List.mem_of_getElem? (i := 78) rfl))) Via.refl e101 Fq Et (Or.inl (hw _ (List.mem_of_getElem? (i := 79) rfl))) (hw _ (List.mem_of_getElem? (i := 17) rfl)) (ty := .long) (by decide) rfl rfl (g := (mkF m 45 #[.val (.ref a1), .val (.ref c1), .val (.int (0 : Int32)), .val (.long (0 : Int64)), .second, .val (.int (0 : Int32))] [(.long (p1 + (0 : Int64))), (.ref a1)])) rfl rfl (hb hby dc14_45)
  have Fw102 : Fld Z h102 a1 "com/example/keyfold/keyfold/KeyTable" "prefetched" "J" (.long (p1 + (0 : Int64))) := Fld.same W102 Fq
  have N102 := Fr.snoc X102 N0 g1
  obtain ⟨fs, hr, hrun, hended, hW, hsame⟩ := X102.leave (v := none) (fun _ => rfl)
  have K103 : Keep h0 h102 [a1] := (Keep.wr (Keep.refl h0 [a1]) W102 (Or.inl (List.mem_of_getElem? (i := 0) rfl)))
  have f104 := (Et.wr W102)
  have f105 := (Fs.other W102 (Or.inr (slot_ne (Or.inl (hw _ (List.mem_of_getElem? (i := 30) rfl))) (Or.inl (hw _ (List.mem_of_getElem? (i := 79) rfl))) (by decide) (t := (.array .long)) (t' := .long) (by decide) (by decide))))
  have f106 := (Fo.other W102 (Or.inr (slot_ne (Or.inl (hw _ (List.mem_of_getElem? (i := 32) rfl))) (Or.inl (hw _ (List.mem_of_getElem? (i := 79) rfl))) (by decide) (t := (.array (.object "com/example/keyfold/keyfold/Key"))) (t' := .long) (by decide) (by decide))))
  have f107 := (Fm.other W102 (Or.inr (slot_ne (Or.inl (hw _ (List.mem_of_getElem? (i := 34) rfl))) (Or.inl (hw _ (List.mem_of_getElem? (i := 79) rfl))) (by decide) (t := .int) (t' := .long) (by decide) (by decide))))
  have f108 := (Fz.other W102 (Or.inr (slot_ne (Or.inl (hw _ (List.mem_of_getElem? (i := 36) rfl))) (Or.inl (hw _ (List.mem_of_getElem? (i := 79) rfl))) (by decide) (t := .int) (t' := .long) (by decide) (by decide))))
  have f109 := (Lb.other W102 (Ne.symm ne1))
  refine ⟨_, _, pre0 _ ?_, hrun, hended, _, _, rfl, ?_, ⟨_, rfl⟩, hW, hsame.mono (by decide) (by decide)⟩
  · skip
    show Steps p.tables e below (s₁.setTop (mkF m 0 #[.val (.ref a1), .val (.ref c1), .val (.int (0 : Int32)), .unset, .unset, .unset] [])) _
    refine XS.lconst X0.here hx rfl (hb hby dc14_0) ?_
    show Steps p.tables e below (s₁.setTop (mkF m 1 #[.val (.ref a1), .val (.ref c1), .val (.int (0 : Int32)), .unset, .unset, .unset] [(.long (0 : Int64))])) _
    refine XS.lstoreN X0.here hx rfl (hb hby dc14_1) rfl (l' := #[.val (.ref a1), .val (.ref c1), .val (.int (0 : Int32)), .val (.long (0 : Int64)), .second, .unset]) rfl ?_
    show Steps p.tables e below (s₁.setTop (mkF m 2 #[.val (.ref a1), .val (.ref c1), .val (.int (0 : Int32)), .val (.long (0 : Int64)), .second, .unset] [])) _
    refine XS.iconst X0.here hx rfl (hb hby dc14_2) ?_
    show Steps p.tables e below (s₁.setTop (mkF m 3 #[.val (.ref a1), .val (.ref c1), .val (.int (0 : Int32)), .val (.long (0 : Int64)), .second, .unset] [(.int (0 : Int32))])) _
    refine XS.istore X0.here hx rfl (hb hby dc14_3) rfl (l' := #[.val (.ref a1), .val (.ref c1), .val (.int (0 : Int32)), .val (.long (0 : Int64)), .second, .val (.int (0 : Int32))]) rfl ?_
    show Steps p.tables e below (s₁.setTop (mkF m 5 #[.val (.ref a1), .val (.ref c1), .val (.int (0 : Int32)), .val (.long (0 : Int64)), .second, .val (.int (0 : Int32))] [])) _
    refine XS.iload X0.here hx rfl (hb hby dc14_5) rfl ?_
    show Steps p.tables e below (s₁.setTop (mkF m 7 #[.val (.ref a1), .val (.ref c1), .val (.int (0 : Int32)), .val (.long (0 : Int64)), .second, .val (.int (0 : Int32))] [(.int (0 : Int32))])) _
    refine XS.iloadN X0.here hx rfl (hb hby dc14_7) rfl ?_
    show Steps p.tables e below (s₁.setTop (mkF m 8 #[.val (.ref a1), .val (.ref c1), .val (.int (0 : Int32)), .val (.long (0 : Int64)), .second, .val (.int (0 : Int32))] [(.int (0 : Int32)), (.int (0 : Int32))])) _
    refine XS.icmpYes X0.here hx rfl (pc0 := 8) (pc' := 38) rfl (hb hby dc14_8) rfl (by decide) (by decide) (by decide) ?_
    show Steps p.tables e below (s₁.setTop (mkF m 38 #[.val (.ref a1), .val (.ref c1), .val (.int (0 : Int32)), .val (.long (0 : Int64)), .second, .val (.int (0 : Int32))] [])) _
    refine XS.aloadN X0.here hx rfl (hb hby dc14_38) rfl rfl ?_
    show Steps p.tables e below (s₁.setTop (mkF m 39 #[.val (.ref a1), .val (.ref c1), .val (.int (0 : Int32)), .val (.long (0 : Int64)), .second, .val (.int (0 : Int32))] [(.ref a1)])) _
    refine XS.dup X0.here hx rfl (hb hby dc14_39) rfl rfl ?_
    show Steps p.tables e below (s₁.setTop (mkF m 40 #[.val (.ref a1), .val (.ref c1), .val (.int (0 : Int32)), .val (.long (0 : Int64)), .second, .val (.int (0 : Int32))] [(.ref a1), (.ref a1)])) _
    refine st101 _ ?_
    show Steps p.tables e below (T101.setTop (mkF m 43 #[.val (.ref a1), .val (.ref c1), .val (.int (0 : Int32)), .val (.long (0 : Int64)), .second, .val (.int (0 : Int32))] [(.long p1), (.ref a1)])) _
    refine XS.lloadN X101.here hx rfl (hb hby dc14_43) rfl ?_
    show Steps p.tables e below (T101.setTop (mkF m 44 #[.val (.ref a1), .val (.ref c1), .val (.int (0 : Int32)), .val (.long (0 : Int64)), .second, .val (.int (0 : Int32))] [(.long (0 : Int64)), (.long p1), (.ref a1)])) _
    refine XS.ladd X101.here hx rfl (hb hby dc14_44) rfl ?_
    show Steps p.tables e below (T101.setTop (mkF m 45 #[.val (.ref a1), .val (.ref c1), .val (.int (0 : Int32)), .val (.long (0 : Int64)), .second, .val (.int (0 : Int32))] [(.long (p1 + (0 : Int64))), (.ref a1)])) _
    refine st102 _ ?_
    show Steps p.tables e below (T102.setTop (mkF m 48 #[.val (.ref a1), .val (.ref c1), .val (.int (0 : Int32)), .val (.long (0 : Int64)), .second, .val (.int (0 : Int32))] [])) _
    exact X102.returnOut hx Bd.returns (hb hby dc14_48) hr
  · show Q_pf Z a1 b1 f1 n1 h0 n0 _ T102.heap _
    rw [e102]
    exact ⟨rfl, N102, K103, _, f104, f105, f106, f107, f108, f109, Fw102⟩
theorem dc14_11 : decode prog_58_method_6_code 11 = .ok (.lload_n 3, 1) := by decide +kernel
theorem dc14_12 : decode prog_58_method_6_code 12 = .ok (.aload_n 0, 1) := by decide +kernel
theorem dc14_13 : decode prog_58_method_6_code 13 = .ok (.getfield 23, 3) := by decide +kernel
theorem dc14_16 : decode prog_58_method_6_code 16 = .ok (.iconst 2, 1) := by decide +kernel
theorem dc14_17 : decode prog_58_method_6_code 17 = .ok (.aload_n 1, 1) := by decide +kernel
theorem dc14_18 : decode prog_58_method_6_code 18 = .ok (.iload 5, 2) := by decide +kernel
theorem dc14_20 : decode prog_58_method_6_code 20 = .ok (.iaload, 1) := by decide +kernel
theorem dc14_21 : decode prog_58_method_6_code 21 = .ok (.aload_n 0, 1) := by decide +kernel
theorem dc14_22 : decode prog_58_method_6_code 22 = .ok (.getfield 31, 3) := by decide +kernel
theorem dc14_25 : decode prog_58_method_6_code 25 = .ok (.iand, 1) := by decide +kernel
theorem dc14_26 : decode prog_58_method_6_code 26 = .ok (.imul, 1) := by decide +kernel
theorem dc14_27 : decode prog_58_method_6_code 27 = .ok (.iconst 1, 1) := by decide +kernel
theorem dc14_28 : decode prog_58_method_6_code 28 = .ok (.iadd, 1) := by decide +kernel
theorem dc14_29 : decode prog_58_method_6_code 29 = .ok (.laload, 1) := by decide +kernel
theorem dc14_30 : decode prog_58_method_6_code 30 = .ok (.ladd, 1) := by decide +kernel
theorem dc14_31 : decode prog_58_method_6_code 31 = .ok (.lstore_n 3, 1) := by decide +kernel
theorem dc14_32 : decode prog_58_method_6_code 32 = .ok (.iinc 5 1, 3) := by decide +kernel
theorem dc14_35 : decode prog_58_method_6_code 35 = .ok (.goto (-30), 3) := by decide +kernel
set_option maxRecDepth 65536 in
set_option maxHeartbeats 40000000 in
theorem rmPf1 (l : Launch) (Z : State) (a0 : Array Value) (hw : ∀ d ∈ tables_1, d.before a0 Z = true) (ws : List Jvm.Cond) (a1 b1 c1 : Addr) (k1 : ClassId) (f1 : Int32 → Int64) (n1 u0 u1 u2 : Int32) (p1 : Int64) (h0 : Heap) (n0 : Nat) (O0 : Old Z n0 h0) (Et : Exa Z h0 a1 "com/example/keyfold/keyfold/KeyTable") (Fs : Fld Z h0 a1 "com/example/keyfold/keyfold/KeyTable" "slots" "[J" (.ref b1)) (Fo : Fld Z h0 a1 "com/example/keyfold/keyfold/KeyTable" "others" "[Lcom/example/keyfold/keyfold/Key;" .null) (Fm : Fld Z h0 a1 "com/example/keyfold/keyfold/KeyTable" "mask" "I" (.int (15 : Int32))) (Fz : Fld Z h0 a1 "com/example/keyfold/keyfold/KeyTable" "size" "I" (.int n1)) (Lb : Lv Z h0 b1 32 f1) (Fq : Fld Z h0 a1 "com/example/keyfold/keyfold/KeyTable" "prefetched" "J" (.long p1)) (Va : Arv Z h0 c1 k1 .int (3 : Int32) [(.int u0), (.int u1), (.int u2)] (.int (0 : Int32))) (ne1 : a1 ≠ b1) (ne2 : a1 ≠ c1) (g1 : n0 ≤ a1) :
    MetFree l (⟨"com/example/keyfold/keyfold/KeyTable", "prefetch", "([II)V"⟩ : MethodName) (head1 (Jvm.Cond.code (⟨"com/example/keyfold/keyfold/KeyTable", "prefetch", "([II)V"⟩ : MethodName) prog_58_method_6_code 6 none :: ws) ({ frames := 0, cells := 0, slots := 0, locals := 0 } : Room)) (fun a U => a = #[(.ref a1), (.ref c1), (.int (1 : Int32))] ∧ Z.Warmed39 U.vm ∧ U.heap = h0) (fun _ _ _ _ _ => True) (fun _ U o U' => ∃ v L, o = .returned v ∧ Q_pf Z a1 b1 f1 n1 h0 n0 v U'.heap L ∧ FrameEnd U o U' L ({ frames := 0, cells := 0, slots := 0, locals := 0 } : Room).cells ({ frames := 0, cells := 0, slots := 0, locals := 0 } : Room).slots) := by
  refine MetFree.of_bodySF (plainFor_of_name pn_1) hisR ?_
  intro p e s m args below meth c s₁ Bd hml0 hP hK
  obtain ⟨rfl, hZ, hh⟩ := hP
  have hx := Bd.exec
  have hby := Bd.bytes
  have hml : c.maxLocals = 6 := hml0
  have hown : s.vm.findClass "com/example/keyfold/keyfold/KeyTable" = some m.cls := findClass_of_methodNamed Bd.named
  have hnm := (name_of_methodNamed Bd.named Bd.method).1
  have X0 : Stand p l e ({ frames := 0, cells := 0, slots := 0, locals := 0 } : Room) s m #[(.ref a1), (.ref c1), (.int (1 : Int32))] below meth c s₁ [] 0 0 := Stand.of_body Bd
  have e0 : s₁.heap = h0 := by rw [← hh, Bd.state]; rfl
  have N0 := Fr.nil n0
  have pre0 : ∀ t, Steps p.tables e below (s₁.setTop (mkF m 0 #[.val (.ref a1), .val (.ref c1), .val (.int (1 : Int32)), .unset, .unset, .unset] [])) t → Steps p.tables e below (s₁.setTop (entryFrame m #[(.ref a1), (.ref c1), (.int (1 : Int32))] 6)) t := fun t k => castTop (ef_9 m a1 c1 (1 : Int32)) k
  obtain ⟨T101, X101, e101, st101⟩ := getF X0 hx hZ hown (host := "") (Or.inl (hw _ (List.mem_of_getElem? (i := 29) rfl))) Via.refl e0 Fs (g := (mkF m 13 #[.val (.ref a1), .val (.ref c1), .val (.int (1 : Int32)), .val (.long (0 : Int64)), .second, .val (.int (0 : Int32))] [(.ref a1), (.long (0 : Int64))])) rfl rfl (hb hby dc14_13)
  obtain ⟨cl102, Ar102, q102, S102, N102_, H102, G102⟩ := id Va
  have hin102 : ¬ ((0 : Int32) < 0 ∨ cl102.slots.size ≤ ((0 : Int32)).toNatClampNeg) := inb_of S102 ⟨by decide, by decide⟩
  have hat102 : cl102.slots[((0 : Int32)).toNatClampNeg]? = some (.int u0) := H102.at hin102 rfl
  obtain ⟨T103, X103, e103, st103⟩ := getF X101 hx hZ hown (host := "") (Or.inl (hw _ (List.mem_of_getElem? (i := 33) rfl))) Via.refl e101 Fm (g := (mkF m 22 #[.val (.ref a1), .val (.ref c1), .val (.int (1 : Int32)), .val (.long (0 : Int64)), .second, .val (.int (0 : Int32))] [(.ref a1), (.int u0), (.int (2 : Int32)), (.ref b1), (.long (0 : Int64))])) rfl rfl (hb hby dc14_22)
  obtain ⟨cl104, Ar104, S104, H104⟩ := id Lb
  have hin104 : ¬ ((((2 : Int32) * (u0 &&& (15 : Int32))) + (1 : Int32)) < 0 ∨ cl104.slots.size ≤ ((((2 : Int32) * (u0 &&& (15 : Int32))) + (1 : Int32))).toNatClampNeg) := by rw [S104]; exact (own_b1 (own_a16 _))
  have hat104 : cl104.slots[((((2 : Int32) * (u0 &&& (15 : Int32))) + (1 : Int32))).toNatClampNeg]? = some (.long (f1 (((2 : Int32) * (u0 &&& (15 : Int32))) + (1 : Int32)))) := H104 _ hin104
  obtain ⟨T105, X105, e105, st105⟩ := getF X103 hx hZ hown (host := "") (Or.inl (hw _ (List.mem_of_getElem? (i := 78) rfl))) Via.refl e103 Fq (g := (mkF m 40 #[.val (.ref a1), .val (.ref c1), .val (.int (1 : Int32)), .val (.long ((0 : Int64) + (f1 (((2 : Int32) * (u0 &&& (15 : Int32))) + (1 : Int32))))), .second, .val (.int (1 : Int32))] [(.ref a1), (.ref a1)])) rfl rfl (hb hby dc14_40)
  obtain ⟨T106, h106, X106, e106, W106, st106⟩ := putF X105 hx hZ hown (host := "") (Or.inl (hw _ (List.mem_of_getElem? (i := 78) rfl))) Via.refl e105 Fq Et (Or.inl (hw _ (List.mem_of_getElem? (i := 79) rfl))) (hw _ (List.mem_of_getElem? (i := 17) rfl)) (ty := .long) (by decide) rfl rfl (g := (mkF m 45 #[.val (.ref a1), .val (.ref c1), .val (.int (1 : Int32)), .val (.long ((0 : Int64) + (f1 (((2 : Int32) * (u0 &&& (15 : Int32))) + (1 : Int32))))), .second, .val (.int (1 : Int32))] [(.long (p1 + ((0 : Int64) + (f1 (((2 : Int32) * (u0 &&& (15 : Int32))) + (1 : Int32)))))), (.ref a1)])) rfl rfl (hb hby dc14_45)
  have Fw106 : Fld Z h106 a1 "com/example/keyfold/keyfold/KeyTable" "prefetched" "J" (.long (p1 + ((0 : Int64) + (f1 (((2 : Int32) * (u0 &&& (15 : Int32))) + (1 : Int32)))))) := Fld.same W106 Fq
  have N106 := Fr.snoc X106 N0 g1
  obtain ⟨fs, hr, hrun, hended, hW, hsame⟩ := X106.leave (v := none) (fun _ => rfl)
  have K107 : Keep h0 h106 [a1] := (Keep.wr (Keep.refl h0 [a1]) W106 (Or.inl (List.mem_of_getElem? (i := 0) rfl)))
  have f108 := (Et.wr W106)
  have f109 := (Fs.other W106 (Or.inr (slot_ne (Or.inl (hw _ (List.mem_of_getElem? (i := 30) rfl))) (Or.inl (hw _ (List.mem_of_getElem? (i := 79) rfl))) (by decide) (t := (.array .long)) (t' := .long) (by decide) (by decide))))
  have f110 := (Fo.other W106 (Or.inr (slot_ne (Or.inl (hw _ (List.mem_of_getElem? (i := 32) rfl))) (Or.inl (hw _ (List.mem_of_getElem? (i := 79) rfl))) (by decide) (t := (.array (.object "com/example/keyfold/keyfold/Key"))) (t' := .long) (by decide) (by decide))))
  have f111 := (Fm.other W106 (Or.inr (slot_ne (Or.inl (hw _ (List.mem_of_getElem? (i := 34) rfl))) (Or.inl (hw _ (List.mem_of_getElem? (i := 79) rfl))) (by decide) (t := .int) (t' := .long) (by decide) (by decide))))
  have f112 := (Fz.other W106 (Or.inr (slot_ne (Or.inl (hw _ (List.mem_of_getElem? (i := 36) rfl))) (Or.inl (hw _ (List.mem_of_getElem? (i := 79) rfl))) (by decide) (t := .int) (t' := .long) (by decide) (by decide))))
  have f113 := (Lb.other W106 (Ne.symm ne1))
  refine ⟨_, _, pre0 _ ?_, hrun, hended, _, _, rfl, ?_, ⟨_, rfl⟩, hW, hsame.mono (by decide) (by decide)⟩
  · skip
    show Steps p.tables e below (s₁.setTop (mkF m 0 #[.val (.ref a1), .val (.ref c1), .val (.int (1 : Int32)), .unset, .unset, .unset] [])) _
    refine XS.lconst X0.here hx rfl (hb hby dc14_0) ?_
    show Steps p.tables e below (s₁.setTop (mkF m 1 #[.val (.ref a1), .val (.ref c1), .val (.int (1 : Int32)), .unset, .unset, .unset] [(.long (0 : Int64))])) _
    refine XS.lstoreN X0.here hx rfl (hb hby dc14_1) rfl (l' := #[.val (.ref a1), .val (.ref c1), .val (.int (1 : Int32)), .val (.long (0 : Int64)), .second, .unset]) rfl ?_
    show Steps p.tables e below (s₁.setTop (mkF m 2 #[.val (.ref a1), .val (.ref c1), .val (.int (1 : Int32)), .val (.long (0 : Int64)), .second, .unset] [])) _
    refine XS.iconst X0.here hx rfl (hb hby dc14_2) ?_
    show Steps p.tables e below (s₁.setTop (mkF m 3 #[.val (.ref a1), .val (.ref c1), .val (.int (1 : Int32)), .val (.long (0 : Int64)), .second, .unset] [(.int (0 : Int32))])) _
    refine XS.istore X0.here hx rfl (hb hby dc14_3) rfl (l' := #[.val (.ref a1), .val (.ref c1), .val (.int (1 : Int32)), .val (.long (0 : Int64)), .second, .val (.int (0 : Int32))]) rfl ?_
    show Steps p.tables e below (s₁.setTop (mkF m 5 #[.val (.ref a1), .val (.ref c1), .val (.int (1 : Int32)), .val (.long (0 : Int64)), .second, .val (.int (0 : Int32))] [])) _
    refine XS.iload X0.here hx rfl (hb hby dc14_5) rfl ?_
    show Steps p.tables e below (s₁.setTop (mkF m 7 #[.val (.ref a1), .val (.ref c1), .val (.int (1 : Int32)), .val (.long (0 : Int64)), .second, .val (.int (0 : Int32))] [(.int (0 : Int32))])) _
    refine XS.iloadN X0.here hx rfl (hb hby dc14_7) rfl ?_
    show Steps p.tables e below (s₁.setTop (mkF m 8 #[.val (.ref a1), .val (.ref c1), .val (.int (1 : Int32)), .val (.long (0 : Int64)), .second, .val (.int (0 : Int32))] [(.int (1 : Int32)), (.int (0 : Int32))])) _
    refine XS.icmpNo X0.here hx rfl (hb hby dc14_8) rfl (by decide) ?_
    show Steps p.tables e below (s₁.setTop (mkF m 11 #[.val (.ref a1), .val (.ref c1), .val (.int (1 : Int32)), .val (.long (0 : Int64)), .second, .val (.int (0 : Int32))] [])) _
    refine XS.lloadN X0.here hx rfl (hb hby dc14_11) rfl ?_
    show Steps p.tables e below (s₁.setTop (mkF m 12 #[.val (.ref a1), .val (.ref c1), .val (.int (1 : Int32)), .val (.long (0 : Int64)), .second, .val (.int (0 : Int32))] [(.long (0 : Int64))])) _
    refine XS.aloadN X0.here hx rfl (hb hby dc14_12) rfl rfl ?_
    show Steps p.tables e below (s₁.setTop (mkF m 13 #[.val (.ref a1), .val (.ref c1), .val (.int (1 : Int32)), .val (.long (0 : Int64)), .second, .val (.int (0 : Int32))] [(.ref a1), (.long (0 : Int64))])) _
    refine st101 _ ?_
    show Steps p.tables e below (T101.setTop (mkF m 16 #[.val (.ref a1), .val (.ref c1), .val (.int (1 : Int32)), .val (.long (0 : Int64)), .second, .val (.int (0 : Int32))] [(.ref b1), (.long (0 : Int64))])) _
    refine XS.iconst X101.here hx rfl (hb hby dc14_16) ?_
    show Steps p.tables e below (T101.setTop (mkF m 17 #[.val (.ref a1), .val (.ref c1), .val (.int (1 : Int32)), .val (.long (0 : Int64)), .second, .val (.int (0 : Int32))] [(.int (2 : Int32)), (.ref b1), (.long (0 : Int64))])) _
    refine XS.aloadN X101.here hx rfl (hb hby dc14_17) rfl rfl ?_
    show Steps p.tables e below (T101.setTop (mkF m 18 #[.val (.ref a1), .val (.ref c1), .val (.int (1 : Int32)), .val (.long (0 : Int64)), .second, .val (.int (0 : Int32))] [(.ref c1), (.int (2 : Int32)), (.ref b1), (.long (0 : Int64))])) _
    refine XS.iload X101.here hx rfl (hb hby dc14_18) rfl ?_
    show Steps p.tables e below (T101.setTop (mkF m 20 #[.val (.ref a1), .val (.ref c1), .val (.int (1 : Int32)), .val (.long (0 : Int64)), .second, .val (.int (0 : Int32))] [(.int (0 : Int32)), (.ref c1), (.int (2 : Int32)), (.ref b1), (.long (0 : Int64))])) _
    refine X101.iaload hx (j := (0 : Int32)) (v := (.int u0)) (by rw [e101]; exact Ar102.1) (State.isArrayOf_alike hZ.alike Ar102.2.1) Ar102.2.2 hin102 hat102 (g := (mkF m 20 #[.val (.ref a1), .val (.ref c1), .val (.int (1 : Int32)), .val (.long (0 : Int64)), .second, .val (.int (0 : Int32))] [(.int (0 : Int32)), (.ref c1), (.int (2 : Int32)), (.ref b1), (.long (0 : Int64))])) rfl rfl (hb hby dc14_20) _ ?_
    show Steps p.tables e below (T101.setTop (mkF m 21 #[.val (.ref a1), .val (.ref c1), .val (.int (1 : Int32)), .val (.long (0 : Int64)), .second, .val (.int (0 : Int32))] [(.int u0), (.int (2 : Int32)), (.ref b1), (.long (0 : Int64))])) _
    refine XS.aloadN X101.here hx rfl (hb hby dc14_21) rfl rfl ?_
    show Steps p.tables e below (T101.setTop (mkF m 22 #[.val (.ref a1), .val (.ref c1), .val (.int (1 : Int32)), .val (.long (0 : Int64)), .second, .val (.int (0 : Int32))] [(.ref a1), (.int u0), (.int (2 : Int32)), (.ref b1), (.long (0 : Int64))])) _
    refine st103 _ ?_
    show Steps p.tables e below (T103.setTop (mkF m 25 #[.val (.ref a1), .val (.ref c1), .val (.int (1 : Int32)), .val (.long (0 : Int64)), .second, .val (.int (0 : Int32))] [(.int (15 : Int32)), (.int u0), (.int (2 : Int32)), (.ref b1), (.long (0 : Int64))])) _
    refine XS.iand X103.here hx rfl (hb hby dc14_25) rfl ?_
    show Steps p.tables e below (T103.setTop (mkF m 26 #[.val (.ref a1), .val (.ref c1), .val (.int (1 : Int32)), .val (.long (0 : Int64)), .second, .val (.int (0 : Int32))] [(.int (u0 &&& (15 : Int32))), (.int (2 : Int32)), (.ref b1), (.long (0 : Int64))])) _
    refine XS.imul X103.here hx rfl (hb hby dc14_26) rfl ?_
    show Steps p.tables e below (T103.setTop (mkF m 27 #[.val (.ref a1), .val (.ref c1), .val (.int (1 : Int32)), .val (.long (0 : Int64)), .second, .val (.int (0 : Int32))] [(.int ((2 : Int32) * (u0 &&& (15 : Int32)))), (.ref b1), (.long (0 : Int64))])) _
    refine XS.iconst X103.here hx rfl (hb hby dc14_27) ?_
    show Steps p.tables e below (T103.setTop (mkF m 28 #[.val (.ref a1), .val (.ref c1), .val (.int (1 : Int32)), .val (.long (0 : Int64)), .second, .val (.int (0 : Int32))] [(.int (1 : Int32)), (.int ((2 : Int32) * (u0 &&& (15 : Int32)))), (.ref b1), (.long (0 : Int64))])) _
    refine XS.iadd X103.here hx rfl (hb hby dc14_28) rfl ?_
    show Steps p.tables e below (T103.setTop (mkF m 29 #[.val (.ref a1), .val (.ref c1), .val (.int (1 : Int32)), .val (.long (0 : Int64)), .second, .val (.int (0 : Int32))] [(.int (((2 : Int32) * (u0 &&& (15 : Int32))) + (1 : Int32))), (.ref b1), (.long (0 : Int64))])) _
    refine X103.laload hx (j := (((2 : Int32) * (u0 &&& (15 : Int32))) + (1 : Int32))) (v := (.long (f1 (((2 : Int32) * (u0 &&& (15 : Int32))) + (1 : Int32))))) (by rw [e103]; exact Ar104.1) (State.isArrayOf_alike hZ.alike Ar104.2.1) Ar104.2.2 hin104 hat104 (g := (mkF m 29 #[.val (.ref a1), .val (.ref c1), .val (.int (1 : Int32)), .val (.long (0 : Int64)), .second, .val (.int (0 : Int32))] [(.int (((2 : Int32) * (u0 &&& (15 : Int32))) + (1 : Int32))), (.ref b1), (.long (0 : Int64))])) rfl rfl (hb hby dc14_29) _ ?_
    show Steps p.tables e below (T103.setTop (mkF m 30 #[.val (.ref a1), .val (.ref c1), .val (.int (1 : Int32)), .val (.long (0 : Int64)), .second, .val (.int (0 : Int32))] [(.long (f1 (((2 : Int32) * (u0 &&& (15 : Int32))) + (1 : Int32)))), (.long (0 : Int64))])) _
    refine XS.ladd X103.here hx rfl (hb hby dc14_30) rfl ?_
    show Steps p.tables e below (T103.setTop (mkF m 31 #[.val (.ref a1), .val (.ref c1), .val (.int (1 : Int32)), .val (.long (0 : Int64)), .second, .val (.int (0 : Int32))] [(.long ((0 : Int64) + (f1 (((2 : Int32) * (u0 &&& (15 : Int32))) + (1 : Int32)))))])) _
    refine XS.lstoreN X103.here hx rfl (hb hby dc14_31) rfl (l' := #[.val (.ref a1), .val (.ref c1), .val (.int (1 : Int32)), .val (.long ((0 : Int64) + (f1 (((2 : Int32) * (u0 &&& (15 : Int32))) + (1 : Int32))))), .second, .val (.int (0 : Int32))]) rfl ?_
    show Steps p.tables e below (T103.setTop (mkF m 32 #[.val (.ref a1), .val (.ref c1), .val (.int (1 : Int32)), .val (.long ((0 : Int64) + (f1 (((2 : Int32) * (u0 &&& (15 : Int32))) + (1 : Int32))))), .second, .val (.int (0 : Int32))] [])) _
    refine XS.iinc X103.here hx rfl (hb hby dc14_32) rfl (l' := #[.val (.ref a1), .val (.ref c1), .val (.int (1 : Int32)), .val (.long ((0 : Int64) + (f1 (((2 : Int32) * (u0 &&& (15 : Int32))) + (1 : Int32))))), .second, .val (.int (1 : Int32))]) rfl ?_
    show Steps p.tables e below (T103.setTop (mkF m 35 #[.val (.ref a1), .val (.ref c1), .val (.int (1 : Int32)), .val (.long ((0 : Int64) + (f1 (((2 : Int32) * (u0 &&& (15 : Int32))) + (1 : Int32))))), .second, .val (.int (1 : Int32))] [])) _
    refine XS.goto X103.here hx rfl (pc0 := 35) (pc' := 5) rfl (hb hby dc14_35) (by decide) (by decide) ?_
    show Steps p.tables e below (T103.setTop (mkF m 5 #[.val (.ref a1), .val (.ref c1), .val (.int (1 : Int32)), .val (.long ((0 : Int64) + (f1 (((2 : Int32) * (u0 &&& (15 : Int32))) + (1 : Int32))))), .second, .val (.int (1 : Int32))] [])) _
    refine XS.iload X103.here hx rfl (hb hby dc14_5) rfl ?_
    show Steps p.tables e below (T103.setTop (mkF m 7 #[.val (.ref a1), .val (.ref c1), .val (.int (1 : Int32)), .val (.long ((0 : Int64) + (f1 (((2 : Int32) * (u0 &&& (15 : Int32))) + (1 : Int32))))), .second, .val (.int (1 : Int32))] [(.int (1 : Int32))])) _
    refine XS.iloadN X103.here hx rfl (hb hby dc14_7) rfl ?_
    show Steps p.tables e below (T103.setTop (mkF m 8 #[.val (.ref a1), .val (.ref c1), .val (.int (1 : Int32)), .val (.long ((0 : Int64) + (f1 (((2 : Int32) * (u0 &&& (15 : Int32))) + (1 : Int32))))), .second, .val (.int (1 : Int32))] [(.int (1 : Int32)), (.int (1 : Int32))])) _
    refine XS.icmpYes X103.here hx rfl (pc0 := 8) (pc' := 38) rfl (hb hby dc14_8) rfl (by decide) (by decide) (by decide) ?_
    show Steps p.tables e below (T103.setTop (mkF m 38 #[.val (.ref a1), .val (.ref c1), .val (.int (1 : Int32)), .val (.long ((0 : Int64) + (f1 (((2 : Int32) * (u0 &&& (15 : Int32))) + (1 : Int32))))), .second, .val (.int (1 : Int32))] [])) _
    refine XS.aloadN X103.here hx rfl (hb hby dc14_38) rfl rfl ?_
    show Steps p.tables e below (T103.setTop (mkF m 39 #[.val (.ref a1), .val (.ref c1), .val (.int (1 : Int32)), .val (.long ((0 : Int64) + (f1 (((2 : Int32) * (u0 &&& (15 : Int32))) + (1 : Int32))))), .second, .val (.int (1 : Int32))] [(.ref a1)])) _
    refine XS.dup X103.here hx rfl (hb hby dc14_39) rfl rfl ?_
    show Steps p.tables e below (T103.setTop (mkF m 40 #[.val (.ref a1), .val (.ref c1), .val (.int (1 : Int32)), .val (.long ((0 : Int64) + (f1 (((2 : Int32) * (u0 &&& (15 : Int32))) + (1 : Int32))))), .second, .val (.int (1 : Int32))] [(.ref a1), (.ref a1)])) _
    refine st105 _ ?_
    show Steps p.tables e below (T105.setTop (mkF m 43 #[.val (.ref a1), .val (.ref c1), .val (.int (1 : Int32)), .val (.long ((0 : Int64) + (f1 (((2 : Int32) * (u0 &&& (15 : Int32))) + (1 : Int32))))), .second, .val (.int (1 : Int32))] [(.long p1), (.ref a1)])) _
    refine XS.lloadN X105.here hx rfl (hb hby dc14_43) rfl ?_
    show Steps p.tables e below (T105.setTop (mkF m 44 #[.val (.ref a1), .val (.ref c1), .val (.int (1 : Int32)), .val (.long ((0 : Int64) + (f1 (((2 : Int32) * (u0 &&& (15 : Int32))) + (1 : Int32))))), .second, .val (.int (1 : Int32))] [(.long ((0 : Int64) + (f1 (((2 : Int32) * (u0 &&& (15 : Int32))) + (1 : Int32))))), (.long p1), (.ref a1)])) _
    refine XS.ladd X105.here hx rfl (hb hby dc14_44) rfl ?_
    show Steps p.tables e below (T105.setTop (mkF m 45 #[.val (.ref a1), .val (.ref c1), .val (.int (1 : Int32)), .val (.long ((0 : Int64) + (f1 (((2 : Int32) * (u0 &&& (15 : Int32))) + (1 : Int32))))), .second, .val (.int (1 : Int32))] [(.long (p1 + ((0 : Int64) + (f1 (((2 : Int32) * (u0 &&& (15 : Int32))) + (1 : Int32)))))), (.ref a1)])) _
    refine st106 _ ?_
    show Steps p.tables e below (T106.setTop (mkF m 48 #[.val (.ref a1), .val (.ref c1), .val (.int (1 : Int32)), .val (.long ((0 : Int64) + (f1 (((2 : Int32) * (u0 &&& (15 : Int32))) + (1 : Int32))))), .second, .val (.int (1 : Int32))] [])) _
    exact X106.returnOut hx Bd.returns (hb hby dc14_48) hr
  · show Q_pf Z a1 b1 f1 n1 h0 n0 _ T106.heap _
    rw [e106]
    exact ⟨rfl, N106, K107, _, f108, f109, f110, f111, f112, f113, Fw106⟩
set_option maxRecDepth 65536 in
set_option maxHeartbeats 40000000 in
theorem rmPf2 (l : Launch) (Z : State) (a0 : Array Value) (hw : ∀ d ∈ tables_1, d.before a0 Z = true) (ws : List Jvm.Cond) (a1 b1 c1 : Addr) (k1 : ClassId) (f1 : Int32 → Int64) (n1 u0 u1 u2 : Int32) (p1 : Int64) (h0 : Heap) (n0 : Nat) (O0 : Old Z n0 h0) (Et : Exa Z h0 a1 "com/example/keyfold/keyfold/KeyTable") (Fs : Fld Z h0 a1 "com/example/keyfold/keyfold/KeyTable" "slots" "[J" (.ref b1)) (Fo : Fld Z h0 a1 "com/example/keyfold/keyfold/KeyTable" "others" "[Lcom/example/keyfold/keyfold/Key;" .null) (Fm : Fld Z h0 a1 "com/example/keyfold/keyfold/KeyTable" "mask" "I" (.int (15 : Int32))) (Fz : Fld Z h0 a1 "com/example/keyfold/keyfold/KeyTable" "size" "I" (.int n1)) (Lb : Lv Z h0 b1 32 f1) (Fq : Fld Z h0 a1 "com/example/keyfold/keyfold/KeyTable" "prefetched" "J" (.long p1)) (Va : Arv Z h0 c1 k1 .int (3 : Int32) [(.int u0), (.int u1), (.int u2)] (.int (0 : Int32))) (ne1 : a1 ≠ b1) (ne2 : a1 ≠ c1) (g1 : n0 ≤ a1) :
    MetFree l (⟨"com/example/keyfold/keyfold/KeyTable", "prefetch", "([II)V"⟩ : MethodName) (head1 (Jvm.Cond.code (⟨"com/example/keyfold/keyfold/KeyTable", "prefetch", "([II)V"⟩ : MethodName) prog_58_method_6_code 6 none :: ws) ({ frames := 0, cells := 0, slots := 0, locals := 0 } : Room)) (fun a U => a = #[(.ref a1), (.ref c1), (.int (2 : Int32))] ∧ Z.Warmed39 U.vm ∧ U.heap = h0) (fun _ _ _ _ _ => True) (fun _ U o U' => ∃ v L, o = .returned v ∧ Q_pf Z a1 b1 f1 n1 h0 n0 v U'.heap L ∧ FrameEnd U o U' L ({ frames := 0, cells := 0, slots := 0, locals := 0 } : Room).cells ({ frames := 0, cells := 0, slots := 0, locals := 0 } : Room).slots) := by
  refine MetFree.of_bodySF (plainFor_of_name pn_1) hisR ?_
  intro p e s m args below meth c s₁ Bd hml0 hP hK
  obtain ⟨rfl, hZ, hh⟩ := hP
  have hx := Bd.exec
  have hby := Bd.bytes
  have hml : c.maxLocals = 6 := hml0
  have hown : s.vm.findClass "com/example/keyfold/keyfold/KeyTable" = some m.cls := findClass_of_methodNamed Bd.named
  have hnm := (name_of_methodNamed Bd.named Bd.method).1
  have X0 : Stand p l e ({ frames := 0, cells := 0, slots := 0, locals := 0 } : Room) s m #[(.ref a1), (.ref c1), (.int (2 : Int32))] below meth c s₁ [] 0 0 := Stand.of_body Bd
  have e0 : s₁.heap = h0 := by rw [← hh, Bd.state]; rfl
  have N0 := Fr.nil n0
  have pre0 : ∀ t, Steps p.tables e below (s₁.setTop (mkF m 0 #[.val (.ref a1), .val (.ref c1), .val (.int (2 : Int32)), .unset, .unset, .unset] [])) t → Steps p.tables e below (s₁.setTop (entryFrame m #[(.ref a1), (.ref c1), (.int (2 : Int32))] 6)) t := fun t k => castTop (ef_9 m a1 c1 (2 : Int32)) k
  obtain ⟨T101, X101, e101, st101⟩ := getF X0 hx hZ hown (host := "") (Or.inl (hw _ (List.mem_of_getElem? (i := 29) rfl))) Via.refl e0 Fs (g := (mkF m 13 #[.val (.ref a1), .val (.ref c1), .val (.int (2 : Int32)), .val (.long (0 : Int64)), .second, .val (.int (0 : Int32))] [(.ref a1), (.long (0 : Int64))])) rfl rfl (hb hby dc14_13)
  obtain ⟨cl102, Ar102, q102, S102, N102_, H102, G102⟩ := id Va
  have hin102 : ¬ ((0 : Int32) < 0 ∨ cl102.slots.size ≤ ((0 : Int32)).toNatClampNeg) := inb_of S102 ⟨by decide, by decide⟩
  have hat102 : cl102.slots[((0 : Int32)).toNatClampNeg]? = some (.int u0) := H102.at hin102 rfl
  obtain ⟨T103, X103, e103, st103⟩ := getF X101 hx hZ hown (host := "") (Or.inl (hw _ (List.mem_of_getElem? (i := 33) rfl))) Via.refl e101 Fm (g := (mkF m 22 #[.val (.ref a1), .val (.ref c1), .val (.int (2 : Int32)), .val (.long (0 : Int64)), .second, .val (.int (0 : Int32))] [(.ref a1), (.int u0), (.int (2 : Int32)), (.ref b1), (.long (0 : Int64))])) rfl rfl (hb hby dc14_22)
  obtain ⟨cl104, Ar104, S104, H104⟩ := id Lb
  have hin104 : ¬ ((((2 : Int32) * (u0 &&& (15 : Int32))) + (1 : Int32)) < 0 ∨ cl104.slots.size ≤ ((((2 : Int32) * (u0 &&& (15 : Int32))) + (1 : Int32))).toNatClampNeg) := by rw [S104]; exact (own_b1 (own_a16 _))
  have hat104 : cl104.slots[((((2 : Int32) * (u0 &&& (15 : Int32))) + (1 : Int32))).toNatClampNeg]? = some (.long (f1 (((2 : Int32) * (u0 &&& (15 : Int32))) + (1 : Int32)))) := H104 _ hin104
  obtain ⟨T105, X105, e105, st105⟩ := getF X103 hx hZ hown (host := "") (Or.inl (hw _ (List.mem_of_getElem? (i := 29) rfl))) Via.refl e103 Fs (g := (mkF m 13 #[.val (.ref a1), .val (.ref c1), .val (.int (2 : Int32)), .val (.long ((0 : Int64) + (f1 (((2 : Int32) * (u0 &&& (15 : Int32))) + (1 : Int32))))), .second, .val (.int (1 : Int32))] [(.ref a1), (.long ((0 : Int64) + (f1 (((2 : Int32) * (u0 &&& (15 : Int32))) + (1 : Int32)))))])) rfl rfl (hb hby dc14_13)
  obtain ⟨cl106, Ar106, q106, S106, N106_, H106, G106⟩ := id Va
  have hin106 : ¬ ((1 : Int32) < 0 ∨ cl106.slots.size ≤ ((1 : Int32)).toNatClampNeg) := inb_of S106 ⟨by decide, by decide⟩
  have hat106 : cl106.slots[((1 : Int32)).toNatClampNeg]? = some (.int u1) := H106.at hin106 rfl
  obtain ⟨T107, X107, e107, st107⟩ := getF X105 hx hZ hown (host := "") (Or.inl (hw _ (List.mem_of_getElem? (i := 33) rfl))) Via.refl e105 Fm (g := (mkF m 22 #[.val (.ref a1), .val (.ref c1), .val (.int (2 : Int32)), .val (.long ((0 : Int64) + (f1 (((2 : Int32) * (u0 &&& (15 : Int32))) + (1 : Int32))))), .second, .val (.int (1 : Int32))] [(.ref a1), (.int u1), (.int (2 : Int32)), (.ref b1), (.long ((0 : Int64) + (f1 (((2 : Int32) * (u0 &&& (15 : Int32))) + (1 : Int32)))))])) rfl rfl (hb hby dc14_22)
  obtain ⟨cl108, Ar108, S108, H108⟩ := id Lb
  have hin108 : ¬ ((((2 : Int32) * (u1 &&& (15 : Int32))) + (1 : Int32)) < 0 ∨ cl108.slots.size ≤ ((((2 : Int32) * (u1 &&& (15 : Int32))) + (1 : Int32))).toNatClampNeg) := by rw [S108]; exact (own_b1 (own_a16 _))
  have hat108 : cl108.slots[((((2 : Int32) * (u1 &&& (15 : Int32))) + (1 : Int32))).toNatClampNeg]? = some (.long (f1 (((2 : Int32) * (u1 &&& (15 : Int32))) + (1 : Int32)))) := H108 _ hin108
  obtain ⟨T109, X109, e109, st109⟩ := getF X107 hx hZ hown (host := "") (Or.inl (hw _ (List.mem_of_getElem? (i := 78) rfl))) Via.refl e107 Fq (g := (mkF m 40 #[.val (.ref a1), .val (.ref c1), .val (.int (2 : Int32)), .val (.long (((0 : Int64) + (f1 (((2 : Int32) * (u0 &&& (15 : Int32))) + (1 : Int32)))) + (f1 (((2 : Int32) * (u1 &&& (15 : Int32))) + (1 : Int32))))), .second, .val (.int (2 : Int32))] [(.ref a1), (.ref a1)])) rfl rfl (hb hby dc14_40)
  obtain ⟨T110, h110, X110, e110, W110, st110⟩ := putF X109 hx hZ hown (host := "") (Or.inl (hw _ (List.mem_of_getElem? (i := 78) rfl))) Via.refl e109 Fq Et (Or.inl (hw _ (List.mem_of_getElem? (i := 79) rfl))) (hw _ (List.mem_of_getElem? (i := 17) rfl)) (ty := .long) (by decide) rfl rfl (g := (mkF m 45 #[.val (.ref a1), .val (.ref c1), .val (.int (2 : Int32)), .val (.long (((0 : Int64) + (f1 (((2 : Int32) * (u0 &&& (15 : Int32))) + (1 : Int32)))) + (f1 (((2 : Int32) * (u1 &&& (15 : Int32))) + (1 : Int32))))), .second, .val (.int (2 : Int32))] [(.long (p1 + (((0 : Int64) + (f1 (((2 : Int32) * (u0 &&& (15 : Int32))) + (1 : Int32)))) + (f1 (((2 : Int32) * (u1 &&& (15 : Int32))) + (1 : Int32)))))), (.ref a1)])) rfl rfl (hb hby dc14_45)
  have Fw110 : Fld Z h110 a1 "com/example/keyfold/keyfold/KeyTable" "prefetched" "J" (.long (p1 + (((0 : Int64) + (f1 (((2 : Int32) * (u0 &&& (15 : Int32))) + (1 : Int32)))) + (f1 (((2 : Int32) * (u1 &&& (15 : Int32))) + (1 : Int32)))))) := Fld.same W110 Fq
  have N110 := Fr.snoc X110 N0 g1
  obtain ⟨fs, hr, hrun, hended, hW, hsame⟩ := X110.leave (v := none) (fun _ => rfl)
  have K111 : Keep h0 h110 [a1] := (Keep.wr (Keep.refl h0 [a1]) W110 (Or.inl (List.mem_of_getElem? (i := 0) rfl)))
  have f112 := (Et.wr W110)
  have f113 := (Fs.other W110 (Or.inr (slot_ne (Or.inl (hw _ (List.mem_of_getElem? (i := 30) rfl))) (Or.inl (hw _ (List.mem_of_getElem? (i := 79) rfl))) (by decide) (t := (.array .long)) (t' := .long) (by decide) (by decide))))
  have f114 := (Fo.other W110 (Or.inr (slot_ne (Or.inl (hw _ (List.mem_of_getElem? (i := 32) rfl))) (Or.inl (hw _ (List.mem_of_getElem? (i := 79) rfl))) (by decide) (t := (.array (.object "com/example/keyfold/keyfold/Key"))) (t' := .long) (by decide) (by decide))))
  have f115 := (Fm.other W110 (Or.inr (slot_ne (Or.inl (hw _ (List.mem_of_getElem? (i := 34) rfl))) (Or.inl (hw _ (List.mem_of_getElem? (i := 79) rfl))) (by decide) (t := .int) (t' := .long) (by decide) (by decide))))
  have f116 := (Fz.other W110 (Or.inr (slot_ne (Or.inl (hw _ (List.mem_of_getElem? (i := 36) rfl))) (Or.inl (hw _ (List.mem_of_getElem? (i := 79) rfl))) (by decide) (t := .int) (t' := .long) (by decide) (by decide))))
  have f117 := (Lb.other W110 (Ne.symm ne1))
  refine ⟨_, _, pre0 _ ?_, hrun, hended, _, _, rfl, ?_, ⟨_, rfl⟩, hW, hsame.mono (by decide) (by decide)⟩
  · skip
    show Steps p.tables e below (s₁.setTop (mkF m 0 #[.val (.ref a1), .val (.ref c1), .val (.int (2 : Int32)), .unset, .unset, .unset] [])) _
    refine XS.lconst X0.here hx rfl (hb hby dc14_0) ?_
    show Steps p.tables e below (s₁.setTop (mkF m 1 #[.val (.ref a1), .val (.ref c1), .val (.int (2 : Int32)), .unset, .unset, .unset] [(.long (0 : Int64))])) _
    refine XS.lstoreN X0.here hx rfl (hb hby dc14_1) rfl (l' := #[.val (.ref a1), .val (.ref c1), .val (.int (2 : Int32)), .val (.long (0 : Int64)), .second, .unset]) rfl ?_
    show Steps p.tables e below (s₁.setTop (mkF m 2 #[.val (.ref a1), .val (.ref c1), .val (.int (2 : Int32)), .val (.long (0 : Int64)), .second, .unset] [])) _
    refine XS.iconst X0.here hx rfl (hb hby dc14_2) ?_
    show Steps p.tables e below (s₁.setTop (mkF m 3 #[.val (.ref a1), .val (.ref c1), .val (.int (2 : Int32)), .val (.long (0 : Int64)), .second, .unset] [(.int (0 : Int32))])) _
    refine XS.istore X0.here hx rfl (hb hby dc14_3) rfl (l' := #[.val (.ref a1), .val (.ref c1), .val (.int (2 : Int32)), .val (.long (0 : Int64)), .second, .val (.int (0 : Int32))]) rfl ?_
    show Steps p.tables e below (s₁.setTop (mkF m 5 #[.val (.ref a1), .val (.ref c1), .val (.int (2 : Int32)), .val (.long (0 : Int64)), .second, .val (.int (0 : Int32))] [])) _
    refine XS.iload X0.here hx rfl (hb hby dc14_5) rfl ?_
    show Steps p.tables e below (s₁.setTop (mkF m 7 #[.val (.ref a1), .val (.ref c1), .val (.int (2 : Int32)), .val (.long (0 : Int64)), .second, .val (.int (0 : Int32))] [(.int (0 : Int32))])) _
    refine XS.iloadN X0.here hx rfl (hb hby dc14_7) rfl ?_
    show Steps p.tables e below (s₁.setTop (mkF m 8 #[.val (.ref a1), .val (.ref c1), .val (.int (2 : Int32)), .val (.long (0 : Int64)), .second, .val (.int (0 : Int32))] [(.int (2 : Int32)), (.int (0 : Int32))])) _
    refine XS.icmpNo X0.here hx rfl (hb hby dc14_8) rfl (by decide) ?_
    show Steps p.tables e below (s₁.setTop (mkF m 11 #[.val (.ref a1), .val (.ref c1), .val (.int (2 : Int32)), .val (.long (0 : Int64)), .second, .val (.int (0 : Int32))] [])) _
    refine XS.lloadN X0.here hx rfl (hb hby dc14_11) rfl ?_
    show Steps p.tables e below (s₁.setTop (mkF m 12 #[.val (.ref a1), .val (.ref c1), .val (.int (2 : Int32)), .val (.long (0 : Int64)), .second, .val (.int (0 : Int32))] [(.long (0 : Int64))])) _
    refine XS.aloadN X0.here hx rfl (hb hby dc14_12) rfl rfl ?_
    show Steps p.tables e below (s₁.setTop (mkF m 13 #[.val (.ref a1), .val (.ref c1), .val (.int (2 : Int32)), .val (.long (0 : Int64)), .second, .val (.int (0 : Int32))] [(.ref a1), (.long (0 : Int64))])) _
    refine st101 _ ?_
    show Steps p.tables e below (T101.setTop (mkF m 16 #[.val (.ref a1), .val (.ref c1), .val (.int (2 : Int32)), .val (.long (0 : Int64)), .second, .val (.int (0 : Int32))] [(.ref b1), (.long (0 : Int64))])) _
    refine XS.iconst X101.here hx rfl (hb hby dc14_16) ?_
    show Steps p.tables e below (T101.setTop (mkF m 17 #[.val (.ref a1), .val (.ref c1), .val (.int (2 : Int32)), .val (.long (0 : Int64)), .second, .val (.int (0 : Int32))] [(.int (2 : Int32)), (.ref b1), (.long (0 : Int64))])) _
    refine XS.aloadN X101.here hx rfl (hb hby dc14_17) rfl rfl ?_
    show Steps p.tables e below (T101.setTop (mkF m 18 #[.val (.ref a1), .val (.ref c1), .val (.int (2 : Int32)), .val (.long (0 : Int64)), .second, .val (.int (0 : Int32))] [(.ref c1), (.int (2 : Int32)), (.ref b1), (.long (0 : Int64))])) _
    refine XS.iload X101.here hx rfl (hb hby dc14_18) rfl ?_
    show Steps p.tables e below (T101.setTop (mkF m 20 #[.val (.ref a1), .val (.ref c1), .val (.int (2 : Int32)), .val (.long (0 : Int64)), .second, .val (.int (0 : Int32))] [(.int (0 : Int32)), (.ref c1), (.int (2 : Int32)), (.ref b1), (.long (0 : Int64))])) _
    refine X101.iaload hx (j := (0 : Int32)) (v := (.int u0)) (by rw [e101]; exact Ar102.1) (State.isArrayOf_alike hZ.alike Ar102.2.1) Ar102.2.2 hin102 hat102 (g := (mkF m 20 #[.val (.ref a1), .val (.ref c1), .val (.int (2 : Int32)), .val (.long (0 : Int64)), .second, .val (.int (0 : Int32))] [(.int (0 : Int32)), (.ref c1), (.int (2 : Int32)), (.ref b1), (.long (0 : Int64))])) rfl rfl (hb hby dc14_20) _ ?_
    show Steps p.tables e below (T101.setTop (mkF m 21 #[.val (.ref a1), .val (.ref c1), .val (.int (2 : Int32)), .val (.long (0 : Int64)), .second, .val (.int (0 : Int32))] [(.int u0), (.int (2 : Int32)), (.ref b1), (.long (0 : Int64))])) _
    refine XS.aloadN X101.here hx rfl (hb hby dc14_21) rfl rfl ?_
    show Steps p.tables e below (T101.setTop (mkF m 22 #[.val (.ref a1), .val (.ref c1), .val (.int (2 : Int32)), .val (.long (0 : Int64)), .second, .val (.int (0 : Int32))] [(.ref a1), (.int u0), (.int (2 : Int32)), (.ref b1), (.long (0 : Int64))])) _
    refine st103 _ ?_
    show Steps p.tables e below (T103.setTop (mkF m 25 #[.val (.ref a1), .val (.ref c1), .val (.int (2 : Int32)), .val (.long (0 : Int64)), .second, .val (.int (0 : Int32))] [(.int (15 : Int32)), (.int u0), (.int (2 : Int32)), (.ref b1), (.long (0 : Int64))])) _
    refine XS.iand X103.here hx rfl (hb hby dc14_25) rfl ?_
    show Steps p.tables e below (T103.setTop (mkF m 26 #[.val (.ref a1), .val (.ref c1), .val (.int (2 : Int32)), .val (.long (0 : Int64)), .second, .val (.int (0 : Int32))] [(.int (u0 &&& (15 : Int32))), (.int (2 : Int32)), (.ref b1), (.long (0 : Int64))])) _
    refine XS.imul X103.here hx rfl (hb hby dc14_26) rfl ?_
    show Steps p.tables e below (T103.setTop (mkF m 27 #[.val (.ref a1), .val (.ref c1), .val (.int (2 : Int32)), .val (.long (0 : Int64)), .second, .val (.int (0 : Int32))] [(.int ((2 : Int32) * (u0 &&& (15 : Int32)))), (.ref b1), (.long (0 : Int64))])) _
    refine XS.iconst X103.here hx rfl (hb hby dc14_27) ?_
    show Steps p.tables e below (T103.setTop (mkF m 28 #[.val (.ref a1), .val (.ref c1), .val (.int (2 : Int32)), .val (.long (0 : Int64)), .second, .val (.int (0 : Int32))] [(.int (1 : Int32)), (.int ((2 : Int32) * (u0 &&& (15 : Int32)))), (.ref b1), (.long (0 : Int64))])) _
    refine XS.iadd X103.here hx rfl (hb hby dc14_28) rfl ?_
    show Steps p.tables e below (T103.setTop (mkF m 29 #[.val (.ref a1), .val (.ref c1), .val (.int (2 : Int32)), .val (.long (0 : Int64)), .second, .val (.int (0 : Int32))] [(.int (((2 : Int32) * (u0 &&& (15 : Int32))) + (1 : Int32))), (.ref b1), (.long (0 : Int64))])) _
    refine X103.laload hx (j := (((2 : Int32) * (u0 &&& (15 : Int32))) + (1 : Int32))) (v := (.long (f1 (((2 : Int32) * (u0 &&& (15 : Int32))) + (1 : Int32))))) (by rw [e103]; exact Ar104.1) (State.isArrayOf_alike hZ.alike Ar104.2.1) Ar104.2.2 hin104 hat104 (g := (mkF m 29 #[.val (.ref a1), .val (.ref c1), .val (.int (2 : Int32)), .val (.long (0 : Int64)), .second, .val (.int (0 : Int32))] [(.int (((2 : Int32) * (u0 &&& (15 : Int32))) + (1 : Int32))), (.ref b1), (.long (0 : Int64))])) rfl rfl (hb hby dc14_29) _ ?_
    show Steps p.tables e below (T103.setTop (mkF m 30 #[.val (.ref a1), .val (.ref c1), .val (.int (2 : Int32)), .val (.long (0 : Int64)), .second, .val (.int (0 : Int32))] [(.long (f1 (((2 : Int32) * (u0 &&& (15 : Int32))) + (1 : Int32)))), (.long (0 : Int64))])) _
    refine XS.ladd X103.here hx rfl (hb hby dc14_30) rfl ?_
    show Steps p.tables e below (T103.setTop (mkF m 31 #[.val (.ref a1), .val (.ref c1), .val (.int (2 : Int32)), .val (.long (0 : Int64)), .second, .val (.int (0 : Int32))] [(.long ((0 : Int64) + (f1 (((2 : Int32) * (u0 &&& (15 : Int32))) + (1 : Int32)))))])) _
    refine XS.lstoreN X103.here hx rfl (hb hby dc14_31) rfl (l' := #[.val (.ref a1), .val (.ref c1), .val (.int (2 : Int32)), .val (.long ((0 : Int64) + (f1 (((2 : Int32) * (u0 &&& (15 : Int32))) + (1 : Int32))))), .second, .val (.int (0 : Int32))]) rfl ?_
    show Steps p.tables e below (T103.setTop (mkF m 32 #[.val (.ref a1), .val (.ref c1), .val (.int (2 : Int32)), .val (.long ((0 : Int64) + (f1 (((2 : Int32) * (u0 &&& (15 : Int32))) + (1 : Int32))))), .second, .val (.int (0 : Int32))] [])) _
    refine XS.iinc X103.here hx rfl (hb hby dc14_32) rfl (l' := #[.val (.ref a1), .val (.ref c1), .val (.int (2 : Int32)), .val (.long ((0 : Int64) + (f1 (((2 : Int32) * (u0 &&& (15 : Int32))) + (1 : Int32))))), .second, .val (.int (1 : Int32))]) rfl ?_
    show Steps p.tables e below (T103.setTop (mkF m 35 #[.val (.ref a1), .val (.ref c1), .val (.int (2 : Int32)), .val (.long ((0 : Int64) + (f1 (((2 : Int32) * (u0 &&& (15 : Int32))) + (1 : Int32))))), .second, .val (.int (1 : Int32))] [])) _
    refine XS.goto X103.here hx rfl (pc0 := 35) (pc' := 5) rfl (hb hby dc14_35) (by decide) (by decide) ?_
    show Steps p.tables e below (T103.setTop (mkF m 5 #[.val (.ref a1), .val (.ref c1), .val (.int (2 : Int32)), .val (.long ((0 : Int64) + (f1 (((2 : Int32) * (u0 &&& (15 : Int32))) + (1 : Int32))))), .second, .val (.int (1 : Int32))] [])) _
    refine XS.iload X103.here hx rfl (hb hby dc14_5) rfl ?_
    show Steps p.tables e below (T103.setTop (mkF m 7 #[.val (.ref a1), .val (.ref c1), .val (.int (2 : Int32)), .val (.long ((0 : Int64) + (f1 (((2 : Int32) * (u0 &&& (15 : Int32))) + (1 : Int32))))), .second, .val (.int (1 : Int32))] [(.int (1 : Int32))])) _
    refine XS.iloadN X103.here hx rfl (hb hby dc14_7) rfl ?_
    show Steps p.tables e below (T103.setTop (mkF m 8 #[.val (.ref a1), .val (.ref c1), .val (.int (2 : Int32)), .val (.long ((0 : Int64) + (f1 (((2 : Int32) * (u0 &&& (15 : Int32))) + (1 : Int32))))), .second, .val (.int (1 : Int32))] [(.int (2 : Int32)), (.int (1 : Int32))])) _
    refine XS.icmpNo X103.here hx rfl (hb hby dc14_8) rfl (by decide) ?_
    show Steps p.tables e below (T103.setTop (mkF m 11 #[.val (.ref a1), .val (.ref c1), .val (.int (2 : Int32)), .val (.long ((0 : Int64) + (f1 (((2 : Int32) * (u0 &&& (15 : Int32))) + (1 : Int32))))), .second, .val (.int (1 : Int32))] [])) _
    refine XS.lloadN X103.here hx rfl (hb hby dc14_11) rfl ?_
    show Steps p.tables e below (T103.setTop (mkF m 12 #[.val (.ref a1), .val (.ref c1), .val (.int (2 : Int32)), .val (.long ((0 : Int64) + (f1 (((2 : Int32) * (u0 &&& (15 : Int32))) + (1 : Int32))))), .second, .val (.int (1 : Int32))] [(.long ((0 : Int64) + (f1 (((2 : Int32) * (u0 &&& (15 : Int32))) + (1 : Int32)))))])) _
    refine XS.aloadN X103.here hx rfl (hb hby dc14_12) rfl rfl ?_
    show Steps p.tables e below (T103.setTop (mkF m 13 #[.val (.ref a1), .val (.ref c1), .val (.int (2 : Int32)), .val (.long ((0 : Int64) + (f1 (((2 : Int32) * (u0 &&& (15 : Int32))) + (1 : Int32))))), .second, .val (.int (1 : Int32))] [(.ref a1), (.long ((0 : Int64) + (f1 (((2 : Int32) * (u0 &&& (15 : Int32))) + (1 : Int32)))))])) _
    refine st105 _ ?_
    show Steps p.tables e below (T105.setTop (mkF m 16 #[.val (.ref a1), .val (.ref c1), .val (.int (2 : Int32)), .val (.long ((0 : Int64) + (f1 (((2 : Int32) * (u0 &&& (15 : Int32))) + (1 : Int32))))), .second, .val (.int (1 : Int32))] [(.ref b1), (.long ((0 : Int64) + (f1 (((2 : Int32) * (u0 &&& (15 : Int32))) + (1 : Int32)))))])) _
    refine XS.iconst X105.here hx rfl (hb hby dc14_16) ?_
    show Steps p.tables e below (T105.setTop (mkF m 17 #[.val (.ref a1), .val (.ref c1), .val (.int (2 : Int32)), .val (.long ((0 : Int64) + (f1 (((2 : Int32) * (u0 &&& (15 : Int32))) + (1 : Int32))))), .second, .val (.int (1 : Int32))] [(.int (2 : Int32)), (.ref b1), (.long ((0 : Int64) + (f1 (((2 : Int32) * (u0 &&& (15 : Int32))) + (1 : Int32)))))])) _
    refine XS.aloadN X105.here hx rfl (hb hby dc14_17) rfl rfl ?_
    show Steps p.tables e below (T105.setTop (mkF m 18 #[.val (.ref a1), .val (.ref c1), .val (.int (2 : Int32)), .val (.long ((0 : Int64) + (f1 (((2 : Int32) * (u0 &&& (15 : Int32))) + (1 : Int32))))), .second, .val (.int (1 : Int32))] [(.ref c1), (.int (2 : Int32)), (.ref b1), (.long ((0 : Int64) + (f1 (((2 : Int32) * (u0 &&& (15 : Int32))) + (1 : Int32)))))])) _
    refine XS.iload X105.here hx rfl (hb hby dc14_18) rfl ?_
    show Steps p.tables e below (T105.setTop (mkF m 20 #[.val (.ref a1), .val (.ref c1), .val (.int (2 : Int32)), .val (.long ((0 : Int64) + (f1 (((2 : Int32) * (u0 &&& (15 : Int32))) + (1 : Int32))))), .second, .val (.int (1 : Int32))] [(.int (1 : Int32)), (.ref c1), (.int (2 : Int32)), (.ref b1), (.long ((0 : Int64) + (f1 (((2 : Int32) * (u0 &&& (15 : Int32))) + (1 : Int32)))))])) _
    refine X105.iaload hx (j := (1 : Int32)) (v := (.int u1)) (by rw [e105]; exact Ar106.1) (State.isArrayOf_alike hZ.alike Ar106.2.1) Ar106.2.2 hin106 hat106 (g := (mkF m 20 #[.val (.ref a1), .val (.ref c1), .val (.int (2 : Int32)), .val (.long ((0 : Int64) + (f1 (((2 : Int32) * (u0 &&& (15 : Int32))) + (1 : Int32))))), .second, .val (.int (1 : Int32))] [(.int (1 : Int32)), (.ref c1), (.int (2 : Int32)), (.ref b1), (.long ((0 : Int64) + (f1 (((2 : Int32) * (u0 &&& (15 : Int32))) + (1 : Int32)))))])) rfl rfl (hb hby dc14_20) _ ?_
    show Steps p.tables e below (T105.setTop (mkF m 21 #[.val (.ref a1), .val (.ref c1), .val (.int (2 : Int32)), .val (.long ((0 : Int64) + (f1 (((2 : Int32) * (u0 &&& (15 : Int32))) + (1 : Int32))))), .second, .val (.int (1 : Int32))] [(.int u1), (.int (2 : Int32)), (.ref b1), (.long ((0 : Int64) + (f1 (((2 : Int32) * (u0 &&& (15 : Int32))) + (1 : Int32)))))])) _
    refine XS.aloadN X105.here hx rfl (hb hby dc14_21) rfl rfl ?_
    show Steps p.tables e below (T105.setTop (mkF m 22 #[.val (.ref a1), .val (.ref c1), .val (.int (2 : Int32)), .val (.long ((0 : Int64) + (f1 (((2 : Int32) * (u0 &&& (15 : Int32))) + (1 : Int32))))), .second, .val (.int (1 : Int32))] [(.ref a1), (.int u1), (.int (2 : Int32)), (.ref b1), (.long ((0 : Int64) + (f1 (((2 : Int32) * (u0 &&& (15 : Int32))) + (1 : Int32)))))])) _
    refine st107 _ ?_
    show Steps p.tables e below (T107.setTop (mkF m 25 #[.val (.ref a1), .val (.ref c1), .val (.int (2 : Int32)), .val (.long ((0 : Int64) + (f1 (((2 : Int32) * (u0 &&& (15 : Int32))) + (1 : Int32))))), .second, .val (.int (1 : Int32))] [(.int (15 : Int32)), (.int u1), (.int (2 : Int32)), (.ref b1), (.long ((0 : Int64) + (f1 (((2 : Int32) * (u0 &&& (15 : Int32))) + (1 : Int32)))))])) _
    refine XS.iand X107.here hx rfl (hb hby dc14_25) rfl ?_
    show Steps p.tables e below (T107.setTop (mkF m 26 #[.val (.ref a1), .val (.ref c1), .val (.int (2 : Int32)), .val (.long ((0 : Int64) + (f1 (((2 : Int32) * (u0 &&& (15 : Int32))) + (1 : Int32))))), .second, .val (.int (1 : Int32))] [(.int (u1 &&& (15 : Int32))), (.int (2 : Int32)), (.ref b1), (.long ((0 : Int64) + (f1 (((2 : Int32) * (u0 &&& (15 : Int32))) + (1 : Int32)))))])) _
    refine XS.imul X107.here hx rfl (hb hby dc14_26) rfl ?_
    show Steps p.tables e below (T107.setTop (mkF m 27 #[.val (.ref a1), .val (.ref c1), .val (.int (2 : Int32)), .val (.long ((0 : Int64) + (f1 (((2 : Int32) * (u0 &&& (15 : Int32))) + (1 : Int32))))), .second, .val (.int (1 : Int32))] [(.int ((2 : Int32) * (u1 &&& (15 : Int32)))), (.ref b1), (.long ((0 : Int64) + (f1 (((2 : Int32) * (u0 &&& (15 : Int32))) + (1 : Int32)))))])) _
    refine XS.iconst X107.here hx rfl (hb hby dc14_27) ?_
    show Steps p.tables e below (T107.setTop (mkF m 28 #[.val (.ref a1), .val (.ref c1), .val (.int (2 : Int32)), .val (.long ((0 : Int64) + (f1 (((2 : Int32) * (u0 &&& (15 : Int32))) + (1 : Int32))))), .second, .val (.int (1 : Int32))] [(.int (1 : Int32)), (.int ((2 : Int32) * (u1 &&& (15 : Int32)))), (.ref b1), (.long ((0 : Int64) + (f1 (((2 : Int32) * (u0 &&& (15 : Int32))) + (1 : Int32)))))])) _
    refine XS.iadd X107.here hx rfl (hb hby dc14_28) rfl ?_
    show Steps p.tables e below (T107.setTop (mkF m 29 #[.val (.ref a1), .val (.ref c1), .val (.int (2 : Int32)), .val (.long ((0 : Int64) + (f1 (((2 : Int32) * (u0 &&& (15 : Int32))) + (1 : Int32))))), .second, .val (.int (1 : Int32))] [(.int (((2 : Int32) * (u1 &&& (15 : Int32))) + (1 : Int32))), (.ref b1), (.long ((0 : Int64) + (f1 (((2 : Int32) * (u0 &&& (15 : Int32))) + (1 : Int32)))))])) _
    refine X107.laload hx (j := (((2 : Int32) * (u1 &&& (15 : Int32))) + (1 : Int32))) (v := (.long (f1 (((2 : Int32) * (u1 &&& (15 : Int32))) + (1 : Int32))))) (by rw [e107]; exact Ar108.1) (State.isArrayOf_alike hZ.alike Ar108.2.1) Ar108.2.2 hin108 hat108 (g := (mkF m 29 #[.val (.ref a1), .val (.ref c1), .val (.int (2 : Int32)), .val (.long ((0 : Int64) + (f1 (((2 : Int32) * (u0 &&& (15 : Int32))) + (1 : Int32))))), .second, .val (.int (1 : Int32))] [(.int (((2 : Int32) * (u1 &&& (15 : Int32))) + (1 : Int32))), (.ref b1), (.long ((0 : Int64) + (f1 (((2 : Int32) * (u0 &&& (15 : Int32))) + (1 : Int32)))))])) rfl rfl (hb hby dc14_29) _ ?_
    show Steps p.tables e below (T107.setTop (mkF m 30 #[.val (.ref a1), .val (.ref c1), .val (.int (2 : Int32)), .val (.long ((0 : Int64) + (f1 (((2 : Int32) * (u0 &&& (15 : Int32))) + (1 : Int32))))), .second, .val (.int (1 : Int32))] [(.long (f1 (((2 : Int32) * (u1 &&& (15 : Int32))) + (1 : Int32)))), (.long ((0 : Int64) + (f1 (((2 : Int32) * (u0 &&& (15 : Int32))) + (1 : Int32)))))])) _
    refine XS.ladd X107.here hx rfl (hb hby dc14_30) rfl ?_
    show Steps p.tables e below (T107.setTop (mkF m 31 #[.val (.ref a1), .val (.ref c1), .val (.int (2 : Int32)), .val (.long ((0 : Int64) + (f1 (((2 : Int32) * (u0 &&& (15 : Int32))) + (1 : Int32))))), .second, .val (.int (1 : Int32))] [(.long (((0 : Int64) + (f1 (((2 : Int32) * (u0 &&& (15 : Int32))) + (1 : Int32)))) + (f1 (((2 : Int32) * (u1 &&& (15 : Int32))) + (1 : Int32)))))])) _
    refine XS.lstoreN X107.here hx rfl (hb hby dc14_31) rfl (l' := #[.val (.ref a1), .val (.ref c1), .val (.int (2 : Int32)), .val (.long (((0 : Int64) + (f1 (((2 : Int32) * (u0 &&& (15 : Int32))) + (1 : Int32)))) + (f1 (((2 : Int32) * (u1 &&& (15 : Int32))) + (1 : Int32))))), .second, .val (.int (1 : Int32))]) rfl ?_
    show Steps p.tables e below (T107.setTop (mkF m 32 #[.val (.ref a1), .val (.ref c1), .val (.int (2 : Int32)), .val (.long (((0 : Int64) + (f1 (((2 : Int32) * (u0 &&& (15 : Int32))) + (1 : Int32)))) + (f1 (((2 : Int32) * (u1 &&& (15 : Int32))) + (1 : Int32))))), .second, .val (.int (1 : Int32))] [])) _
    refine XS.iinc X107.here hx rfl (hb hby dc14_32) rfl (l' := #[.val (.ref a1), .val (.ref c1), .val (.int (2 : Int32)), .val (.long (((0 : Int64) + (f1 (((2 : Int32) * (u0 &&& (15 : Int32))) + (1 : Int32)))) + (f1 (((2 : Int32) * (u1 &&& (15 : Int32))) + (1 : Int32))))), .second, .val (.int (2 : Int32))]) rfl ?_
    show Steps p.tables e below (T107.setTop (mkF m 35 #[.val (.ref a1), .val (.ref c1), .val (.int (2 : Int32)), .val (.long (((0 : Int64) + (f1 (((2 : Int32) * (u0 &&& (15 : Int32))) + (1 : Int32)))) + (f1 (((2 : Int32) * (u1 &&& (15 : Int32))) + (1 : Int32))))), .second, .val (.int (2 : Int32))] [])) _
    refine XS.goto X107.here hx rfl (pc0 := 35) (pc' := 5) rfl (hb hby dc14_35) (by decide) (by decide) ?_
    show Steps p.tables e below (T107.setTop (mkF m 5 #[.val (.ref a1), .val (.ref c1), .val (.int (2 : Int32)), .val (.long (((0 : Int64) + (f1 (((2 : Int32) * (u0 &&& (15 : Int32))) + (1 : Int32)))) + (f1 (((2 : Int32) * (u1 &&& (15 : Int32))) + (1 : Int32))))), .second, .val (.int (2 : Int32))] [])) _
    refine XS.iload X107.here hx rfl (hb hby dc14_5) rfl ?_
    show Steps p.tables e below (T107.setTop (mkF m 7 #[.val (.ref a1), .val (.ref c1), .val (.int (2 : Int32)), .val (.long (((0 : Int64) + (f1 (((2 : Int32) * (u0 &&& (15 : Int32))) + (1 : Int32)))) + (f1 (((2 : Int32) * (u1 &&& (15 : Int32))) + (1 : Int32))))), .second, .val (.int (2 : Int32))] [(.int (2 : Int32))])) _
    refine XS.iloadN X107.here hx rfl (hb hby dc14_7) rfl ?_
    show Steps p.tables e below (T107.setTop (mkF m 8 #[.val (.ref a1), .val (.ref c1), .val (.int (2 : Int32)), .val (.long (((0 : Int64) + (f1 (((2 : Int32) * (u0 &&& (15 : Int32))) + (1 : Int32)))) + (f1 (((2 : Int32) * (u1 &&& (15 : Int32))) + (1 : Int32))))), .second, .val (.int (2 : Int32))] [(.int (2 : Int32)), (.int (2 : Int32))])) _
    refine XS.icmpYes X107.here hx rfl (pc0 := 8) (pc' := 38) rfl (hb hby dc14_8) rfl (by decide) (by decide) (by decide) ?_
    show Steps p.tables e below (T107.setTop (mkF m 38 #[.val (.ref a1), .val (.ref c1), .val (.int (2 : Int32)), .val (.long (((0 : Int64) + (f1 (((2 : Int32) * (u0 &&& (15 : Int32))) + (1 : Int32)))) + (f1 (((2 : Int32) * (u1 &&& (15 : Int32))) + (1 : Int32))))), .second, .val (.int (2 : Int32))] [])) _
    refine XS.aloadN X107.here hx rfl (hb hby dc14_38) rfl rfl ?_
    show Steps p.tables e below (T107.setTop (mkF m 39 #[.val (.ref a1), .val (.ref c1), .val (.int (2 : Int32)), .val (.long (((0 : Int64) + (f1 (((2 : Int32) * (u0 &&& (15 : Int32))) + (1 : Int32)))) + (f1 (((2 : Int32) * (u1 &&& (15 : Int32))) + (1 : Int32))))), .second, .val (.int (2 : Int32))] [(.ref a1)])) _
    refine XS.dup X107.here hx rfl (hb hby dc14_39) rfl rfl ?_
    show Steps p.tables e below (T107.setTop (mkF m 40 #[.val (.ref a1), .val (.ref c1), .val (.int (2 : Int32)), .val (.long (((0 : Int64) + (f1 (((2 : Int32) * (u0 &&& (15 : Int32))) + (1 : Int32)))) + (f1 (((2 : Int32) * (u1 &&& (15 : Int32))) + (1 : Int32))))), .second, .val (.int (2 : Int32))] [(.ref a1), (.ref a1)])) _
    refine st109 _ ?_
    show Steps p.tables e below (T109.setTop (mkF m 43 #[.val (.ref a1), .val (.ref c1), .val (.int (2 : Int32)), .val (.long (((0 : Int64) + (f1 (((2 : Int32) * (u0 &&& (15 : Int32))) + (1 : Int32)))) + (f1 (((2 : Int32) * (u1 &&& (15 : Int32))) + (1 : Int32))))), .second, .val (.int (2 : Int32))] [(.long p1), (.ref a1)])) _
    refine XS.lloadN X109.here hx rfl (hb hby dc14_43) rfl ?_
    show Steps p.tables e below (T109.setTop (mkF m 44 #[.val (.ref a1), .val (.ref c1), .val (.int (2 : Int32)), .val (.long (((0 : Int64) + (f1 (((2 : Int32) * (u0 &&& (15 : Int32))) + (1 : Int32)))) + (f1 (((2 : Int32) * (u1 &&& (15 : Int32))) + (1 : Int32))))), .second, .val (.int (2 : Int32))] [(.long (((0 : Int64) + (f1 (((2 : Int32) * (u0 &&& (15 : Int32))) + (1 : Int32)))) + (f1 (((2 : Int32) * (u1 &&& (15 : Int32))) + (1 : Int32))))), (.long p1), (.ref a1)])) _
    refine XS.ladd X109.here hx rfl (hb hby dc14_44) rfl ?_
    show Steps p.tables e below (T109.setTop (mkF m 45 #[.val (.ref a1), .val (.ref c1), .val (.int (2 : Int32)), .val (.long (((0 : Int64) + (f1 (((2 : Int32) * (u0 &&& (15 : Int32))) + (1 : Int32)))) + (f1 (((2 : Int32) * (u1 &&& (15 : Int32))) + (1 : Int32))))), .second, .val (.int (2 : Int32))] [(.long (p1 + (((0 : Int64) + (f1 (((2 : Int32) * (u0 &&& (15 : Int32))) + (1 : Int32)))) + (f1 (((2 : Int32) * (u1 &&& (15 : Int32))) + (1 : Int32)))))), (.ref a1)])) _
    refine st110 _ ?_
    show Steps p.tables e below (T110.setTop (mkF m 48 #[.val (.ref a1), .val (.ref c1), .val (.int (2 : Int32)), .val (.long (((0 : Int64) + (f1 (((2 : Int32) * (u0 &&& (15 : Int32))) + (1 : Int32)))) + (f1 (((2 : Int32) * (u1 &&& (15 : Int32))) + (1 : Int32))))), .second, .val (.int (2 : Int32))] [])) _
    exact X110.returnOut hx Bd.returns (hb hby dc14_48) hr
  · show Q_pf Z a1 b1 f1 n1 h0 n0 _ T110.heap _
    rw [e110]
    exact ⟨rfl, N110, K111, _, f112, f113, f114, f115, f116, f117, Fw110⟩
set_option maxRecDepth 65536 in
set_option maxHeartbeats 40000000 in
theorem rmPf3 (l : Launch) (Z : State) (a0 : Array Value) (hw : ∀ d ∈ tables_1, d.before a0 Z = true) (ws : List Jvm.Cond) (a1 b1 c1 : Addr) (k1 : ClassId) (f1 : Int32 → Int64) (n1 u0 u1 u2 : Int32) (p1 : Int64) (h0 : Heap) (n0 : Nat) (O0 : Old Z n0 h0) (Et : Exa Z h0 a1 "com/example/keyfold/keyfold/KeyTable") (Fs : Fld Z h0 a1 "com/example/keyfold/keyfold/KeyTable" "slots" "[J" (.ref b1)) (Fo : Fld Z h0 a1 "com/example/keyfold/keyfold/KeyTable" "others" "[Lcom/example/keyfold/keyfold/Key;" .null) (Fm : Fld Z h0 a1 "com/example/keyfold/keyfold/KeyTable" "mask" "I" (.int (15 : Int32))) (Fz : Fld Z h0 a1 "com/example/keyfold/keyfold/KeyTable" "size" "I" (.int n1)) (Lb : Lv Z h0 b1 32 f1) (Fq : Fld Z h0 a1 "com/example/keyfold/keyfold/KeyTable" "prefetched" "J" (.long p1)) (Va : Arv Z h0 c1 k1 .int (3 : Int32) [(.int u0), (.int u1), (.int u2)] (.int (0 : Int32))) (ne1 : a1 ≠ b1) (ne2 : a1 ≠ c1) (g1 : n0 ≤ a1) :
    MetFree l (⟨"com/example/keyfold/keyfold/KeyTable", "prefetch", "([II)V"⟩ : MethodName) (head1 (Jvm.Cond.code (⟨"com/example/keyfold/keyfold/KeyTable", "prefetch", "([II)V"⟩ : MethodName) prog_58_method_6_code 6 none :: ws) ({ frames := 0, cells := 0, slots := 0, locals := 0 } : Room)) (fun a U => a = #[(.ref a1), (.ref c1), (.int (3 : Int32))] ∧ Z.Warmed39 U.vm ∧ U.heap = h0) (fun _ _ _ _ _ => True) (fun _ U o U' => ∃ v L, o = .returned v ∧ Q_pf Z a1 b1 f1 n1 h0 n0 v U'.heap L ∧ FrameEnd U o U' L ({ frames := 0, cells := 0, slots := 0, locals := 0 } : Room).cells ({ frames := 0, cells := 0, slots := 0, locals := 0 } : Room).slots) := by
  refine MetFree.of_bodySF (plainFor_of_name pn_1) hisR ?_
  intro p e s m args below meth c s₁ Bd hml0 hP hK
  obtain ⟨rfl, hZ, hh⟩ := hP
  have hx := Bd.exec
  have hby := Bd.bytes
  have hml : c.maxLocals = 6 := hml0
  have hown : s.vm.findClass "com/example/keyfold/keyfold/KeyTable" = some m.cls := findClass_of_methodNamed Bd.named
  have hnm := (name_of_methodNamed Bd.named Bd.method).1
  have X0 : Stand p l e ({ frames := 0, cells := 0, slots := 0, locals := 0 } : Room) s m #[(.ref a1), (.ref c1), (.int (3 : Int32))] below meth c s₁ [] 0 0 := Stand.of_body Bd
  have e0 : s₁.heap = h0 := by rw [← hh, Bd.state]; rfl
  have N0 := Fr.nil n0
  have pre0 : ∀ t, Steps p.tables e below (s₁.setTop (mkF m 0 #[.val (.ref a1), .val (.ref c1), .val (.int (3 : Int32)), .unset, .unset, .unset] [])) t → Steps p.tables e below (s₁.setTop (entryFrame m #[(.ref a1), (.ref c1), (.int (3 : Int32))] 6)) t := fun t k => castTop (ef_9 m a1 c1 (3 : Int32)) k
  obtain ⟨T101, X101, e101, st101⟩ := getF X0 hx hZ hown (host := "") (Or.inl (hw _ (List.mem_of_getElem? (i := 29) rfl))) Via.refl e0 Fs (g := (mkF m 13 #[.val (.ref a1), .val (.ref c1), .val (.int (3 : Int32)), .val (.long (0 : Int64)), .second, .val (.int (0 : Int32))] [(.ref a1), (.long (0 : Int64))])) rfl rfl (hb hby dc14_13)
  obtain ⟨cl102, Ar102, q102, S102, N102_, H102, G102⟩ := id Va
  have hin102 : ¬ ((0 : Int32) < 0 ∨ cl102.slots.size ≤ ((0 : Int32)).toNatClampNeg) := inb_of S102 ⟨by decide, by decide⟩
  have hat102 : cl102.slots[((0 : Int32)).toNatClampNeg]? = some (.int u0) := H102.at hin102 rfl
  obtain ⟨T103, X103, e103, st103⟩ := getF X101 hx hZ hown (host := "") (Or.inl (hw _ (List.mem_of_getElem? (i := 33) rfl))) Via.refl e101 Fm (g := (mkF m 22 #[.val (.ref a1), .val (.ref c1), .val (.int (3 : Int32)), .val (.long (0 : Int64)), .second, .val (.int (0 : Int32))] [(.ref a1), (.int u0), (.int (2 : Int32)), (.ref b1), (.long (0 : Int64))])) rfl rfl (hb hby dc14_22)
  obtain ⟨cl104, Ar104, S104, H104⟩ := id Lb
  have hin104 : ¬ ((((2 : Int32) * (u0 &&& (15 : Int32))) + (1 : Int32)) < 0 ∨ cl104.slots.size ≤ ((((2 : Int32) * (u0 &&& (15 : Int32))) + (1 : Int32))).toNatClampNeg) := by rw [S104]; exact (own_b1 (own_a16 _))
  have hat104 : cl104.slots[((((2 : Int32) * (u0 &&& (15 : Int32))) + (1 : Int32))).toNatClampNeg]? = some (.long (f1 (((2 : Int32) * (u0 &&& (15 : Int32))) + (1 : Int32)))) := H104 _ hin104
  obtain ⟨T105, X105, e105, st105⟩ := getF X103 hx hZ hown (host := "") (Or.inl (hw _ (List.mem_of_getElem? (i := 29) rfl))) Via.refl e103 Fs (g := (mkF m 13 #[.val (.ref a1), .val (.ref c1), .val (.int (3 : Int32)), .val (.long ((0 : Int64) + (f1 (((2 : Int32) * (u0 &&& (15 : Int32))) + (1 : Int32))))), .second, .val (.int (1 : Int32))] [(.ref a1), (.long ((0 : Int64) + (f1 (((2 : Int32) * (u0 &&& (15 : Int32))) + (1 : Int32)))))])) rfl rfl (hb hby dc14_13)
  obtain ⟨cl106, Ar106, q106, S106, N106_, H106, G106⟩ := id Va
  have hin106 : ¬ ((1 : Int32) < 0 ∨ cl106.slots.size ≤ ((1 : Int32)).toNatClampNeg) := inb_of S106 ⟨by decide, by decide⟩
  have hat106 : cl106.slots[((1 : Int32)).toNatClampNeg]? = some (.int u1) := H106.at hin106 rfl
  obtain ⟨T107, X107, e107, st107⟩ := getF X105 hx hZ hown (host := "") (Or.inl (hw _ (List.mem_of_getElem? (i := 33) rfl))) Via.refl e105 Fm (g := (mkF m 22 #[.val (.ref a1), .val (.ref c1), .val (.int (3 : Int32)), .val (.long ((0 : Int64) + (f1 (((2 : Int32) * (u0 &&& (15 : Int32))) + (1 : Int32))))), .second, .val (.int (1 : Int32))] [(.ref a1), (.int u1), (.int (2 : Int32)), (.ref b1), (.long ((0 : Int64) + (f1 (((2 : Int32) * (u0 &&& (15 : Int32))) + (1 : Int32)))))])) rfl rfl (hb hby dc14_22)
  obtain ⟨cl108, Ar108, S108, H108⟩ := id Lb
  have hin108 : ¬ ((((2 : Int32) * (u1 &&& (15 : Int32))) + (1 : Int32)) < 0 ∨ cl108.slots.size ≤ ((((2 : Int32) * (u1 &&& (15 : Int32))) + (1 : Int32))).toNatClampNeg) := by rw [S108]; exact (own_b1 (own_a16 _))
  have hat108 : cl108.slots[((((2 : Int32) * (u1 &&& (15 : Int32))) + (1 : Int32))).toNatClampNeg]? = some (.long (f1 (((2 : Int32) * (u1 &&& (15 : Int32))) + (1 : Int32)))) := H108 _ hin108
  obtain ⟨T109, X109, e109, st109⟩ := getF X107 hx hZ hown (host := "") (Or.inl (hw _ (List.mem_of_getElem? (i := 29) rfl))) Via.refl e107 Fs (g := (mkF m 13 #[.val (.ref a1), .val (.ref c1), .val (.int (3 : Int32)), .val (.long (((0 : Int64) + (f1 (((2 : Int32) * (u0 &&& (15 : Int32))) + (1 : Int32)))) + (f1 (((2 : Int32) * (u1 &&& (15 : Int32))) + (1 : Int32))))), .second, .val (.int (2 : Int32))] [(.ref a1), (.long (((0 : Int64) + (f1 (((2 : Int32) * (u0 &&& (15 : Int32))) + (1 : Int32)))) + (f1 (((2 : Int32) * (u1 &&& (15 : Int32))) + (1 : Int32)))))])) rfl rfl (hb hby dc14_13)
  obtain ⟨cl110, Ar110, q110, S110, N110_, H110, G110⟩ := id Va
  have hin110 : ¬ ((2 : Int32) < 0 ∨ cl110.slots.size ≤ ((2 : Int32)).toNatClampNeg) := inb_of S110 ⟨by decide, by decide⟩
  have hat110 : cl110.slots[((2 : Int32)).toNatClampNeg]? = some (.int u2) := H110.at hin110 rfl
  obtain ⟨T111, X111, e111, st111⟩ := getF X109 hx hZ hown (host := "") (Or.inl (hw _ (List.mem_of_getElem? (i := 33) rfl))) Via.refl e109 Fm (g := (mkF m 22 #[.val (.ref a1), .val (.ref c1), .val (.int (3 : Int32)), .val (.long (((0 : Int64) + (f1 (((2 : Int32) * (u0 &&& (15 : Int32))) + (1 : Int32)))) + (f1 (((2 : Int32) * (u1 &&& (15 : Int32))) + (1 : Int32))))), .second, .val (.int (2 : Int32))] [(.ref a1), (.int u2), (.int (2 : Int32)), (.ref b1), (.long (((0 : Int64) + (f1 (((2 : Int32) * (u0 &&& (15 : Int32))) + (1 : Int32)))) + (f1 (((2 : Int32) * (u1 &&& (15 : Int32))) + (1 : Int32)))))])) rfl rfl (hb hby dc14_22)
  obtain ⟨cl112, Ar112, S112, H112⟩ := id Lb
  have hin112 : ¬ ((((2 : Int32) * (u2 &&& (15 : Int32))) + (1 : Int32)) < 0 ∨ cl112.slots.size ≤ ((((2 : Int32) * (u2 &&& (15 : Int32))) + (1 : Int32))).toNatClampNeg) := by rw [S112]; exact (own_b1 (own_a16 _))
  have hat112 : cl112.slots[((((2 : Int32) * (u2 &&& (15 : Int32))) + (1 : Int32))).toNatClampNeg]? = some (.long (f1 (((2 : Int32) * (u2 &&& (15 : Int32))) + (1 : Int32)))) := H112 _ hin112
  obtain ⟨T113, X113, e113, st113⟩ := getF X111 hx hZ hown (host := "") (Or.inl (hw _ (List.mem_of_getElem? (i := 78) rfl))) Via.refl e111 Fq (g := (mkF m 40 #[.val (.ref a1), .val (.ref c1), .val (.int (3 : Int32)), .val (.long ((((0 : Int64) + (f1 (((2 : Int32) * (u0 &&& (15 : Int32))) + (1 : Int32)))) + (f1 (((2 : Int32) * (u1 &&& (15 : Int32))) + (1 : Int32)))) + (f1 (((2 : Int32) * (u2 &&& (15 : Int32))) + (1 : Int32))))), .second, .val (.int (3 : Int32))] [(.ref a1), (.ref a1)])) rfl rfl (hb hby dc14_40)
  obtain ⟨T114, h114, X114, e114, W114, st114⟩ := putF X113 hx hZ hown (host := "") (Or.inl (hw _ (List.mem_of_getElem? (i := 78) rfl))) Via.refl e113 Fq Et (Or.inl (hw _ (List.mem_of_getElem? (i := 79) rfl))) (hw _ (List.mem_of_getElem? (i := 17) rfl)) (ty := .long) (by decide) rfl rfl (g := (mkF m 45 #[.val (.ref a1), .val (.ref c1), .val (.int (3 : Int32)), .val (.long ((((0 : Int64) + (f1 (((2 : Int32) * (u0 &&& (15 : Int32))) + (1 : Int32)))) + (f1 (((2 : Int32) * (u1 &&& (15 : Int32))) + (1 : Int32)))) + (f1 (((2 : Int32) * (u2 &&& (15 : Int32))) + (1 : Int32))))), .second, .val (.int (3 : Int32))] [(.long (p1 + ((((0 : Int64) + (f1 (((2 : Int32) * (u0 &&& (15 : Int32))) + (1 : Int32)))) + (f1 (((2 : Int32) * (u1 &&& (15 : Int32))) + (1 : Int32)))) + (f1 (((2 : Int32) * (u2 &&& (15 : Int32))) + (1 : Int32)))))), (.ref a1)])) rfl rfl (hb hby dc14_45)
  have Fw114 : Fld Z h114 a1 "com/example/keyfold/keyfold/KeyTable" "prefetched" "J" (.long (p1 + ((((0 : Int64) + (f1 (((2 : Int32) * (u0 &&& (15 : Int32))) + (1 : Int32)))) + (f1 (((2 : Int32) * (u1 &&& (15 : Int32))) + (1 : Int32)))) + (f1 (((2 : Int32) * (u2 &&& (15 : Int32))) + (1 : Int32)))))) := Fld.same W114 Fq
  have N114 := Fr.snoc X114 N0 g1
  obtain ⟨fs, hr, hrun, hended, hW, hsame⟩ := X114.leave (v := none) (fun _ => rfl)
  have K115 : Keep h0 h114 [a1] := (Keep.wr (Keep.refl h0 [a1]) W114 (Or.inl (List.mem_of_getElem? (i := 0) rfl)))
  have f116 := (Et.wr W114)
  have f117 := (Fs.other W114 (Or.inr (slot_ne (Or.inl (hw _ (List.mem_of_getElem? (i := 30) rfl))) (Or.inl (hw _ (List.mem_of_getElem? (i := 79) rfl))) (by decide) (t := (.array .long)) (t' := .long) (by decide) (by decide))))
  have f118 := (Fo.other W114 (Or.inr (slot_ne (Or.inl (hw _ (List.mem_of_getElem? (i := 32) rfl))) (Or.inl (hw _ (List.mem_of_getElem? (i := 79) rfl))) (by decide) (t := (.array (.object "com/example/keyfold/keyfold/Key"))) (t' := .long) (by decide) (by decide))))
  have f119 := (Fm.other W114 (Or.inr (slot_ne (Or.inl (hw _ (List.mem_of_getElem? (i := 34) rfl))) (Or.inl (hw _ (List.mem_of_getElem? (i := 79) rfl))) (by decide) (t := .int) (t' := .long) (by decide) (by decide))))
  have f120 := (Fz.other W114 (Or.inr (slot_ne (Or.inl (hw _ (List.mem_of_getElem? (i := 36) rfl))) (Or.inl (hw _ (List.mem_of_getElem? (i := 79) rfl))) (by decide) (t := .int) (t' := .long) (by decide) (by decide))))
  have f121 := (Lb.other W114 (Ne.symm ne1))
  refine ⟨_, _, pre0 _ ?_, hrun, hended, _, _, rfl, ?_, ⟨_, rfl⟩, hW, hsame.mono (by decide) (by decide)⟩
  · skip
    show Steps p.tables e below (s₁.setTop (mkF m 0 #[.val (.ref a1), .val (.ref c1), .val (.int (3 : Int32)), .unset, .unset, .unset] [])) _
    refine XS.lconst X0.here hx rfl (hb hby dc14_0) ?_
    show Steps p.tables e below (s₁.setTop (mkF m 1 #[.val (.ref a1), .val (.ref c1), .val (.int (3 : Int32)), .unset, .unset, .unset] [(.long (0 : Int64))])) _
    refine XS.lstoreN X0.here hx rfl (hb hby dc14_1) rfl (l' := #[.val (.ref a1), .val (.ref c1), .val (.int (3 : Int32)), .val (.long (0 : Int64)), .second, .unset]) rfl ?_
    show Steps p.tables e below (s₁.setTop (mkF m 2 #[.val (.ref a1), .val (.ref c1), .val (.int (3 : Int32)), .val (.long (0 : Int64)), .second, .unset] [])) _
    refine XS.iconst X0.here hx rfl (hb hby dc14_2) ?_
    show Steps p.tables e below (s₁.setTop (mkF m 3 #[.val (.ref a1), .val (.ref c1), .val (.int (3 : Int32)), .val (.long (0 : Int64)), .second, .unset] [(.int (0 : Int32))])) _
    refine XS.istore X0.here hx rfl (hb hby dc14_3) rfl (l' := #[.val (.ref a1), .val (.ref c1), .val (.int (3 : Int32)), .val (.long (0 : Int64)), .second, .val (.int (0 : Int32))]) rfl ?_
    show Steps p.tables e below (s₁.setTop (mkF m 5 #[.val (.ref a1), .val (.ref c1), .val (.int (3 : Int32)), .val (.long (0 : Int64)), .second, .val (.int (0 : Int32))] [])) _
    refine XS.iload X0.here hx rfl (hb hby dc14_5) rfl ?_
    show Steps p.tables e below (s₁.setTop (mkF m 7 #[.val (.ref a1), .val (.ref c1), .val (.int (3 : Int32)), .val (.long (0 : Int64)), .second, .val (.int (0 : Int32))] [(.int (0 : Int32))])) _
    refine XS.iloadN X0.here hx rfl (hb hby dc14_7) rfl ?_
    show Steps p.tables e below (s₁.setTop (mkF m 8 #[.val (.ref a1), .val (.ref c1), .val (.int (3 : Int32)), .val (.long (0 : Int64)), .second, .val (.int (0 : Int32))] [(.int (3 : Int32)), (.int (0 : Int32))])) _
    refine XS.icmpNo X0.here hx rfl (hb hby dc14_8) rfl (by decide) ?_
    show Steps p.tables e below (s₁.setTop (mkF m 11 #[.val (.ref a1), .val (.ref c1), .val (.int (3 : Int32)), .val (.long (0 : Int64)), .second, .val (.int (0 : Int32))] [])) _
    refine XS.lloadN X0.here hx rfl (hb hby dc14_11) rfl ?_
    show Steps p.tables e below (s₁.setTop (mkF m 12 #[.val (.ref a1), .val (.ref c1), .val (.int (3 : Int32)), .val (.long (0 : Int64)), .second, .val (.int (0 : Int32))] [(.long (0 : Int64))])) _
    refine XS.aloadN X0.here hx rfl (hb hby dc14_12) rfl rfl ?_
    show Steps p.tables e below (s₁.setTop (mkF m 13 #[.val (.ref a1), .val (.ref c1), .val (.int (3 : Int32)), .val (.long (0 : Int64)), .second, .val (.int (0 : Int32))] [(.ref a1), (.long (0 : Int64))])) _
    refine st101 _ ?_
    show Steps p.tables e below (T101.setTop (mkF m 16 #[.val (.ref a1), .val (.ref c1), .val (.int (3 : Int32)), .val (.long (0 : Int64)), .second, .val (.int (0 : Int32))] [(.ref b1), (.long (0 : Int64))])) _
    refine XS.iconst X101.here hx rfl (hb hby dc14_16) ?_
    show Steps p.tables e below (T101.setTop (mkF m 17 #[.val (.ref a1), .val (.ref c1), .val (.int (3 : Int32)), .val (.long (0 : Int64)), .second, .val (.int (0 : Int32))] [(.int (2 : Int32)), (.ref b1), (.long (0 : Int64))])) _
    refine XS.aloadN X101.here hx rfl (hb hby dc14_17) rfl rfl ?_
    show Steps p.tables e below (T101.setTop (mkF m 18 #[.val (.ref a1), .val (.ref c1), .val (.int (3 : Int32)), .val (.long (0 : Int64)), .second, .val (.int (0 : Int32))] [(.ref c1), (.int (2 : Int32)), (.ref b1), (.long (0 : Int64))])) _
    refine XS.iload X101.here hx rfl (hb hby dc14_18) rfl ?_
    show Steps p.tables e below (T101.setTop (mkF m 20 #[.val (.ref a1), .val (.ref c1), .val (.int (3 : Int32)), .val (.long (0 : Int64)), .second, .val (.int (0 : Int32))] [(.int (0 : Int32)), (.ref c1), (.int (2 : Int32)), (.ref b1), (.long (0 : Int64))])) _
    refine X101.iaload hx (j := (0 : Int32)) (v := (.int u0)) (by rw [e101]; exact Ar102.1) (State.isArrayOf_alike hZ.alike Ar102.2.1) Ar102.2.2 hin102 hat102 (g := (mkF m 20 #[.val (.ref a1), .val (.ref c1), .val (.int (3 : Int32)), .val (.long (0 : Int64)), .second, .val (.int (0 : Int32))] [(.int (0 : Int32)), (.ref c1), (.int (2 : Int32)), (.ref b1), (.long (0 : Int64))])) rfl rfl (hb hby dc14_20) _ ?_
    show Steps p.tables e below (T101.setTop (mkF m 21 #[.val (.ref a1), .val (.ref c1), .val (.int (3 : Int32)), .val (.long (0 : Int64)), .second, .val (.int (0 : Int32))] [(.int u0), (.int (2 : Int32)), (.ref b1), (.long (0 : Int64))])) _
    refine XS.aloadN X101.here hx rfl (hb hby dc14_21) rfl rfl ?_
    show Steps p.tables e below (T101.setTop (mkF m 22 #[.val (.ref a1), .val (.ref c1), .val (.int (3 : Int32)), .val (.long (0 : Int64)), .second, .val (.int (0 : Int32))] [(.ref a1), (.int u0), (.int (2 : Int32)), (.ref b1), (.long (0 : Int64))])) _
    refine st103 _ ?_
    show Steps p.tables e below (T103.setTop (mkF m 25 #[.val (.ref a1), .val (.ref c1), .val (.int (3 : Int32)), .val (.long (0 : Int64)), .second, .val (.int (0 : Int32))] [(.int (15 : Int32)), (.int u0), (.int (2 : Int32)), (.ref b1), (.long (0 : Int64))])) _
    refine XS.iand X103.here hx rfl (hb hby dc14_25) rfl ?_
    show Steps p.tables e below (T103.setTop (mkF m 26 #[.val (.ref a1), .val (.ref c1), .val (.int (3 : Int32)), .val (.long (0 : Int64)), .second, .val (.int (0 : Int32))] [(.int (u0 &&& (15 : Int32))), (.int (2 : Int32)), (.ref b1), (.long (0 : Int64))])) _
    refine XS.imul X103.here hx rfl (hb hby dc14_26) rfl ?_
    show Steps p.tables e below (T103.setTop (mkF m 27 #[.val (.ref a1), .val (.ref c1), .val (.int (3 : Int32)), .val (.long (0 : Int64)), .second, .val (.int (0 : Int32))] [(.int ((2 : Int32) * (u0 &&& (15 : Int32)))), (.ref b1), (.long (0 : Int64))])) _
    refine XS.iconst X103.here hx rfl (hb hby dc14_27) ?_
    show Steps p.tables e below (T103.setTop (mkF m 28 #[.val (.ref a1), .val (.ref c1), .val (.int (3 : Int32)), .val (.long (0 : Int64)), .second, .val (.int (0 : Int32))] [(.int (1 : Int32)), (.int ((2 : Int32) * (u0 &&& (15 : Int32)))), (.ref b1), (.long (0 : Int64))])) _
    refine XS.iadd X103.here hx rfl (hb hby dc14_28) rfl ?_
    show Steps p.tables e below (T103.setTop (mkF m 29 #[.val (.ref a1), .val (.ref c1), .val (.int (3 : Int32)), .val (.long (0 : Int64)), .second, .val (.int (0 : Int32))] [(.int (((2 : Int32) * (u0 &&& (15 : Int32))) + (1 : Int32))), (.ref b1), (.long (0 : Int64))])) _
    refine X103.laload hx (j := (((2 : Int32) * (u0 &&& (15 : Int32))) + (1 : Int32))) (v := (.long (f1 (((2 : Int32) * (u0 &&& (15 : Int32))) + (1 : Int32))))) (by rw [e103]; exact Ar104.1) (State.isArrayOf_alike hZ.alike Ar104.2.1) Ar104.2.2 hin104 hat104 (g := (mkF m 29 #[.val (.ref a1), .val (.ref c1), .val (.int (3 : Int32)), .val (.long (0 : Int64)), .second, .val (.int (0 : Int32))] [(.int (((2 : Int32) * (u0 &&& (15 : Int32))) + (1 : Int32))), (.ref b1), (.long (0 : Int64))])) rfl rfl (hb hby dc14_29) _ ?_
    show Steps p.tables e below (T103.setTop (mkF m 30 #[.val (.ref a1), .val (.ref c1), .val (.int (3 : Int32)), .val (.long (0 : Int64)), .second, .val (.int (0 : Int32))] [(.long (f1 (((2 : Int32) * (u0 &&& (15 : Int32))) + (1 : Int32)))), (.long (0 : Int64))])) _
    refine XS.ladd X103.here hx rfl (hb hby dc14_30) rfl ?_
    show Steps p.tables e below (T103.setTop (mkF m 31 #[.val (.ref a1), .val (.ref c1), .val (.int (3 : Int32)), .val (.long (0 : Int64)), .second, .val (.int (0 : Int32))] [(.long ((0 : Int64) + (f1 (((2 : Int32) * (u0 &&& (15 : Int32))) + (1 : Int32)))))])) _
    refine XS.lstoreN X103.here hx rfl (hb hby dc14_31) rfl (l' := #[.val (.ref a1), .val (.ref c1), .val (.int (3 : Int32)), .val (.long ((0 : Int64) + (f1 (((2 : Int32) * (u0 &&& (15 : Int32))) + (1 : Int32))))), .second, .val (.int (0 : Int32))]) rfl ?_
    show Steps p.tables e below (T103.setTop (mkF m 32 #[.val (.ref a1), .val (.ref c1), .val (.int (3 : Int32)), .val (.long ((0 : Int64) + (f1 (((2 : Int32) * (u0 &&& (15 : Int32))) + (1 : Int32))))), .second, .val (.int (0 : Int32))] [])) _
    refine XS.iinc X103.here hx rfl (hb hby dc14_32) rfl (l' := #[.val (.ref a1), .val (.ref c1), .val (.int (3 : Int32)), .val (.long ((0 : Int64) + (f1 (((2 : Int32) * (u0 &&& (15 : Int32))) + (1 : Int32))))), .second, .val (.int (1 : Int32))]) rfl ?_
    show Steps p.tables e below (T103.setTop (mkF m 35 #[.val (.ref a1), .val (.ref c1), .val (.int (3 : Int32)), .val (.long ((0 : Int64) + (f1 (((2 : Int32) * (u0 &&& (15 : Int32))) + (1 : Int32))))), .second, .val (.int (1 : Int32))] [])) _
    refine XS.goto X103.here hx rfl (pc0 := 35) (pc' := 5) rfl (hb hby dc14_35) (by decide) (by decide) ?_
    show Steps p.tables e below (T103.setTop (mkF m 5 #[.val (.ref a1), .val (.ref c1), .val (.int (3 : Int32)), .val (.long ((0 : Int64) + (f1 (((2 : Int32) * (u0 &&& (15 : Int32))) + (1 : Int32))))), .second, .val (.int (1 : Int32))] [])) _
    refine XS.iload X103.here hx rfl (hb hby dc14_5) rfl ?_
    show Steps p.tables e below (T103.setTop (mkF m 7 #[.val (.ref a1), .val (.ref c1), .val (.int (3 : Int32)), .val (.long ((0 : Int64) + (f1 (((2 : Int32) * (u0 &&& (15 : Int32))) + (1 : Int32))))), .second, .val (.int (1 : Int32))] [(.int (1 : Int32))])) _
    refine XS.iloadN X103.here hx rfl (hb hby dc14_7) rfl ?_
    show Steps p.tables e below (T103.setTop (mkF m 8 #[.val (.ref a1), .val (.ref c1), .val (.int (3 : Int32)), .val (.long ((0 : Int64) + (f1 (((2 : Int32) * (u0 &&& (15 : Int32))) + (1 : Int32))))), .second, .val (.int (1 : Int32))] [(.int (3 : Int32)), (.int (1 : Int32))])) _
    refine XS.icmpNo X103.here hx rfl (hb hby dc14_8) rfl (by decide) ?_
    show Steps p.tables e below (T103.setTop (mkF m 11 #[.val (.ref a1), .val (.ref c1), .val (.int (3 : Int32)), .val (.long ((0 : Int64) + (f1 (((2 : Int32) * (u0 &&& (15 : Int32))) + (1 : Int32))))), .second, .val (.int (1 : Int32))] [])) _
    refine XS.lloadN X103.here hx rfl (hb hby dc14_11) rfl ?_
    show Steps p.tables e below (T103.setTop (mkF m 12 #[.val (.ref a1), .val (.ref c1), .val (.int (3 : Int32)), .val (.long ((0 : Int64) + (f1 (((2 : Int32) * (u0 &&& (15 : Int32))) + (1 : Int32))))), .second, .val (.int (1 : Int32))] [(.long ((0 : Int64) + (f1 (((2 : Int32) * (u0 &&& (15 : Int32))) + (1 : Int32)))))])) _
    refine XS.aloadN X103.here hx rfl (hb hby dc14_12) rfl rfl ?_
    show Steps p.tables e below (T103.setTop (mkF m 13 #[.val (.ref a1), .val (.ref c1), .val (.int (3 : Int32)), .val (.long ((0 : Int64) + (f1 (((2 : Int32) * (u0 &&& (15 : Int32))) + (1 : Int32))))), .second, .val (.int (1 : Int32))] [(.ref a1), (.long ((0 : Int64) + (f1 (((2 : Int32) * (u0 &&& (15 : Int32))) + (1 : Int32)))))])) _
    refine st105 _ ?_
    show Steps p.tables e below (T105.setTop (mkF m 16 #[.val (.ref a1), .val (.ref c1), .val (.int (3 : Int32)), .val (.long ((0 : Int64) + (f1 (((2 : Int32) * (u0 &&& (15 : Int32))) + (1 : Int32))))), .second, .val (.int (1 : Int32))] [(.ref b1), (.long ((0 : Int64) + (f1 (((2 : Int32) * (u0 &&& (15 : Int32))) + (1 : Int32)))))])) _
    refine XS.iconst X105.here hx rfl (hb hby dc14_16) ?_
    show Steps p.tables e below (T105.setTop (mkF m 17 #[.val (.ref a1), .val (.ref c1), .val (.int (3 : Int32)), .val (.long ((0 : Int64) + (f1 (((2 : Int32) * (u0 &&& (15 : Int32))) + (1 : Int32))))), .second, .val (.int (1 : Int32))] [(.int (2 : Int32)), (.ref b1), (.long ((0 : Int64) + (f1 (((2 : Int32) * (u0 &&& (15 : Int32))) + (1 : Int32)))))])) _
    refine XS.aloadN X105.here hx rfl (hb hby dc14_17) rfl rfl ?_
    show Steps p.tables e below (T105.setTop (mkF m 18 #[.val (.ref a1), .val (.ref c1), .val (.int (3 : Int32)), .val (.long ((0 : Int64) + (f1 (((2 : Int32) * (u0 &&& (15 : Int32))) + (1 : Int32))))), .second, .val (.int (1 : Int32))] [(.ref c1), (.int (2 : Int32)), (.ref b1), (.long ((0 : Int64) + (f1 (((2 : Int32) * (u0 &&& (15 : Int32))) + (1 : Int32)))))])) _
    refine XS.iload X105.here hx rfl (hb hby dc14_18) rfl ?_
    show Steps p.tables e below (T105.setTop (mkF m 20 #[.val (.ref a1), .val (.ref c1), .val (.int (3 : Int32)), .val (.long ((0 : Int64) + (f1 (((2 : Int32) * (u0 &&& (15 : Int32))) + (1 : Int32))))), .second, .val (.int (1 : Int32))] [(.int (1 : Int32)), (.ref c1), (.int (2 : Int32)), (.ref b1), (.long ((0 : Int64) + (f1 (((2 : Int32) * (u0 &&& (15 : Int32))) + (1 : Int32)))))])) _
    refine X105.iaload hx (j := (1 : Int32)) (v := (.int u1)) (by rw [e105]; exact Ar106.1) (State.isArrayOf_alike hZ.alike Ar106.2.1) Ar106.2.2 hin106 hat106 (g := (mkF m 20 #[.val (.ref a1), .val (.ref c1), .val (.int (3 : Int32)), .val (.long ((0 : Int64) + (f1 (((2 : Int32) * (u0 &&& (15 : Int32))) + (1 : Int32))))), .second, .val (.int (1 : Int32))] [(.int (1 : Int32)), (.ref c1), (.int (2 : Int32)), (.ref b1), (.long ((0 : Int64) + (f1 (((2 : Int32) * (u0 &&& (15 : Int32))) + (1 : Int32)))))])) rfl rfl (hb hby dc14_20) _ ?_
    show Steps p.tables e below (T105.setTop (mkF m 21 #[.val (.ref a1), .val (.ref c1), .val (.int (3 : Int32)), .val (.long ((0 : Int64) + (f1 (((2 : Int32) * (u0 &&& (15 : Int32))) + (1 : Int32))))), .second, .val (.int (1 : Int32))] [(.int u1), (.int (2 : Int32)), (.ref b1), (.long ((0 : Int64) + (f1 (((2 : Int32) * (u0 &&& (15 : Int32))) + (1 : Int32)))))])) _
    refine XS.aloadN X105.here hx rfl (hb hby dc14_21) rfl rfl ?_
    show Steps p.tables e below (T105.setTop (mkF m 22 #[.val (.ref a1), .val (.ref c1), .val (.int (3 : Int32)), .val (.long ((0 : Int64) + (f1 (((2 : Int32) * (u0 &&& (15 : Int32))) + (1 : Int32))))), .second, .val (.int (1 : Int32))] [(.ref a1), (.int u1), (.int (2 : Int32)), (.ref b1), (.long ((0 : Int64) + (f1 (((2 : Int32) * (u0 &&& (15 : Int32))) + (1 : Int32)))))])) _
    refine st107 _ ?_
    show Steps p.tables e below (T107.setTop (mkF m 25 #[.val (.ref a1), .val (.ref c1), .val (.int (3 : Int32)), .val (.long ((0 : Int64) + (f1 (((2 : Int32) * (u0 &&& (15 : Int32))) + (1 : Int32))))), .second, .val (.int (1 : Int32))] [(.int (15 : Int32)), (.int u1), (.int (2 : Int32)), (.ref b1), (.long ((0 : Int64) + (f1 (((2 : Int32) * (u0 &&& (15 : Int32))) + (1 : Int32)))))])) _
    refine XS.iand X107.here hx rfl (hb hby dc14_25) rfl ?_
    show Steps p.tables e below (T107.setTop (mkF m 26 #[.val (.ref a1), .val (.ref c1), .val (.int (3 : Int32)), .val (.long ((0 : Int64) + (f1 (((2 : Int32) * (u0 &&& (15 : Int32))) + (1 : Int32))))), .second, .val (.int (1 : Int32))] [(.int (u1 &&& (15 : Int32))), (.int (2 : Int32)), (.ref b1), (.long ((0 : Int64) + (f1 (((2 : Int32) * (u0 &&& (15 : Int32))) + (1 : Int32)))))])) _
    refine XS.imul X107.here hx rfl (hb hby dc14_26) rfl ?_
    show Steps p.tables e below (T107.setTop (mkF m 27 #[.val (.ref a1), .val (.ref c1), .val (.int (3 : Int32)), .val (.long ((0 : Int64) + (f1 (((2 : Int32) * (u0 &&& (15 : Int32))) + (1 : Int32))))), .second, .val (.int (1 : Int32))] [(.int ((2 : Int32) * (u1 &&& (15 : Int32)))), (.ref b1), (.long ((0 : Int64) + (f1 (((2 : Int32) * (u0 &&& (15 : Int32))) + (1 : Int32)))))])) _
    refine XS.iconst X107.here hx rfl (hb hby dc14_27) ?_
    show Steps p.tables e below (T107.setTop (mkF m 28 #[.val (.ref a1), .val (.ref c1), .val (.int (3 : Int32)), .val (.long ((0 : Int64) + (f1 (((2 : Int32) * (u0 &&& (15 : Int32))) + (1 : Int32))))), .second, .val (.int (1 : Int32))] [(.int (1 : Int32)), (.int ((2 : Int32) * (u1 &&& (15 : Int32)))), (.ref b1), (.long ((0 : Int64) + (f1 (((2 : Int32) * (u0 &&& (15 : Int32))) + (1 : Int32)))))])) _
    refine XS.iadd X107.here hx rfl (hb hby dc14_28) rfl ?_
    show Steps p.tables e below (T107.setTop (mkF m 29 #[.val (.ref a1), .val (.ref c1), .val (.int (3 : Int32)), .val (.long ((0 : Int64) + (f1 (((2 : Int32) * (u0 &&& (15 : Int32))) + (1 : Int32))))), .second, .val (.int (1 : Int32))] [(.int (((2 : Int32) * (u1 &&& (15 : Int32))) + (1 : Int32))), (.ref b1), (.long ((0 : Int64) + (f1 (((2 : Int32) * (u0 &&& (15 : Int32))) + (1 : Int32)))))])) _
    refine X107.laload hx (j := (((2 : Int32) * (u1 &&& (15 : Int32))) + (1 : Int32))) (v := (.long (f1 (((2 : Int32) * (u1 &&& (15 : Int32))) + (1 : Int32))))) (by rw [e107]; exact Ar108.1) (State.isArrayOf_alike hZ.alike Ar108.2.1) Ar108.2.2 hin108 hat108 (g := (mkF m 29 #[.val (.ref a1), .val (.ref c1), .val (.int (3 : Int32)), .val (.long ((0 : Int64) + (f1 (((2 : Int32) * (u0 &&& (15 : Int32))) + (1 : Int32))))), .second, .val (.int (1 : Int32))] [(.int (((2 : Int32) * (u1 &&& (15 : Int32))) + (1 : Int32))), (.ref b1), (.long ((0 : Int64) + (f1 (((2 : Int32) * (u0 &&& (15 : Int32))) + (1 : Int32)))))])) rfl rfl (hb hby dc14_29) _ ?_
    show Steps p.tables e below (T107.setTop (mkF m 30 #[.val (.ref a1), .val (.ref c1), .val (.int (3 : Int32)), .val (.long ((0 : Int64) + (f1 (((2 : Int32) * (u0 &&& (15 : Int32))) + (1 : Int32))))), .second, .val (.int (1 : Int32))] [(.long (f1 (((2 : Int32) * (u1 &&& (15 : Int32))) + (1 : Int32)))), (.long ((0 : Int64) + (f1 (((2 : Int32) * (u0 &&& (15 : Int32))) + (1 : Int32)))))])) _
    refine XS.ladd X107.here hx rfl (hb hby dc14_30) rfl ?_
    show Steps p.tables e below (T107.setTop (mkF m 31 #[.val (.ref a1), .val (.ref c1), .val (.int (3 : Int32)), .val (.long ((0 : Int64) + (f1 (((2 : Int32) * (u0 &&& (15 : Int32))) + (1 : Int32))))), .second, .val (.int (1 : Int32))] [(.long (((0 : Int64) + (f1 (((2 : Int32) * (u0 &&& (15 : Int32))) + (1 : Int32)))) + (f1 (((2 : Int32) * (u1 &&& (15 : Int32))) + (1 : Int32)))))])) _
    refine XS.lstoreN X107.here hx rfl (hb hby dc14_31) rfl (l' := #[.val (.ref a1), .val (.ref c1), .val (.int (3 : Int32)), .val (.long (((0 : Int64) + (f1 (((2 : Int32) * (u0 &&& (15 : Int32))) + (1 : Int32)))) + (f1 (((2 : Int32) * (u1 &&& (15 : Int32))) + (1 : Int32))))), .second, .val (.int (1 : Int32))]) rfl ?_
    show Steps p.tables e below (T107.setTop (mkF m 32 #[.val (.ref a1), .val (.ref c1), .val (.int (3 : Int32)), .val (.long (((0 : Int64) + (f1 (((2 : Int32) * (u0 &&& (15 : Int32))) + (1 : Int32)))) + (f1 (((2 : Int32) * (u1 &&& (15 : Int32))) + (1 : Int32))))), .second, .val (.int (1 : Int32))] [])) _
    refine XS.iinc X107.here hx rfl (hb hby dc14_32) rfl (l' := #[.val (.ref a1), .val (.ref c1), .val (.int (3 : Int32)), .val (.long (((0 : Int64) + (f1 (((2 : Int32) * (u0 &&& (15 : Int32))) + (1 : Int32)))) + (f1 (((2 : Int32) * (u1 &&& (15 : Int32))) + (1 : Int32))))), .second, .val (.int (2 : Int32))]) rfl ?_
    show Steps p.tables e below (T107.setTop (mkF m 35 #[.val (.ref a1), .val (.ref c1), .val (.int (3 : Int32)), .val (.long (((0 : Int64) + (f1 (((2 : Int32) * (u0 &&& (15 : Int32))) + (1 : Int32)))) + (f1 (((2 : Int32) * (u1 &&& (15 : Int32))) + (1 : Int32))))), .second, .val (.int (2 : Int32))] [])) _
    refine XS.goto X107.here hx rfl (pc0 := 35) (pc' := 5) rfl (hb hby dc14_35) (by decide) (by decide) ?_
    show Steps p.tables e below (T107.setTop (mkF m 5 #[.val (.ref a1), .val (.ref c1), .val (.int (3 : Int32)), .val (.long (((0 : Int64) + (f1 (((2 : Int32) * (u0 &&& (15 : Int32))) + (1 : Int32)))) + (f1 (((2 : Int32) * (u1 &&& (15 : Int32))) + (1 : Int32))))), .second, .val (.int (2 : Int32))] [])) _
    refine XS.iload X107.here hx rfl (hb hby dc14_5) rfl ?_
    show Steps p.tables e below (T107.setTop (mkF m 7 #[.val (.ref a1), .val (.ref c1), .val (.int (3 : Int32)), .val (.long (((0 : Int64) + (f1 (((2 : Int32) * (u0 &&& (15 : Int32))) + (1 : Int32)))) + (f1 (((2 : Int32) * (u1 &&& (15 : Int32))) + (1 : Int32))))), .second, .val (.int (2 : Int32))] [(.int (2 : Int32))])) _
    refine XS.iloadN X107.here hx rfl (hb hby dc14_7) rfl ?_
    show Steps p.tables e below (T107.setTop (mkF m 8 #[.val (.ref a1), .val (.ref c1), .val (.int (3 : Int32)), .val (.long (((0 : Int64) + (f1 (((2 : Int32) * (u0 &&& (15 : Int32))) + (1 : Int32)))) + (f1 (((2 : Int32) * (u1 &&& (15 : Int32))) + (1 : Int32))))), .second, .val (.int (2 : Int32))] [(.int (3 : Int32)), (.int (2 : Int32))])) _
    refine XS.icmpNo X107.here hx rfl (hb hby dc14_8) rfl (by decide) ?_
    show Steps p.tables e below (T107.setTop (mkF m 11 #[.val (.ref a1), .val (.ref c1), .val (.int (3 : Int32)), .val (.long (((0 : Int64) + (f1 (((2 : Int32) * (u0 &&& (15 : Int32))) + (1 : Int32)))) + (f1 (((2 : Int32) * (u1 &&& (15 : Int32))) + (1 : Int32))))), .second, .val (.int (2 : Int32))] [])) _
    refine XS.lloadN X107.here hx rfl (hb hby dc14_11) rfl ?_
    show Steps p.tables e below (T107.setTop (mkF m 12 #[.val (.ref a1), .val (.ref c1), .val (.int (3 : Int32)), .val (.long (((0 : Int64) + (f1 (((2 : Int32) * (u0 &&& (15 : Int32))) + (1 : Int32)))) + (f1 (((2 : Int32) * (u1 &&& (15 : Int32))) + (1 : Int32))))), .second, .val (.int (2 : Int32))] [(.long (((0 : Int64) + (f1 (((2 : Int32) * (u0 &&& (15 : Int32))) + (1 : Int32)))) + (f1 (((2 : Int32) * (u1 &&& (15 : Int32))) + (1 : Int32)))))])) _
    refine XS.aloadN X107.here hx rfl (hb hby dc14_12) rfl rfl ?_
    show Steps p.tables e below (T107.setTop (mkF m 13 #[.val (.ref a1), .val (.ref c1), .val (.int (3 : Int32)), .val (.long (((0 : Int64) + (f1 (((2 : Int32) * (u0 &&& (15 : Int32))) + (1 : Int32)))) + (f1 (((2 : Int32) * (u1 &&& (15 : Int32))) + (1 : Int32))))), .second, .val (.int (2 : Int32))] [(.ref a1), (.long (((0 : Int64) + (f1 (((2 : Int32) * (u0 &&& (15 : Int32))) + (1 : Int32)))) + (f1 (((2 : Int32) * (u1 &&& (15 : Int32))) + (1 : Int32)))))])) _
    refine st109 _ ?_
    show Steps p.tables e below (T109.setTop (mkF m 16 #[.val (.ref a1), .val (.ref c1), .val (.int (3 : Int32)), .val (.long (((0 : Int64) + (f1 (((2 : Int32) * (u0 &&& (15 : Int32))) + (1 : Int32)))) + (f1 (((2 : Int32) * (u1 &&& (15 : Int32))) + (1 : Int32))))), .second, .val (.int (2 : Int32))] [(.ref b1), (.long (((0 : Int64) + (f1 (((2 : Int32) * (u0 &&& (15 : Int32))) + (1 : Int32)))) + (f1 (((2 : Int32) * (u1 &&& (15 : Int32))) + (1 : Int32)))))])) _
    refine XS.iconst X109.here hx rfl (hb hby dc14_16) ?_
    show Steps p.tables e below (T109.setTop (mkF m 17 #[.val (.ref a1), .val (.ref c1), .val (.int (3 : Int32)), .val (.long (((0 : Int64) + (f1 (((2 : Int32) * (u0 &&& (15 : Int32))) + (1 : Int32)))) + (f1 (((2 : Int32) * (u1 &&& (15 : Int32))) + (1 : Int32))))), .second, .val (.int (2 : Int32))] [(.int (2 : Int32)), (.ref b1), (.long (((0 : Int64) + (f1 (((2 : Int32) * (u0 &&& (15 : Int32))) + (1 : Int32)))) + (f1 (((2 : Int32) * (u1 &&& (15 : Int32))) + (1 : Int32)))))])) _
    refine XS.aloadN X109.here hx rfl (hb hby dc14_17) rfl rfl ?_
    show Steps p.tables e below (T109.setTop (mkF m 18 #[.val (.ref a1), .val (.ref c1), .val (.int (3 : Int32)), .val (.long (((0 : Int64) + (f1 (((2 : Int32) * (u0 &&& (15 : Int32))) + (1 : Int32)))) + (f1 (((2 : Int32) * (u1 &&& (15 : Int32))) + (1 : Int32))))), .second, .val (.int (2 : Int32))] [(.ref c1), (.int (2 : Int32)), (.ref b1), (.long (((0 : Int64) + (f1 (((2 : Int32) * (u0 &&& (15 : Int32))) + (1 : Int32)))) + (f1 (((2 : Int32) * (u1 &&& (15 : Int32))) + (1 : Int32)))))])) _
    refine XS.iload X109.here hx rfl (hb hby dc14_18) rfl ?_
    show Steps p.tables e below (T109.setTop (mkF m 20 #[.val (.ref a1), .val (.ref c1), .val (.int (3 : Int32)), .val (.long (((0 : Int64) + (f1 (((2 : Int32) * (u0 &&& (15 : Int32))) + (1 : Int32)))) + (f1 (((2 : Int32) * (u1 &&& (15 : Int32))) + (1 : Int32))))), .second, .val (.int (2 : Int32))] [(.int (2 : Int32)), (.ref c1), (.int (2 : Int32)), (.ref b1), (.long (((0 : Int64) + (f1 (((2 : Int32) * (u0 &&& (15 : Int32))) + (1 : Int32)))) + (f1 (((2 : Int32) * (u1 &&& (15 : Int32))) + (1 : Int32)))))])) _
    refine X109.iaload hx (j := (2 : Int32)) (v := (.int u2)) (by rw [e109]; exact Ar110.1) (State.isArrayOf_alike hZ.alike Ar110.2.1) Ar110.2.2 hin110 hat110 (g := (mkF m 20 #[.val (.ref a1), .val (.ref c1), .val (.int (3 : Int32)), .val (.long (((0 : Int64) + (f1 (((2 : Int32) * (u0 &&& (15 : Int32))) + (1 : Int32)))) + (f1 (((2 : Int32) * (u1 &&& (15 : Int32))) + (1 : Int32))))), .second, .val (.int (2 : Int32))] [(.int (2 : Int32)), (.ref c1), (.int (2 : Int32)), (.ref b1), (.long (((0 : Int64) + (f1 (((2 : Int32) * (u0 &&& (15 : Int32))) + (1 : Int32)))) + (f1 (((2 : Int32) * (u1 &&& (15 : Int32))) + (1 : Int32)))))])) rfl rfl (hb hby dc14_20) _ ?_
    show Steps p.tables e below (T109.setTop (mkF m 21 #[.val (.ref a1), .val (.ref c1), .val (.int (3 : Int32)), .val (.long (((0 : Int64) + (f1 (((2 : Int32) * (u0 &&& (15 : Int32))) + (1 : Int32)))) + (f1 (((2 : Int32) * (u1 &&& (15 : Int32))) + (1 : Int32))))), .second, .val (.int (2 : Int32))] [(.int u2), (.int (2 : Int32)), (.ref b1), (.long (((0 : Int64) + (f1 (((2 : Int32) * (u0 &&& (15 : Int32))) + (1 : Int32)))) + (f1 (((2 : Int32) * (u1 &&& (15 : Int32))) + (1 : Int32)))))])) _
    refine XS.aloadN X109.here hx rfl (hb hby dc14_21) rfl rfl ?_
    show Steps p.tables e below (T109.setTop (mkF m 22 #[.val (.ref a1), .val (.ref c1), .val (.int (3 : Int32)), .val (.long (((0 : Int64) + (f1 (((2 : Int32) * (u0 &&& (15 : Int32))) + (1 : Int32)))) + (f1 (((2 : Int32) * (u1 &&& (15 : Int32))) + (1 : Int32))))), .second, .val (.int (2 : Int32))] [(.ref a1), (.int u2), (.int (2 : Int32)), (.ref b1), (.long (((0 : Int64) + (f1 (((2 : Int32) * (u0 &&& (15 : Int32))) + (1 : Int32)))) + (f1 (((2 : Int32) * (u1 &&& (15 : Int32))) + (1 : Int32)))))])) _
    refine st111 _ ?_
    show Steps p.tables e below (T111.setTop (mkF m 25 #[.val (.ref a1), .val (.ref c1), .val (.int (3 : Int32)), .val (.long (((0 : Int64) + (f1 (((2 : Int32) * (u0 &&& (15 : Int32))) + (1 : Int32)))) + (f1 (((2 : Int32) * (u1 &&& (15 : Int32))) + (1 : Int32))))), .second, .val (.int (2 : Int32))] [(.int (15 : Int32)), (.int u2), (.int (2 : Int32)), (.ref b1), (.long (((0 : Int64) + (f1 (((2 : Int32) * (u0 &&& (15 : Int32))) + (1 : Int32)))) + (f1 (((2 : Int32) * (u1 &&& (15 : Int32))) + (1 : Int32)))))])) _
    refine XS.iand X111.here hx rfl (hb hby dc14_25) rfl ?_
    show Steps p.tables e below (T111.setTop (mkF m 26 #[.val (.ref a1), .val (.ref c1), .val (.int (3 : Int32)), .val (.long (((0 : Int64) + (f1 (((2 : Int32) * (u0 &&& (15 : Int32))) + (1 : Int32)))) + (f1 (((2 : Int32) * (u1 &&& (15 : Int32))) + (1 : Int32))))), .second, .val (.int (2 : Int32))] [(.int (u2 &&& (15 : Int32))), (.int (2 : Int32)), (.ref b1), (.long (((0 : Int64) + (f1 (((2 : Int32) * (u0 &&& (15 : Int32))) + (1 : Int32)))) + (f1 (((2 : Int32) * (u1 &&& (15 : Int32))) + (1 : Int32)))))])) _
    refine XS.imul X111.here hx rfl (hb hby dc14_26) rfl ?_
    show Steps p.tables e below (T111.setTop (mkF m 27 #[.val (.ref a1), .val (.ref c1), .val (.int (3 : Int32)), .val (.long (((0 : Int64) + (f1 (((2 : Int32) * (u0 &&& (15 : Int32))) + (1 : Int32)))) + (f1 (((2 : Int32) * (u1 &&& (15 : Int32))) + (1 : Int32))))), .second, .val (.int (2 : Int32))] [(.int ((2 : Int32) * (u2 &&& (15 : Int32)))), (.ref b1), (.long (((0 : Int64) + (f1 (((2 : Int32) * (u0 &&& (15 : Int32))) + (1 : Int32)))) + (f1 (((2 : Int32) * (u1 &&& (15 : Int32))) + (1 : Int32)))))])) _
    refine XS.iconst X111.here hx rfl (hb hby dc14_27) ?_
    show Steps p.tables e below (T111.setTop (mkF m 28 #[.val (.ref a1), .val (.ref c1), .val (.int (3 : Int32)), .val (.long (((0 : Int64) + (f1 (((2 : Int32) * (u0 &&& (15 : Int32))) + (1 : Int32)))) + (f1 (((2 : Int32) * (u1 &&& (15 : Int32))) + (1 : Int32))))), .second, .val (.int (2 : Int32))] [(.int (1 : Int32)), (.int ((2 : Int32) * (u2 &&& (15 : Int32)))), (.ref b1), (.long (((0 : Int64) + (f1 (((2 : Int32) * (u0 &&& (15 : Int32))) + (1 : Int32)))) + (f1 (((2 : Int32) * (u1 &&& (15 : Int32))) + (1 : Int32)))))])) _
    refine XS.iadd X111.here hx rfl (hb hby dc14_28) rfl ?_
    show Steps p.tables e below (T111.setTop (mkF m 29 #[.val (.ref a1), .val (.ref c1), .val (.int (3 : Int32)), .val (.long (((0 : Int64) + (f1 (((2 : Int32) * (u0 &&& (15 : Int32))) + (1 : Int32)))) + (f1 (((2 : Int32) * (u1 &&& (15 : Int32))) + (1 : Int32))))), .second, .val (.int (2 : Int32))] [(.int (((2 : Int32) * (u2 &&& (15 : Int32))) + (1 : Int32))), (.ref b1), (.long (((0 : Int64) + (f1 (((2 : Int32) * (u0 &&& (15 : Int32))) + (1 : Int32)))) + (f1 (((2 : Int32) * (u1 &&& (15 : Int32))) + (1 : Int32)))))])) _
    refine X111.laload hx (j := (((2 : Int32) * (u2 &&& (15 : Int32))) + (1 : Int32))) (v := (.long (f1 (((2 : Int32) * (u2 &&& (15 : Int32))) + (1 : Int32))))) (by rw [e111]; exact Ar112.1) (State.isArrayOf_alike hZ.alike Ar112.2.1) Ar112.2.2 hin112 hat112 (g := (mkF m 29 #[.val (.ref a1), .val (.ref c1), .val (.int (3 : Int32)), .val (.long (((0 : Int64) + (f1 (((2 : Int32) * (u0 &&& (15 : Int32))) + (1 : Int32)))) + (f1 (((2 : Int32) * (u1 &&& (15 : Int32))) + (1 : Int32))))), .second, .val (.int (2 : Int32))] [(.int (((2 : Int32) * (u2 &&& (15 : Int32))) + (1 : Int32))), (.ref b1), (.long (((0 : Int64) + (f1 (((2 : Int32) * (u0 &&& (15 : Int32))) + (1 : Int32)))) + (f1 (((2 : Int32) * (u1 &&& (15 : Int32))) + (1 : Int32)))))])) rfl rfl (hb hby dc14_29) _ ?_
    show Steps p.tables e below (T111.setTop (mkF m 30 #[.val (.ref a1), .val (.ref c1), .val (.int (3 : Int32)), .val (.long (((0 : Int64) + (f1 (((2 : Int32) * (u0 &&& (15 : Int32))) + (1 : Int32)))) + (f1 (((2 : Int32) * (u1 &&& (15 : Int32))) + (1 : Int32))))), .second, .val (.int (2 : Int32))] [(.long (f1 (((2 : Int32) * (u2 &&& (15 : Int32))) + (1 : Int32)))), (.long (((0 : Int64) + (f1 (((2 : Int32) * (u0 &&& (15 : Int32))) + (1 : Int32)))) + (f1 (((2 : Int32) * (u1 &&& (15 : Int32))) + (1 : Int32)))))])) _
    refine XS.ladd X111.here hx rfl (hb hby dc14_30) rfl ?_
    show Steps p.tables e below (T111.setTop (mkF m 31 #[.val (.ref a1), .val (.ref c1), .val (.int (3 : Int32)), .val (.long (((0 : Int64) + (f1 (((2 : Int32) * (u0 &&& (15 : Int32))) + (1 : Int32)))) + (f1 (((2 : Int32) * (u1 &&& (15 : Int32))) + (1 : Int32))))), .second, .val (.int (2 : Int32))] [(.long ((((0 : Int64) + (f1 (((2 : Int32) * (u0 &&& (15 : Int32))) + (1 : Int32)))) + (f1 (((2 : Int32) * (u1 &&& (15 : Int32))) + (1 : Int32)))) + (f1 (((2 : Int32) * (u2 &&& (15 : Int32))) + (1 : Int32)))))])) _
    refine XS.lstoreN X111.here hx rfl (hb hby dc14_31) rfl (l' := #[.val (.ref a1), .val (.ref c1), .val (.int (3 : Int32)), .val (.long ((((0 : Int64) + (f1 (((2 : Int32) * (u0 &&& (15 : Int32))) + (1 : Int32)))) + (f1 (((2 : Int32) * (u1 &&& (15 : Int32))) + (1 : Int32)))) + (f1 (((2 : Int32) * (u2 &&& (15 : Int32))) + (1 : Int32))))), .second, .val (.int (2 : Int32))]) rfl ?_
    show Steps p.tables e below (T111.setTop (mkF m 32 #[.val (.ref a1), .val (.ref c1), .val (.int (3 : Int32)), .val (.long ((((0 : Int64) + (f1 (((2 : Int32) * (u0 &&& (15 : Int32))) + (1 : Int32)))) + (f1 (((2 : Int32) * (u1 &&& (15 : Int32))) + (1 : Int32)))) + (f1 (((2 : Int32) * (u2 &&& (15 : Int32))) + (1 : Int32))))), .second, .val (.int (2 : Int32))] [])) _
    refine XS.iinc X111.here hx rfl (hb hby dc14_32) rfl (l' := #[.val (.ref a1), .val (.ref c1), .val (.int (3 : Int32)), .val (.long ((((0 : Int64) + (f1 (((2 : Int32) * (u0 &&& (15 : Int32))) + (1 : Int32)))) + (f1 (((2 : Int32) * (u1 &&& (15 : Int32))) + (1 : Int32)))) + (f1 (((2 : Int32) * (u2 &&& (15 : Int32))) + (1 : Int32))))), .second, .val (.int (3 : Int32))]) rfl ?_
    show Steps p.tables e below (T111.setTop (mkF m 35 #[.val (.ref a1), .val (.ref c1), .val (.int (3 : Int32)), .val (.long ((((0 : Int64) + (f1 (((2 : Int32) * (u0 &&& (15 : Int32))) + (1 : Int32)))) + (f1 (((2 : Int32) * (u1 &&& (15 : Int32))) + (1 : Int32)))) + (f1 (((2 : Int32) * (u2 &&& (15 : Int32))) + (1 : Int32))))), .second, .val (.int (3 : Int32))] [])) _
    refine XS.goto X111.here hx rfl (pc0 := 35) (pc' := 5) rfl (hb hby dc14_35) (by decide) (by decide) ?_
    show Steps p.tables e below (T111.setTop (mkF m 5 #[.val (.ref a1), .val (.ref c1), .val (.int (3 : Int32)), .val (.long ((((0 : Int64) + (f1 (((2 : Int32) * (u0 &&& (15 : Int32))) + (1 : Int32)))) + (f1 (((2 : Int32) * (u1 &&& (15 : Int32))) + (1 : Int32)))) + (f1 (((2 : Int32) * (u2 &&& (15 : Int32))) + (1 : Int32))))), .second, .val (.int (3 : Int32))] [])) _
    refine XS.iload X111.here hx rfl (hb hby dc14_5) rfl ?_
    show Steps p.tables e below (T111.setTop (mkF m 7 #[.val (.ref a1), .val (.ref c1), .val (.int (3 : Int32)), .val (.long ((((0 : Int64) + (f1 (((2 : Int32) * (u0 &&& (15 : Int32))) + (1 : Int32)))) + (f1 (((2 : Int32) * (u1 &&& (15 : Int32))) + (1 : Int32)))) + (f1 (((2 : Int32) * (u2 &&& (15 : Int32))) + (1 : Int32))))), .second, .val (.int (3 : Int32))] [(.int (3 : Int32))])) _
    refine XS.iloadN X111.here hx rfl (hb hby dc14_7) rfl ?_
    show Steps p.tables e below (T111.setTop (mkF m 8 #[.val (.ref a1), .val (.ref c1), .val (.int (3 : Int32)), .val (.long ((((0 : Int64) + (f1 (((2 : Int32) * (u0 &&& (15 : Int32))) + (1 : Int32)))) + (f1 (((2 : Int32) * (u1 &&& (15 : Int32))) + (1 : Int32)))) + (f1 (((2 : Int32) * (u2 &&& (15 : Int32))) + (1 : Int32))))), .second, .val (.int (3 : Int32))] [(.int (3 : Int32)), (.int (3 : Int32))])) _
    refine XS.icmpYes X111.here hx rfl (pc0 := 8) (pc' := 38) rfl (hb hby dc14_8) rfl (by decide) (by decide) (by decide) ?_
    show Steps p.tables e below (T111.setTop (mkF m 38 #[.val (.ref a1), .val (.ref c1), .val (.int (3 : Int32)), .val (.long ((((0 : Int64) + (f1 (((2 : Int32) * (u0 &&& (15 : Int32))) + (1 : Int32)))) + (f1 (((2 : Int32) * (u1 &&& (15 : Int32))) + (1 : Int32)))) + (f1 (((2 : Int32) * (u2 &&& (15 : Int32))) + (1 : Int32))))), .second, .val (.int (3 : Int32))] [])) _
    refine XS.aloadN X111.here hx rfl (hb hby dc14_38) rfl rfl ?_
    show Steps p.tables e below (T111.setTop (mkF m 39 #[.val (.ref a1), .val (.ref c1), .val (.int (3 : Int32)), .val (.long ((((0 : Int64) + (f1 (((2 : Int32) * (u0 &&& (15 : Int32))) + (1 : Int32)))) + (f1 (((2 : Int32) * (u1 &&& (15 : Int32))) + (1 : Int32)))) + (f1 (((2 : Int32) * (u2 &&& (15 : Int32))) + (1 : Int32))))), .second, .val (.int (3 : Int32))] [(.ref a1)])) _
    refine XS.dup X111.here hx rfl (hb hby dc14_39) rfl rfl ?_
    show Steps p.tables e below (T111.setTop (mkF m 40 #[.val (.ref a1), .val (.ref c1), .val (.int (3 : Int32)), .val (.long ((((0 : Int64) + (f1 (((2 : Int32) * (u0 &&& (15 : Int32))) + (1 : Int32)))) + (f1 (((2 : Int32) * (u1 &&& (15 : Int32))) + (1 : Int32)))) + (f1 (((2 : Int32) * (u2 &&& (15 : Int32))) + (1 : Int32))))), .second, .val (.int (3 : Int32))] [(.ref a1), (.ref a1)])) _
    refine st113 _ ?_
    show Steps p.tables e below (T113.setTop (mkF m 43 #[.val (.ref a1), .val (.ref c1), .val (.int (3 : Int32)), .val (.long ((((0 : Int64) + (f1 (((2 : Int32) * (u0 &&& (15 : Int32))) + (1 : Int32)))) + (f1 (((2 : Int32) * (u1 &&& (15 : Int32))) + (1 : Int32)))) + (f1 (((2 : Int32) * (u2 &&& (15 : Int32))) + (1 : Int32))))), .second, .val (.int (3 : Int32))] [(.long p1), (.ref a1)])) _
    refine XS.lloadN X113.here hx rfl (hb hby dc14_43) rfl ?_
    show Steps p.tables e below (T113.setTop (mkF m 44 #[.val (.ref a1), .val (.ref c1), .val (.int (3 : Int32)), .val (.long ((((0 : Int64) + (f1 (((2 : Int32) * (u0 &&& (15 : Int32))) + (1 : Int32)))) + (f1 (((2 : Int32) * (u1 &&& (15 : Int32))) + (1 : Int32)))) + (f1 (((2 : Int32) * (u2 &&& (15 : Int32))) + (1 : Int32))))), .second, .val (.int (3 : Int32))] [(.long ((((0 : Int64) + (f1 (((2 : Int32) * (u0 &&& (15 : Int32))) + (1 : Int32)))) + (f1 (((2 : Int32) * (u1 &&& (15 : Int32))) + (1 : Int32)))) + (f1 (((2 : Int32) * (u2 &&& (15 : Int32))) + (1 : Int32))))), (.long p1), (.ref a1)])) _
    refine XS.ladd X113.here hx rfl (hb hby dc14_44) rfl ?_
    show Steps p.tables e below (T113.setTop (mkF m 45 #[.val (.ref a1), .val (.ref c1), .val (.int (3 : Int32)), .val (.long ((((0 : Int64) + (f1 (((2 : Int32) * (u0 &&& (15 : Int32))) + (1 : Int32)))) + (f1 (((2 : Int32) * (u1 &&& (15 : Int32))) + (1 : Int32)))) + (f1 (((2 : Int32) * (u2 &&& (15 : Int32))) + (1 : Int32))))), .second, .val (.int (3 : Int32))] [(.long (p1 + ((((0 : Int64) + (f1 (((2 : Int32) * (u0 &&& (15 : Int32))) + (1 : Int32)))) + (f1 (((2 : Int32) * (u1 &&& (15 : Int32))) + (1 : Int32)))) + (f1 (((2 : Int32) * (u2 &&& (15 : Int32))) + (1 : Int32)))))), (.ref a1)])) _
    refine st114 _ ?_
    show Steps p.tables e below (T114.setTop (mkF m 48 #[.val (.ref a1), .val (.ref c1), .val (.int (3 : Int32)), .val (.long ((((0 : Int64) + (f1 (((2 : Int32) * (u0 &&& (15 : Int32))) + (1 : Int32)))) + (f1 (((2 : Int32) * (u1 &&& (15 : Int32))) + (1 : Int32)))) + (f1 (((2 : Int32) * (u2 &&& (15 : Int32))) + (1 : Int32))))), .second, .val (.int (3 : Int32))] [])) _
    exact X114.returnOut hx Bd.returns (hb hby dc14_48) hr
  · show Q_pf Z a1 b1 f1 n1 h0 n0 _ T114.heap _
    rw [e114]
    exact ⟨rfl, N114, K115, _, f116, f117, f118, f119, f120, f121, Fw114⟩
theorem own_eq {x y : Int32} (h : x.toInt = y.toInt) : x = y := Int32.toInt_inj.mp h
theorem own_01 {r s : Int32} (hr : own_16 r) (hs : own_16 s) : ¬ ((2 : Int32) * r) = (((2 : Int32) * s) + (1 : Int32)) := fun q => by
  have a := own_i0 hr; have b := own_i1 hs; rw [q] at a; omega
theorem own_10 {r s : Int32} (hr : own_16 r) (hs : own_16 s) : ¬ (((2 : Int32) * r) + (1 : Int32)) = ((2 : Int32) * s) := fun q => own_01 hs hr q.symm
theorem own_00 {r s : Int32} (hr : own_16 r) (hs : own_16 s) (hn : ¬ r = s) : ¬ ((2 : Int32) * r) = ((2 : Int32) * s) := fun q => hn (own_eq (by
  have a := own_i0 hr; have b := own_i0 hs; rw [q] at a; omega))
theorem own_11 {r s : Int32} (hr : own_16 r) (hs : own_16 s) (hn : ¬ r = s) : ¬ (((2 : Int32) * r) + (1 : Int32)) = (((2 : Int32) * s) + (1 : Int32)) := fun q => hn (own_eq (by
  have a := own_i1 hr; have b := own_i1 hs; rw [q] at a; omega))
theorem own_nn {s : Int32} (h : own_16 s) : ¬ own_n s = s := fun q => by
  have a := c_mask (s + 1) 15 4 (by decide) (by decide); have b := c_iadd s 1; have e : (1 : Int32).toInt = 1 := rfl
  have c : (own_n s).toInt = s.toInt := by rw [q]
  have d : (own_n s).toInt = ((s + (1 : Int32)) &&& (15 : Int32)).toInt := rfl
  unfold own_16 at h
  have r := rng32 (s + 1)
  omega
theorem upd_hit {f : Int32 → Int64} {i j : Int32} {x : Int64} (h : j = i) : upd f i x j = x := by simp [upd, h]
theorem upd_miss {f : Int32 → Int64} {i j : Int32} {x : Int64} (h : ¬ j = i) : upd f i x j = f j := by simp [upd, h]
abbrev own_p (f : Int32 → Int64) (r : Int32) (q x : Int64) : Int32 → Int64 := upd (upd f ((2 : Int32) * r) q) (((2 : Int32) * r) + (1 : Int32)) x
theorem own_pv {f : Int32 → Int64} {r : Int32} {q x : Int64} : own_p f r q x (((2 : Int32) * r) + (1 : Int32)) = x := upd_hit rfl
theorem own_pk {f : Int32 → Int64} {r : Int32} {q x : Int64} (h : own_16 r) : own_p f r q x ((2 : Int32) * r) = q := (upd_miss (own_01 h h)).trans (upd_hit rfl)
theorem own_pv' {f : Int32 → Int64} {r s : Int32} {q x : Int64} (hr : own_16 r) (hs : own_16 s) (hn : ¬ s = r) : own_p f r q x (((2 : Int32) * s) + (1 : Int32)) = f (((2 : Int32) * s) + (1 : Int32)) := (upd_miss (own_11 hs hr hn)).trans (upd_miss (own_10 hs hr))
theorem own_pk' {f : Int32 → Int64} {r s : Int32} {q x : Int64} (hr : own_16 r) (hs : own_16 s) (hn : ¬ s = r) : own_p f r q x ((2 : Int32) * s) = f ((2 : Int32) * s) := (upd_miss (own_01 hs hr)).trans (upd_miss (own_00 hs hr hn))
theorem own_F0 (q : Int64) : Fnd (fun _ => 0) q (own_s q) := Or.inl ⟨rfl, rfl⟩
theorem own_nz {P : Prop} {z u v : Int64} (h : P ∧ z = u ∨ ¬ P ∧ z = v) (h1 : ¬ u = 0) (h2 : ¬ P → ¬ v = 0) : ¬ z = 0 := by
  rcases h with ⟨-, rfl⟩ | ⟨p, rfl⟩
  · exact h1
  · exact h2 p
theorem own_k (x : Int32) : (x &&& (3 : Int32)) = (0 : Int32) ∨ (x &&& (3 : Int32)) = (1 : Int32) ∨ (x &&& (3 : Int32)) = (2 : Int32) ∨ (x &&& (3 : Int32)) = (3 : Int32) := by
  have h1 := c_mask x 3 2 (by decide) (by decide)
  simp only [← Int32.toInt_inj]
  have e0 : (0 : Int32).toInt = 0 := rfl
  have e1 : (1 : Int32).toInt = 1 := rfl
  have e2 : (2 : Int32).toInt = 2 := rfl
  have e3 : (3 : Int32).toInt = 3 := rfl
  omega
theorem pn_2 : plainName "com/example/keyfold/keyfold/KeyTablePrefetchPinLaw" = true := by first | (simp [plainName, overriddenIn]; done) | decide +kernel
theorem ef_10 (m : MethodId) (x0 : Int64) (x1 : Int64) (x2 : Int64) (x3 : Int64) (x4 : Int32) (x5 : Int32) : entryFrame m #[(.long x0), (.long x1), (.long x2), (.long x3), (.int x4), (.int x5)] maxLocals = mkF m 0 #[.val (.long x0), .second, .val (.long x1), .second, .val (.long x2), .second, .val (.long x3), .second, .val (.int x4), .val (.int x5), .unset, .unset, .unset, .unset, .unset, .unset, .unset, .unset, .unset, .unset, .unset, .unset, .unset] [] := by first | (simp [entryFrame, mkF, argsToLocals, Value.category, maxLocals]; done) | rfl
theorem pd_7 : parseMethodDescriptor "(J)Lcom/example/keyfold/keyfold/Key;" = some ⟨[.long], some (.object "com/example/keyfold/keyfold/Key")⟩ := by decide +kernel
theorem pd_8 : parseMethodDescriptor "(Lcom/example/keyfold/keyfold/Key;J)J" = some ⟨[(.object "com/example/keyfold/keyfold/Key"), .long], some .long⟩ := by decide +kernel
theorem pd_9 : parseMethodDescriptor "([II)V" = some ⟨[(.array .int), .int], none⟩ := by decide +kernel
theorem pd_10 : parseMethodDescriptor "(Lcom/example/keyfold/keyfold/Key;)J" = some ⟨[(.object "com/example/keyfold/keyfold/Key")], some .long⟩ := by decide +kernel
theorem pd_11 : parseMethodDescriptor "()I" = some ⟨[], some .int⟩ := by decide +kernel
set_option maxRecDepth 65536 in
set_option maxHeartbeats 40000000 in
theorem rm0 (l : Launch) (Z : State) (a0 : Array Value) (hw : ∀ d ∈ tables_1, d.before a0 Z = true) (ws : List Jvm.Cond) (i0 i1 i2 i3 : Int64) (i4 i5 : Int32) (h0 : Heap) (n0 : Nat) (O0 : Old Z n0 h0) :
    MetFree l x (head1 (Jvm.Cond.code x code maxLocals ret :: ws) room_1) (fun a U => a = #[(.long i0), (.long i1), (.long i2), (.long i3), (.int i4), (.int i5)] ∧ Z.Warmed39 U.vm ∧ U.heap = h0) (fun _ _ _ _ _ => True) (fun _ U o U' => ∃ v L, o = .returned v ∧ QL n0 v U'.heap L ∧ FrameEnd U o U' L room_1.cells room_1.slots) := by
  refine MetFree.of_bodySF (plainFor_of_name pn_2) hisR ?_
  intro p e s m args below meth c s₁ Bd hml0 hP hK
  obtain ⟨rfl, hZ, hh⟩ := hP
  have hx := Bd.exec
  have hby := Bd.bytes
  have hml : c.maxLocals = 23 := hml0
  have hown : s.vm.findClass "com/example/keyfold/keyfold/KeyTablePrefetchPinLaw" = some m.cls := findClass_of_methodNamed Bd.named
  have hnm := (name_of_methodNamed Bd.named Bd.method).1
  have X0 : Stand p l e room_1 s m #[(.long i0), (.long i1), (.long i2), (.long i3), (.int i4), (.int i5)] below meth c s₁ [] 0 0 := Stand.of_body Bd
  have e0 : s₁.heap = h0 := by rw [← hh, Bd.state]; rfl
  have N0 := Fr.nil n0
  have pre0 : ∀ t, Steps p.tables e below (s₁.setTop (mkF m 0 #[.val (.long i0), .second, .val (.long i1), .second, .val (.long i2), .second, .val (.long i3), .second, .val (.int i4), .val (.int i5), .unset, .unset, .unset, .unset, .unset, .unset, .unset, .unset, .unset, .unset, .unset, .unset, .unset] [])) t → Steps p.tables e below (s₁.setTop (entryFrame m #[(.long i0), (.long i1), (.long i2), (.long i3), (.int i4), (.int i5)] maxLocals)) t := fun t k => castTop (ef_10 m i0 i1 i2 i3 i4 i5) k
  have jn101 : ∃ z101 : Int64, ((i2 = (0 : Int64)) ∧ z101 = (1 : Int64) ∨ ¬ (i2 = (0 : Int64)) ∧ z101 = i2) ∧ ∀ t, Steps p.tables e below (s₁.setTop (mkF m 13 #[.val (.long i0), .second, .val (.long i1), .second, .val (.long i2), .second, .val (.long i3), .second, .val (.int i4), .val (.int i5), .unset, .unset, .unset, .unset, .unset, .unset, .unset, .unset, .unset, .unset, .unset, .unset, .unset] [(.long z101)])) t → Steps p.tables e below (s₁.setTop (entryFrame m #[(.long i0), (.long i1), (.long i2), (.long i3), (.int i4), (.int i5)] maxLocals)) t := by
    by_cases hc101 : i2 = (0 : Int64)
    · refine ⟨(1 : Int64), Or.inl ⟨hc101, rfl⟩, fun t kt => pre0 t ?_⟩
      show Steps p.tables e below (s₁.setTop (mkF m 0 #[.val (.long i0), .second, .val (.long i1), .second, .val (.long i2), .second, .val (.long i3), .second, .val (.int i4), .val (.int i5), .unset, .unset, .unset, .unset, .unset, .unset, .unset, .unset, .unset, .unset, .unset, .unset, .unset] [])) _
      refine XS.lload X0.here hx rfl (hb hby at_0) rfl ?_
      show Steps p.tables e below (s₁.setTop (mkF m 2 #[.val (.long i0), .second, .val (.long i1), .second, .val (.long i2), .second, .val (.long i3), .second, .val (.int i4), .val (.int i5), .unset, .unset, .unset, .unset, .unset, .unset, .unset, .unset, .unset, .unset, .unset, .unset, .unset] [(.long i2)])) _
      refine XS.lconst X0.here hx rfl (hb hby at_2) ?_
      show Steps p.tables e below (s₁.setTop (mkF m 3 #[.val (.long i0), .second, .val (.long i1), .second, .val (.long i2), .second, .val (.long i3), .second, .val (.int i4), .val (.int i5), .unset, .unset, .unset, .unset, .unset, .unset, .unset, .unset, .unset, .unset, .unset, .unset, .unset] [(.long (0 : Int64)), (.long i2)])) _
      refine XS.lcmp X0.here hx rfl (hb hby at_3) rfl ?_
      show Steps p.tables e below (s₁.setTop (mkF m 4 #[.val (.long i0), .second, .val (.long i1), .second, .val (.long i2), .second, .val (.long i3), .second, .val (.int i4), .val (.int i5), .unset, .unset, .unset, .unset, .unset, .unset, .unset, .unset, .unset, .unset, .unset, .unset, .unset] [(.int (lcmpW i2 (0 : Int64)))])) _
      refine XS.ifNo X0.here hx rfl (hb hby at_4) rfl ((if0 _ _).trans (teq ((lw_eq _ _).mpr hc101)).2) ?_
      show Steps p.tables e below (s₁.setTop (mkF m 7 #[.val (.long i0), .second, .val (.long i1), .second, .val (.long i2), .second, .val (.long i3), .second, .val (.int i4), .val (.int i5), .unset, .unset, .unset, .unset, .unset, .unset, .unset, .unset, .unset, .unset, .unset, .unset, .unset] [])) _
      refine XS.lconst X0.here hx rfl (hb hby at_7) ?_
      show Steps p.tables e below (s₁.setTop (mkF m 8 #[.val (.long i0), .second, .val (.long i1), .second, .val (.long i2), .second, .val (.long i3), .second, .val (.int i4), .val (.int i5), .unset, .unset, .unset, .unset, .unset, .unset, .unset, .unset, .unset, .unset, .unset, .unset, .unset] [(.long (1 : Int64))])) _
      refine XS.goto X0.here hx rfl (pc0 := 8) (pc' := 13) rfl (hb hby at_8) (by decide) (by decide) ?_
      exact kt
    · refine ⟨i2, Or.inr ⟨hc101, rfl⟩, fun t kt => pre0 t ?_⟩
      show Steps p.tables e below (s₁.setTop (mkF m 0 #[.val (.long i0), .second, .val (.long i1), .second, .val (.long i2), .second, .val (.long i3), .second, .val (.int i4), .val (.int i5), .unset, .unset, .unset, .unset, .unset, .unset, .unset, .unset, .unset, .unset, .unset, .unset, .unset] [])) _
      refine XS.lload X0.here hx rfl (hb hby at_0) rfl ?_
      show Steps p.tables e below (s₁.setTop (mkF m 2 #[.val (.long i0), .second, .val (.long i1), .second, .val (.long i2), .second, .val (.long i3), .second, .val (.int i4), .val (.int i5), .unset, .unset, .unset, .unset, .unset, .unset, .unset, .unset, .unset, .unset, .unset, .unset, .unset] [(.long i2)])) _
      refine XS.lconst X0.here hx rfl (hb hby at_2) ?_
      show Steps p.tables e below (s₁.setTop (mkF m 3 #[.val (.long i0), .second, .val (.long i1), .second, .val (.long i2), .second, .val (.long i3), .second, .val (.int i4), .val (.int i5), .unset, .unset, .unset, .unset, .unset, .unset, .unset, .unset, .unset, .unset, .unset, .unset, .unset] [(.long (0 : Int64)), (.long i2)])) _
      refine XS.lcmp X0.here hx rfl (hb hby at_3) rfl ?_
      show Steps p.tables e below (s₁.setTop (mkF m 4 #[.val (.long i0), .second, .val (.long i1), .second, .val (.long i2), .second, .val (.long i3), .second, .val (.int i4), .val (.int i5), .unset, .unset, .unset, .unset, .unset, .unset, .unset, .unset, .unset, .unset, .unset, .unset, .unset] [(.int (lcmpW i2 (0 : Int64)))])) _
      refine XS.ifYes X0.here hx rfl (pc0 := 4) (pc' := 11) rfl (hb hby at_4) rfl ((if0 _ _).trans (feq (mt (lw_eq _ _).mp hc101)).2) (by decide) (by decide) ?_
      show Steps p.tables e below (s₁.setTop (mkF m 11 #[.val (.long i0), .second, .val (.long i1), .second, .val (.long i2), .second, .val (.long i3), .second, .val (.int i4), .val (.int i5), .unset, .unset, .unset, .unset, .unset, .unset, .unset, .unset, .unset, .unset, .unset, .unset, .unset] [])) _
      refine XS.lload X0.here hx rfl (hb hby at_11) rfl ?_
      exact kt
  obtain ⟨z101, hz101, pre101⟩ := jn101
  have jn102 : ∃ z102 : Int64, ((i3 = (0 : Int64)) ∧ z102 = (2 : Int64) ∨ ¬ (i3 = (0 : Int64)) ∧ z102 = i3) ∧ ∀ t, Steps p.tables e below (s₁.setTop (mkF m 30 #[.val (.long i0), .second, .val (.long i1), .second, .val (.long i2), .second, .val (.long i3), .second, .val (.int i4), .val (.int i5), .val (.long z101), .second, .unset, .unset, .unset, .unset, .unset, .unset, .unset, .unset, .unset, .unset, .unset] [(.long z102)])) t → Steps p.tables e below (s₁.setTop (entryFrame m #[(.long i0), (.long i1), (.long i2), (.long i3), (.int i4), (.int i5)] maxLocals)) t := by
    by_cases hc102 : i3 = (0 : Int64)
    · refine ⟨(2 : Int64), Or.inl ⟨hc102, rfl⟩, fun t kt => pre101 t ?_⟩
      show Steps p.tables e below (s₁.setTop (mkF m 13 #[.val (.long i0), .second, .val (.long i1), .second, .val (.long i2), .second, .val (.long i3), .second, .val (.int i4), .val (.int i5), .unset, .unset, .unset, .unset, .unset, .unset, .unset, .unset, .unset, .unset, .unset, .unset, .unset] [(.long z101)])) _
      refine XS.lstore X0.here hx rfl (hb hby at_13) rfl (l' := #[.val (.long i0), .second, .val (.long i1), .second, .val (.long i2), .second, .val (.long i3), .second, .val (.int i4), .val (.int i5), .val (.long z101), .second, .unset, .unset, .unset, .unset, .unset, .unset, .unset, .unset, .unset, .unset, .unset]) rfl ?_
      show Steps p.tables e below (s₁.setTop (mkF m 15 #[.val (.long i0), .second, .val (.long i1), .second, .val (.long i2), .second, .val (.long i3), .second, .val (.int i4), .val (.int i5), .val (.long z101), .second, .unset, .unset, .unset, .unset, .unset, .unset, .unset, .unset, .unset, .unset, .unset] [])) _
      refine XS.lload X0.here hx rfl (hb hby at_15) rfl ?_
      show Steps p.tables e below (s₁.setTop (mkF m 17 #[.val (.long i0), .second, .val (.long i1), .second, .val (.long i2), .second, .val (.long i3), .second, .val (.int i4), .val (.int i5), .val (.long z101), .second, .unset, .unset, .unset, .unset, .unset, .unset, .unset, .unset, .unset, .unset, .unset] [(.long i3)])) _
      refine XS.lconst X0.here hx rfl (hb hby at_17) ?_
      show Steps p.tables e below (s₁.setTop (mkF m 18 #[.val (.long i0), .second, .val (.long i1), .second, .val (.long i2), .second, .val (.long i3), .second, .val (.int i4), .val (.int i5), .val (.long z101), .second, .unset, .unset, .unset, .unset, .unset, .unset, .unset, .unset, .unset, .unset, .unset] [(.long (0 : Int64)), (.long i3)])) _
      refine XS.lcmp X0.here hx rfl (hb hby at_18) rfl ?_
      show Steps p.tables e below (s₁.setTop (mkF m 19 #[.val (.long i0), .second, .val (.long i1), .second, .val (.long i2), .second, .val (.long i3), .second, .val (.int i4), .val (.int i5), .val (.long z101), .second, .unset, .unset, .unset, .unset, .unset, .unset, .unset, .unset, .unset, .unset, .unset] [(.int (lcmpW i3 (0 : Int64)))])) _
      refine XS.ifNo X0.here hx rfl (hb hby at_19) rfl ((if0 _ _).trans (teq ((lw_eq _ _).mpr hc102)).2) ?_
      show Steps p.tables e below (s₁.setTop (mkF m 22 #[.val (.long i0), .second, .val (.long i1), .second, .val (.long i2), .second, .val (.long i3), .second, .val (.int i4), .val (.int i5), .val (.long z101), .second, .unset, .unset, .unset, .unset, .unset, .unset, .unset, .unset, .unset, .unset, .unset] [])) _
      refine X0.ldc2Long hx hown (mvT hZ (hw _ (List.mem_of_getElem? (i := 90) rfl))) (g := (mkF m 22 #[.val (.long i0), .second, .val (.long i1), .second, .val (.long i2), .second, .val (.long i3), .second, .val (.int i4), .val (.int i5), .val (.long z101), .second, .unset, .unset, .unset, .unset, .unset, .unset, .unset, .unset, .unset, .unset, .unset] [])) rfl (hb hby at_22) _ ?_
      show Steps p.tables e below (s₁.setTop (mkF m 25 #[.val (.long i0), .second, .val (.long i1), .second, .val (.long i2), .second, .val (.long i3), .second, .val (.int i4), .val (.int i5), .val (.long z101), .second, .unset, .unset, .unset, .unset, .unset, .unset, .unset, .unset, .unset, .unset, .unset] [(.long (2 : Int64))])) _
      refine XS.goto X0.here hx rfl (pc0 := 25) (pc' := 30) rfl (hb hby at_25) (by decide) (by decide) ?_
      exact kt
    · refine ⟨i3, Or.inr ⟨hc102, rfl⟩, fun t kt => pre101 t ?_⟩
      show Steps p.tables e below (s₁.setTop (mkF m 13 #[.val (.long i0), .second, .val (.long i1), .second, .val (.long i2), .second, .val (.long i3), .second, .val (.int i4), .val (.int i5), .unset, .unset, .unset, .unset, .unset, .unset, .unset, .unset, .unset, .unset, .unset, .unset, .unset] [(.long z101)])) _
      refine XS.lstore X0.here hx rfl (hb hby at_13) rfl (l' := #[.val (.long i0), .second, .val (.long i1), .second, .val (.long i2), .second, .val (.long i3), .second, .val (.int i4), .val (.int i5), .val (.long z101), .second, .unset, .unset, .unset, .unset, .unset, .unset, .unset, .unset, .unset, .unset, .unset]) rfl ?_
      show Steps p.tables e below (s₁.setTop (mkF m 15 #[.val (.long i0), .second, .val (.long i1), .second, .val (.long i2), .second, .val (.long i3), .second, .val (.int i4), .val (.int i5), .val (.long z101), .second, .unset, .unset, .unset, .unset, .unset, .unset, .unset, .unset, .unset, .unset, .unset] [])) _
      refine XS.lload X0.here hx rfl (hb hby at_15) rfl ?_
      show Steps p.tables e below (s₁.setTop (mkF m 17 #[.val (.long i0), .second, .val (.long i1), .second, .val (.long i2), .second, .val (.long i3), .second, .val (.int i4), .val (.int i5), .val (.long z101), .second, .unset, .unset, .unset, .unset, .unset, .unset, .unset, .unset, .unset, .unset, .unset] [(.long i3)])) _
      refine XS.lconst X0.here hx rfl (hb hby at_17) ?_
      show Steps p.tables e below (s₁.setTop (mkF m 18 #[.val (.long i0), .second, .val (.long i1), .second, .val (.long i2), .second, .val (.long i3), .second, .val (.int i4), .val (.int i5), .val (.long z101), .second, .unset, .unset, .unset, .unset, .unset, .unset, .unset, .unset, .unset, .unset, .unset] [(.long (0 : Int64)), (.long i3)])) _
      refine XS.lcmp X0.here hx rfl (hb hby at_18) rfl ?_
      show Steps p.tables e below (s₁.setTop (mkF m 19 #[.val (.long i0), .second, .val (.long i1), .second, .val (.long i2), .second, .val (.long i3), .second, .val (.int i4), .val (.int i5), .val (.long z101), .second, .unset, .unset, .unset, .unset, .unset, .unset, .unset, .unset, .unset, .unset, .unset] [(.int (lcmpW i3 (0 : Int64)))])) _
      refine XS.ifYes X0.here hx rfl (pc0 := 19) (pc' := 28) rfl (hb hby at_19) rfl ((if0 _ _).trans (feq (mt (lw_eq _ _).mp hc102)).2) (by decide) (by decide) ?_
      show Steps p.tables e below (s₁.setTop (mkF m 28 #[.val (.long i0), .second, .val (.long i1), .second, .val (.long i2), .second, .val (.long i3), .second, .val (.int i4), .val (.int i5), .val (.long z101), .second, .unset, .unset, .unset, .unset, .unset, .unset, .unset, .unset, .unset, .unset, .unset] [])) _
      refine XS.lload X0.here hx rfl (hb hby at_28) rfl ?_
      exact kt
  obtain ⟨z102, hz102, pre102⟩ := jn102
  obtain ⟨_, _, ⟨T103, L103, k103, n103⟩, -, X103, ⟨Lc103, hQ103, l103, y103, z103⟩, st103⟩ := Jvm.LawKit.callS X0 hx (y := (⟨"com/example/keyfold/keyfold/Key", "ofInteger", "(J)Lcom/example/keyfold/keyfold/Key;"⟩ : MethodName)) hown (mvT hZ (hw _ (List.mem_of_getElem? (i := 0) rfl))) (mvT hZ (hw _ (List.mem_of_getElem? (i := 1) rfl))) (mvT hZ (hw _ (List.mem_of_getElem? (i := 2) rfl))) (mvT hZ (hw _ (List.mem_of_getElem? (i := 3) rfl))) (by decide) (backOf (W := 0) (rmOf l Z a0 hw [] i0 h0 n0 O0) hZ (hw _ (List.mem_of_getElem? (i := 3) rfl)) (hw _ (List.mem_of_getElem? (i := 2) rfl)) (by decide) (by decide)) (g := (mkF m 33 #[.val (.long i0), .second, .val (.long i1), .second, .val (.long i2), .second, .val (.long i3), .second, .val (.int i4), .val (.int i5), .val (.long z101), .second, .val (.long z102), .second, .unset, .unset, .unset, .unset, .unset, .unset, .unset, .unset, .unset] [(.long i0)])) rfl (by rw [hml]; rfl) (argsL := [(.long i0)]) (rest := []) (lenOf pd_7 rfl) rfl (by show 2 * 0 + _ ≤ _; exact Nat.le_of_eq rfl) (hb hby at_33) (fun _ _ => ⟨rfl, e0, (by decide : 0 + 1 ≤ _), (by decide : 0 + 2 ≤ _)⟩)
  dsimp only [Pt.U, Pt.locs, Pt.cells, Pt.slots] at X103 l103 y103 z103 st103 hQ103
  subst l103 y103 z103
  obtain ⟨b103, rfl, N103q, gb103, sz103, K103, Ex103, F103_parts, F103_integer⟩ := hQ103
  have N103 := Fr.app N0 N103q
  have O104 : Old Z n0 T103.heap := (O0.keep K103 all0)
  obtain ⟨_, _, ⟨T105, L105, k105, n105⟩, -, X105, ⟨Lc105, hQ105, l105, y105, z105⟩, st105⟩ := Jvm.LawKit.callS X103 hx (y := (⟨"com/example/keyfold/keyfold/Key", "ofInteger", "(J)Lcom/example/keyfold/keyfold/Key;"⟩ : MethodName)) hown (mvT hZ (hw _ (List.mem_of_getElem? (i := 0) rfl))) (mvT hZ (hw _ (List.mem_of_getElem? (i := 1) rfl))) (mvT hZ (hw _ (List.mem_of_getElem? (i := 2) rfl))) (mvT hZ (hw _ (List.mem_of_getElem? (i := 3) rfl))) (by decide) (backOf (W := 0) (rmOf l Z a0 hw [] i1 T103.heap n0 O104) hZ (hw _ (List.mem_of_getElem? (i := 3) rfl)) (hw _ (List.mem_of_getElem? (i := 2) rfl)) (by decide) (by decide)) (g := (mkF m 39 #[.val (.long i0), .second, .val (.long i1), .second, .val (.long i2), .second, .val (.long i3), .second, .val (.int i4), .val (.int i5), .val (.long z101), .second, .val (.long z102), .second, .val (.ref b103), .unset, .unset, .unset, .unset, .unset, .unset, .unset, .unset] [(.long i1)])) rfl (by rw [hml]; rfl) (argsL := [(.long i1)]) (rest := []) (lenOf pd_7 rfl) rfl (by show 2 * 0 + _ ≤ _; exact Nat.le_of_eq rfl) (hb hby at_39) (fun _ _ => ⟨rfl, rfl, (by decide : 1 + 1 ≤ _), (by decide : 2 + 2 ≤ _)⟩)
  dsimp only [Pt.U, Pt.locs, Pt.cells, Pt.slots] at X105 l105 y105 z105 st105 hQ105
  subst l105 y105 z105
  obtain ⟨b105, rfl, N105q, gb105, sz105, K105, Ex105, F105_parts, F105_integer⟩ := hQ105
  have N105 := Fr.app N103 N105q
  have ne105_b103 : b103 ≠ b105 := Nat.ne_of_lt (Nat.lt_of_lt_of_le (Ex103).lt sz105)
  have O106 : Old Z n0 T105.heap := (O104.keep K105 all0)
  obtain ⟨T107, h107, X107, e107, E107, A107, D107, -, st107⟩ := newO X105 hx hZ hown (hw _ (List.mem_of_getElem? (i := 16) rfl)) (hw _ (List.mem_of_getElem? (i := 17) rfl)) (hw _ (List.mem_of_getElem? (i := 18) rfl)) rfl (g := (mkF m 44 #[.val (.long i0), .second, .val (.long i1), .second, .val (.long i2), .second, .val (.long i3), .second, .val (.int i4), .val (.int i5), .val (.long z101), .second, .val (.long z102), .second, .val (.ref b103), .val (.ref b105), .unset, .unset, .unset, .unset, .unset, .unset, .unset] [])) rfl (hb hby at_44) (by decide) (by decide)
  obtain ⟨b107, g107⟩ : ∃ z, z = T105.heap.size := ⟨_, rfl⟩
  rw [← g107] at A107 D107 st107
  have gb107 : n0 ≤ b107 := by rw [g107, ← O106.1]; exact O106.2.1
  have f108 := (Ex103.keep K105)
  have ne107_b103 : b103 ≠ b107 := by rw [g107]; exact Nat.ne_of_lt (f108).lt
  have ne107_b105 : b105 ≠ b107 := by rw [g107]; exact Nat.ne_of_lt (Ex105).lt
  have F107_slots : Fld Z h107 b107 "com/example/keyfold/keyfold/KeyTable" "slots" "[J" .null := D107 (Or.inl (hw _ (List.mem_of_getElem? (i := 30) rfl))) (ty := (.array .long)) (by decide)
  have F107_others : Fld Z h107 b107 "com/example/keyfold/keyfold/KeyTable" "others" "[Lcom/example/keyfold/keyfold/Key;" .null := D107 (Or.inl (hw _ (List.mem_of_getElem? (i := 32) rfl))) (ty := (.array (.object "com/example/keyfold/keyfold/Key"))) (by decide)
  have F107_mask : Fld Z h107 b107 "com/example/keyfold/keyfold/KeyTable" "mask" "I" (.int (0 : Int32)) := D107 (Or.inl (hw _ (List.mem_of_getElem? (i := 34) rfl))) (ty := .int) (by decide)
  have F107_size : Fld Z h107 b107 "com/example/keyfold/keyfold/KeyTable" "size" "I" (.int (0 : Int32)) := D107 (Or.inl (hw _ (List.mem_of_getElem? (i := 36) rfl))) (ty := .int) (by decide)
  have F107_prefetched : Fld Z h107 b107 "com/example/keyfold/keyfold/KeyTable" "prefetched" "J" (.long (0 : Int64)) := D107 (Or.inl (hw _ (List.mem_of_getElem? (i := 79) rfl))) (ty := .long) (by decide)
  have O109 : Old Z n0 h107 := (O106.ext E107)
  obtain ⟨_, _, ⟨T110, L110, k110, n110⟩, -, X110, ⟨Lc110, hQ110, l110, y110, z110⟩, st110⟩ := X107.specialBack hx (y := (⟨"com/example/keyfold/keyfold/KeyTable", "<init>", "()V"⟩ : MethodName)) rfl hown (mvT hZ (hw _ (List.mem_of_getElem? (i := 19) rfl))) (mvT hZ (hw _ (List.mem_of_getElem? (i := 20) rfl))) (mvT hZ (hw _ (List.mem_of_getElem? (i := 21) rfl))) (by decide) (backOf (W := 1) (rmTi l Z a0 hw [] b107 h107 n0 O109 A107 F107_slots F107_others F107_mask F107_size F107_prefetched gb107) hZ (hw _ (List.mem_of_getElem? (i := 21) rfl)) (hw _ (List.mem_of_getElem? (i := 18) rfl)) (by decide) (by decide)) (g := (mkF m 48 #[.val (.long i0), .second, .val (.long i1), .second, .val (.long i2), .second, .val (.long i3), .second, .val (.int i4), .val (.int i5), .val (.long z101), .second, .val (.long z102), .second, .val (.ref b103), .val (.ref b105), .unset, .unset, .unset, .unset, .unset, .unset, .unset] [(.ref b107), (.ref b107)])) rfl (by rw [hml]; rfl) (Steps.refl _) (a := b107) (argsL := []) (rest := [(.ref b107)]) (lenOf pd_6 rfl) rfl (by show 2 * 0 + _ ≤ _; exact Nat.le_of_eq rfl) (hb hby at_48) (fun _ _ => ⟨rfl, e107, (by decide : 3 + 1 ≤ _), (by decide : 9 + 32 ≤ _)⟩)
  dsimp only [Pt.U, Pt.locs, Pt.cells, Pt.slots] at X110 l110 y110 z110 st110 hQ110
  subst l110 y110 z110
  obtain ⟨rfl, N110q, K110, Ex110, ⟨bt110, gbt110, szt110, net110, Fs110, Lb110⟩, Fo110, Fm110, Fz110, Fq110⟩ := hQ110
  have N110 := Fr.app N105 N110q
  have f111 := (f108.ext E107)
  have ne110_b103 : b103 ≠ bt110 := Nat.ne_of_lt (Nat.lt_of_lt_of_le (f111).lt szt110)
  have f112 := (Ex105.ext E107)
  have ne110_b105 : b105 ≠ bt110 := Nat.ne_of_lt (Nat.lt_of_lt_of_le (f112).lt szt110)
  have O113 : Old Z n0 T110.heap := (O109.keep K110 (allS gb107 all0))
  have f114 := (f111.keep K110)
  have f115 := (((F103_parts.keep K105 nin0).ext E107).keep K110 (ninS ne107_b103 nin0))
  have f116 := (((F103_integer.keep K105 nin0).ext E107).keep K110 (ninS ne107_b103 nin0))
  obtain ⟨cq117, kq117, q117a, q117b, q117c⟩ := isOf hZ rfl Ex110
  obtain ⟨_, _, ⟨T117, L117, k117, n117⟩, -, X117, ⟨Lc117, hQ117, l117, y117, z117⟩, st117⟩ := X110.virtualBack hx (y := (⟨"com/example/keyfold/keyfold/KeyTable", "put", "(Lcom/example/keyfold/keyfold/Key;J)J"⟩ : MethodName)) (z := (⟨"com/example/keyfold/keyfold/KeyTable", "put", "(Lcom/example/keyfold/keyfold/Key;J)J"⟩ : MethodName)) hown (mvT hZ (hw _ (List.mem_of_getElem? (i := 37) rfl))) (mvT hZ (hw _ (List.mem_of_getElem? (i := 38) rfl))) (notFace_of_selects (args := #[]) (mvT hZ (hw _ (List.mem_of_getElem? (i := 40) rfl)))) (mvT hZ (hw _ (List.mem_of_getElem? (i := 40) rfl))) (mvT hZ (hw _ (List.mem_of_getElem? (i := 39) rfl))) (by decide) (backOf (W := 0) (rmPB l Z a0 hw [] b107 b103 bt110 (fun _ => 0) (0 : Int32) (own_s i0) i0 (0 : Int64) z101 T110.heap n0 O113 Ex110 Fs110 Fo110 Fm110 Fz110 Lb110 Fq110 f114 f115 f116 net110 ne110_b103 ne107_b103 gb107 gbt110 (own_F0 i0) rfl (by decide)) hZ (hw _ (List.mem_of_getElem? (i := 41) rfl)) (hw _ (List.mem_of_getElem? (i := 18) rfl)) (by decide) (by decide)) q117a q117c (g := (mkF m 59 #[.val (.long i0), .second, .val (.long i1), .second, .val (.long i2), .second, .val (.long i3), .second, .val (.int i4), .val (.int i5), .val (.long z101), .second, .val (.long z102), .second, .val (.ref b103), .val (.ref b105), .val (.ref b107), .unset, .unset, .unset, .unset, .unset, .unset] [(.long z101), (.ref b103), (.ref b107)])) rfl (by rw [hml]; rfl) (Steps.refl _) (argsL := [(.ref b103), (.long z101)]) (rest := []) (lenOf pd_8 rfl) rfl (by show 2 * 0 + _ ≤ _; exact Nat.le_of_eq rfl) (hb hby at_59) (fun _ _ => ⟨rfl, rfl, (by decide : 4 + 0 ≤ _), (by decide : 41 + 0 ≤ _)⟩)
  dsimp only [Pt.U, Pt.locs, Pt.cells, Pt.slots] at X117 l117 y117 z117 st117 hQ117
  subst l117 y117 z117
  obtain ⟨rfl, N117q, K117, Ex117, Fs117, Fo117, Fm117, Fz117, Lb117, Fq117⟩ := hQ117
  have N117 := Fr.app N110 N117q
  obtain ⟨g117, hf117⟩ : ∃ g : Int32 → Int64, g = (upd (upd (fun _ => 0) ((2 : Int32) * (own_s i0)) i0) (((2 : Int32) * (own_s i0)) + (1 : Int32)) z101) := ⟨_, rfl⟩
  rw [← hf117] at Lb117
  have pre118 : ∀ t, Steps p.tables e below (T117.setTop (mkF m 63 #[.val (.long i0), .second, .val (.long i1), .second, .val (.long i2), .second, .val (.long i3), .second, .val (.int i4), .val (.int i5), .val (.long z101), .second, .val (.long z102), .second, .val (.ref b103), .val (.ref b105), .val (.ref b107), .unset, .unset, .unset, .unset, .unset, .unset] [])) t → Steps p.tables e below (s₁.setTop (entryFrame m #[(.long i0), (.long i1), (.long i2), (.long i3), (.int i4), (.int i5)] maxLocals)) t := fun t kt => pre102 t (by
      show Steps p.tables e below (s₁.setTop (mkF m 30 #[.val (.long i0), .second, .val (.long i1), .second, .val (.long i2), .second, .val (.long i3), .second, .val (.int i4), .val (.int i5), .val (.long z101), .second, .unset, .unset, .unset, .unset, .unset, .unset, .unset, .unset, .unset, .unset, .unset] [(.long z102)])) _
      refine XS.lstore X0.here hx rfl (hb hby at_30) rfl (l' := #[.val (.long i0), .second, .val (.long i1), .second, .val (.long i2), .second, .val (.long i3), .second, .val (.int i4), .val (.int i5), .val (.long z101), .second, .val (.long z102), .second, .unset, .unset, .unset, .unset, .unset, .unset, .unset, .unset, .unset]) rfl ?_
      show Steps p.tables e below (s₁.setTop (mkF m 32 #[.val (.long i0), .second, .val (.long i1), .second, .val (.long i2), .second, .val (.long i3), .second, .val (.int i4), .val (.int i5), .val (.long z101), .second, .val (.long z102), .second, .unset, .unset, .unset, .unset, .unset, .unset, .unset, .unset, .unset] [])) _
      refine XS.lloadN X0.here hx rfl (hb hby at_32) rfl ?_
      show Steps p.tables e below (s₁.setTop (mkF m 33 #[.val (.long i0), .second, .val (.long i1), .second, .val (.long i2), .second, .val (.long i3), .second, .val (.int i4), .val (.int i5), .val (.long z101), .second, .val (.long z102), .second, .unset, .unset, .unset, .unset, .unset, .unset, .unset, .unset, .unset] [(.long i0)])) _
      refine st103 _ ?_
      show Steps p.tables e below (T103.setTop (mkF m 36 #[.val (.long i0), .second, .val (.long i1), .second, .val (.long i2), .second, .val (.long i3), .second, .val (.int i4), .val (.int i5), .val (.long z101), .second, .val (.long z102), .second, .unset, .unset, .unset, .unset, .unset, .unset, .unset, .unset, .unset] [(.ref b103)])) _
      refine XS.astore X103.here hx rfl (hb hby at_36) rfl rfl (l' := #[.val (.long i0), .second, .val (.long i1), .second, .val (.long i2), .second, .val (.long i3), .second, .val (.int i4), .val (.int i5), .val (.long z101), .second, .val (.long z102), .second, .val (.ref b103), .unset, .unset, .unset, .unset, .unset, .unset, .unset, .unset]) rfl ?_
      show Steps p.tables e below (T103.setTop (mkF m 38 #[.val (.long i0), .second, .val (.long i1), .second, .val (.long i2), .second, .val (.long i3), .second, .val (.int i4), .val (.int i5), .val (.long z101), .second, .val (.long z102), .second, .val (.ref b103), .unset, .unset, .unset, .unset, .unset, .unset, .unset, .unset] [])) _
      refine XS.lloadN X103.here hx rfl (hb hby at_38) rfl ?_
      show Steps p.tables e below (T103.setTop (mkF m 39 #[.val (.long i0), .second, .val (.long i1), .second, .val (.long i2), .second, .val (.long i3), .second, .val (.int i4), .val (.int i5), .val (.long z101), .second, .val (.long z102), .second, .val (.ref b103), .unset, .unset, .unset, .unset, .unset, .unset, .unset, .unset] [(.long i1)])) _
      refine st105 _ ?_
      show Steps p.tables e below (T105.setTop (mkF m 42 #[.val (.long i0), .second, .val (.long i1), .second, .val (.long i2), .second, .val (.long i3), .second, .val (.int i4), .val (.int i5), .val (.long z101), .second, .val (.long z102), .second, .val (.ref b103), .unset, .unset, .unset, .unset, .unset, .unset, .unset, .unset] [(.ref b105)])) _
      refine XS.astore X105.here hx rfl (hb hby at_42) rfl rfl (l' := #[.val (.long i0), .second, .val (.long i1), .second, .val (.long i2), .second, .val (.long i3), .second, .val (.int i4), .val (.int i5), .val (.long z101), .second, .val (.long z102), .second, .val (.ref b103), .val (.ref b105), .unset, .unset, .unset, .unset, .unset, .unset, .unset]) rfl ?_
      show Steps p.tables e below (T105.setTop (mkF m 44 #[.val (.long i0), .second, .val (.long i1), .second, .val (.long i2), .second, .val (.long i3), .second, .val (.int i4), .val (.int i5), .val (.long z101), .second, .val (.long z102), .second, .val (.ref b103), .val (.ref b105), .unset, .unset, .unset, .unset, .unset, .unset, .unset] [])) _
      refine st107 _ ?_
      show Steps p.tables e below (T107.setTop (mkF m 47 #[.val (.long i0), .second, .val (.long i1), .second, .val (.long i2), .second, .val (.long i3), .second, .val (.int i4), .val (.int i5), .val (.long z101), .second, .val (.long z102), .second, .val (.ref b103), .val (.ref b105), .unset, .unset, .unset, .unset, .unset, .unset, .unset] [(.ref b107)])) _
      refine XS.dup X107.here hx rfl (hb hby at_47) rfl rfl ?_
      show Steps p.tables e below (T107.setTop (mkF m 48 #[.val (.long i0), .second, .val (.long i1), .second, .val (.long i2), .second, .val (.long i3), .second, .val (.int i4), .val (.int i5), .val (.long z101), .second, .val (.long z102), .second, .val (.ref b103), .val (.ref b105), .unset, .unset, .unset, .unset, .unset, .unset, .unset] [(.ref b107), (.ref b107)])) _
      refine st110.trans ?_
      show Steps p.tables e below (T110.setTop (mkF m 51 #[.val (.long i0), .second, .val (.long i1), .second, .val (.long i2), .second, .val (.long i3), .second, .val (.int i4), .val (.int i5), .val (.long z101), .second, .val (.long z102), .second, .val (.ref b103), .val (.ref b105), .unset, .unset, .unset, .unset, .unset, .unset, .unset] [(.ref b107)])) _
      refine XS.astore X110.here hx rfl (hb hby at_51) rfl rfl (l' := #[.val (.long i0), .second, .val (.long i1), .second, .val (.long i2), .second, .val (.long i3), .second, .val (.int i4), .val (.int i5), .val (.long z101), .second, .val (.long z102), .second, .val (.ref b103), .val (.ref b105), .val (.ref b107), .unset, .unset, .unset, .unset, .unset, .unset]) rfl ?_
      show Steps p.tables e below (T110.setTop (mkF m 53 #[.val (.long i0), .second, .val (.long i1), .second, .val (.long i2), .second, .val (.long i3), .second, .val (.int i4), .val (.int i5), .val (.long z101), .second, .val (.long z102), .second, .val (.ref b103), .val (.ref b105), .val (.ref b107), .unset, .unset, .unset, .unset, .unset, .unset] [])) _
      refine XS.aload X110.here hx rfl (hb hby at_53) rfl rfl ?_
      show Steps p.tables e below (T110.setTop (mkF m 55 #[.val (.long i0), .second, .val (.long i1), .second, .val (.long i2), .second, .val (.long i3), .second, .val (.int i4), .val (.int i5), .val (.long z101), .second, .val (.long z102), .second, .val (.ref b103), .val (.ref b105), .val (.ref b107), .unset, .unset, .unset, .unset, .unset, .unset] [(.ref b107)])) _
      refine XS.aload X110.here hx rfl (hb hby at_55) rfl rfl ?_
      show Steps p.tables e below (T110.setTop (mkF m 57 #[.val (.long i0), .second, .val (.long i1), .second, .val (.long i2), .second, .val (.long i3), .second, .val (.int i4), .val (.int i5), .val (.long z101), .second, .val (.long z102), .second, .val (.ref b103), .val (.ref b105), .val (.ref b107), .unset, .unset, .unset, .unset, .unset, .unset] [(.ref b103), (.ref b107)])) _
      refine XS.lload X110.here hx rfl (hb hby at_57) rfl ?_
      show Steps p.tables e below (T110.setTop (mkF m 59 #[.val (.long i0), .second, .val (.long i1), .second, .val (.long i2), .second, .val (.long i3), .second, .val (.int i4), .val (.int i5), .val (.long z101), .second, .val (.long z102), .second, .val (.ref b103), .val (.ref b105), .val (.ref b107), .unset, .unset, .unset, .unset, .unset, .unset] [(.long z101), (.ref b103), (.ref b107)])) _
      refine st117.trans ?_
      show Steps p.tables e below (T117.setTop (mkF m 62 #[.val (.long i0), .second, .val (.long i1), .second, .val (.long i2), .second, .val (.long i3), .second, .val (.int i4), .val (.int i5), .val (.long z101), .second, .val (.long z102), .second, .val (.ref b103), .val (.ref b105), .val (.ref b107), .unset, .unset, .unset, .unset, .unset, .unset] [(.long ((upd (fun _ => 0) ((2 : Int32) * (own_s i0)) i0) (((2 : Int32) * (own_s i0)) + (1 : Int32))))])) _
      jvm_step X117.here [X117.here.top, hx, (hb hby at_62), Value.category]
      exact kt)
  have hp1 : g117 = own_p (fun _ => 0) (own_s i0) i0 z101 := hf117
  by_cases hc119 : i0 = i1
  · skip
    have es : own_s i1 = own_s i0 := by rw [hc119]
    have hv2 : ¬ (g117 (((2 : Int32) * (own_s i0)) + (1 : Int32))) = (0 : Int64) := by rw [hp1, own_pv]; exact (own_nz hz101 (by decide) id)
    have hF2 : Fnd g117 i1 (own_s i0) := by
      refine Or.inr (Or.inl ⟨?_, ?_, es.symm⟩)
      · rw [es]; exact hv2
      · rw [es, hp1, own_pk (own_s16 _)]; exact hc119
    have O120 : Old Z n0 T117.heap := (O113.keep K117 (allS gb107 (allS gbt110 all0)))
    have f121 := ((f112.keep K110).keep K117)
    have f122 := (((F105_parts.ext E107).keep K110 (ninS ne107_b105 nin0)).keep K117 (ninS ne107_b105 (ninS ne110_b105 nin0)))
    have f123 := (((F105_integer.ext E107).keep K110 (ninS ne107_b105 nin0)).keep K117 (ninS ne107_b105 (ninS ne110_b105 nin0)))
    obtain ⟨cq124, kq124, q124a, q124b, q124c⟩ := isOf hZ rfl Ex117
    obtain ⟨_, _, ⟨T124, L124, k124, n124⟩, -, X124, ⟨Lc124, hQ124, l124, y124, z124⟩, st124⟩ := X117.virtualBack hx (y := (⟨"com/example/keyfold/keyfold/KeyTable", "put", "(Lcom/example/keyfold/keyfold/Key;J)J"⟩ : MethodName)) (z := (⟨"com/example/keyfold/keyfold/KeyTable", "put", "(Lcom/example/keyfold/keyfold/Key;J)J"⟩ : MethodName)) hown (mvT hZ (hw _ (List.mem_of_getElem? (i := 37) rfl))) (mvT hZ (hw _ (List.mem_of_getElem? (i := 38) rfl))) (notFace_of_selects (args := #[]) (mvT hZ (hw _ (List.mem_of_getElem? (i := 40) rfl)))) (mvT hZ (hw _ (List.mem_of_getElem? (i := 40) rfl))) (mvT hZ (hw _ (List.mem_of_getElem? (i := 39) rfl))) (by decide) (backOf (W := 0) (rmPA l Z a0 hw [] b107 b105 bt110 g117 (1 : Int32) (own_s i0) i1 (0 : Int64) z102 T117.heap n0 O120 Ex117 Fs117 Fo117 Fm117 Fz117 Lb117 Fq117 f121 f122 f123 net110 ne110_b105 ne107_b105 gb107 gbt110 hF2 hv2) hZ (hw _ (List.mem_of_getElem? (i := 41) rfl)) (hw _ (List.mem_of_getElem? (i := 18) rfl)) (by decide) (by decide)) q124a q124c (g := (mkF m 69 #[.val (.long i0), .second, .val (.long i1), .second, .val (.long i2), .second, .val (.long i3), .second, .val (.int i4), .val (.int i5), .val (.long z101), .second, .val (.long z102), .second, .val (.ref b103), .val (.ref b105), .val (.ref b107), .unset, .unset, .unset, .unset, .unset, .unset] [(.long z102), (.ref b105), (.ref b107)])) rfl (by rw [hml]; rfl) (Steps.refl _) (argsL := [(.ref b105), (.long z102)]) (rest := []) (lenOf pd_8 rfl) rfl (by show 2 * 0 + _ ≤ _; exact Nat.le_of_eq rfl) (hb hby at_69) (fun _ _ => ⟨rfl, rfl, (by decide : 4 + 0 ≤ _), (by decide : 41 + 0 ≤ _)⟩)
    dsimp only [Pt.U, Pt.locs, Pt.cells, Pt.slots] at X124 l124 y124 z124 st124 hQ124
    subst l124 y124 z124
    obtain ⟨rfl, N124q, K124, Ex124, Fs124, Fo124, Fm124, Fz124, Lb124, Fq124⟩ := hQ124
    have N124 := Fr.app N117 N124q
    obtain ⟨g124, hf124⟩ : ∃ g : Int32 → Int64, g = (upd g117 (((2 : Int32) * (own_s i0)) + (1 : Int32)) z102) := ⟨_, rfl⟩
    rw [← hf124] at Lb124
    have pre125 : ∀ t, Steps p.tables e below (T124.setTop (mkF m 73 #[.val (.long i0), .second, .val (.long i1), .second, .val (.long i2), .second, .val (.long i3), .second, .val (.int i4), .val (.int i5), .val (.long z101), .second, .val (.long z102), .second, .val (.ref b103), .val (.ref b105), .val (.ref b107), .unset, .unset, .unset, .unset, .unset, .unset] [])) t → Steps p.tables e below (s₁.setTop (entryFrame m #[(.long i0), (.long i1), (.long i2), (.long i3), (.int i4), (.int i5)] maxLocals)) t := fun t kt => pre118 t (by
        show Steps p.tables e below (T117.setTop (mkF m 63 #[.val (.long i0), .second, .val (.long i1), .second, .val (.long i2), .second, .val (.long i3), .second, .val (.int i4), .val (.int i5), .val (.long z101), .second, .val (.long z102), .second, .val (.ref b103), .val (.ref b105), .val (.ref b107), .unset, .unset, .unset, .unset, .unset, .unset] [])) _
        refine XS.aload X117.here hx rfl (hb hby at_63) rfl rfl ?_
        show Steps p.tables e below (T117.setTop (mkF m 65 #[.val (.long i0), .second, .val (.long i1), .second, .val (.long i2), .second, .val (.long i3), .second, .val (.int i4), .val (.int i5), .val (.long z101), .second, .val (.long z102), .second, .val (.ref b103), .val (.ref b105), .val (.ref b107), .unset, .unset, .unset, .unset, .unset, .unset] [(.ref b107)])) _
        refine XS.aload X117.here hx rfl (hb hby at_65) rfl rfl ?_
        show Steps p.tables e below (T117.setTop (mkF m 67 #[.val (.long i0), .second, .val (.long i1), .second, .val (.long i2), .second, .val (.long i3), .second, .val (.int i4), .val (.int i5), .val (.long z101), .second, .val (.long z102), .second, .val (.ref b103), .val (.ref b105), .val (.ref b107), .unset, .unset, .unset, .unset, .unset, .unset] [(.ref b105), (.ref b107)])) _
        refine XS.lload X117.here hx rfl (hb hby at_67) rfl ?_
        show Steps p.tables e below (T117.setTop (mkF m 69 #[.val (.long i0), .second, .val (.long i1), .second, .val (.long i2), .second, .val (.long i3), .second, .val (.int i4), .val (.int i5), .val (.long z101), .second, .val (.long z102), .second, .val (.ref b103), .val (.ref b105), .val (.ref b107), .unset, .unset, .unset, .unset, .unset, .unset] [(.long z102), (.ref b105), (.ref b107)])) _
        refine st124.trans ?_
        show Steps p.tables e below (T124.setTop (mkF m 72 #[.val (.long i0), .second, .val (.long i1), .second, .val (.long i2), .second, .val (.long i3), .second, .val (.int i4), .val (.int i5), .val (.long z101), .second, .val (.long z102), .second, .val (.ref b103), .val (.ref b105), .val (.ref b107), .unset, .unset, .unset, .unset, .unset, .unset] [(.long (g117 (((2 : Int32) * (own_s i0)) + (1 : Int32))))])) _
        jvm_step X124.here [X124.here.top, hx, (hb hby at_72), Value.category]
        exact kt)
    have hp2 : g124 = upd g117 (((2 : Int32) * (own_s i0)) + (1 : Int32)) z102 := hf124
    have q1 : (g124 (((2 : Int32) * (own_s i0)) + (1 : Int32))) = z102 := by rw [hp2]; exact upd_hit rfl
    have q2 : (g124 ((2 : Int32) * (own_s i0))) = i0 := by rw [hp2, upd_miss (own_01 (own_s16 _) (own_s16 _)), hp1, own_pk (own_s16 _)]
    have hG1 : Fnd g124 i0 (own_s i0) := Or.inr (Or.inl ⟨by rw [q1]; exact (own_nz hz102 (by decide) id), q2, rfl⟩)
    have hG2 : Fnd g124 i1 (own_s i0) := by rw [← hc119]; exact hG1
    have qa : (g124 (((2 : Int32) * (own_s i0)) + (1 : Int32))) = z102 := q1
    have qb : (g124 (((2 : Int32) * (own_s i0)) + (1 : Int32))) = z102 := q1
    have O126 : Old Z n0 T124.heap := (O120.keep K124 (allS gb107 (allS gbt110 all0)))
    obtain ⟨T127, h127, k127, X127, e127, E127, A127, st127⟩ := newP X124 hx hZ (hw _ (List.mem_of_getElem? (i := 69) rfl)) rfl (g := (mkF m 74 #[.val (.long i0), .second, .val (.long i1), .second, .val (.long i2), .second, .val (.long i3), .second, .val (.int i4), .val (.int i5), .val (.long z101), .second, .val (.long z102), .second, .val (.ref b103), .val (.ref b105), .val (.ref b107), .unset, .unset, .unset, .unset, .unset, .unset] [(.int (3 : Int32))])) rfl (hb hby at_74) rfl (by decide) (cap := 3) (by decide) (by decide) (by decide) (by decide)
    obtain ⟨b127, g127⟩ : ∃ z, z = T124.heap.size := ⟨_, rfl⟩
    rw [← g127] at A127 st127
    have gb127 : n0 ≤ b127 := by rw [g127, ← O126.1]; exact O126.2.1
    have f128 := ((f114.keep K117).keep K124)
    have ne127_b103 : b103 ≠ b127 := by rw [g127]; exact Nat.ne_of_lt (f128).lt
    have f129 := (f121.keep K124)
    have ne127_b105 : b105 ≠ b127 := by rw [g127]; exact Nat.ne_of_lt (f129).lt
    have ne127_b107 : b107 ≠ b127 := by rw [g127]; exact Nat.ne_of_lt (Ex124).lt
    have ne127_bt110 : bt110 ≠ b127 := by rw [g127]; exact Nat.ne_of_lt (Lb124).lt
    have V127 : Arv Z h127 b127 k127 .int (3 : Int32) [(.int (0 : Int32)), (.int (0 : Int32)), (.int (0 : Int32))] (.int (0 : Int32)) := (Arv.new A127 (by decide)).pad (pad_rep [] (.int (0 : Int32)) 3)
    have O130 : Old Z n0 h127 := (O126.ext E127)
    have f131 := (f128.ext E127)
    have f132 := (((f115.keep K117 (ninS ne107_b103 (ninS ne110_b103 nin0))).keep K124 (ninS ne107_b103 (ninS ne110_b103 nin0))).ext E127)
    have f133 := (((f116.keep K117 (ninS ne107_b103 (ninS ne110_b103 nin0))).keep K124 (ninS ne107_b103 (ninS ne110_b103 nin0))).ext E127)
    obtain ⟨_, _, ⟨T134, L134, k134, n134⟩, -, X134, ⟨Lc134, hQ134, l134, y134, z134⟩, st134⟩ := Jvm.LawKit.callS X127 hx (y := (⟨"com/example/keyfold/keyfold/KeyTable", "hash", "(Lcom/example/keyfold/keyfold/Key;)I"⟩ : MethodName)) hown (mvT hZ (hw _ (List.mem_of_getElem? (i := 70) rfl))) (mvT hZ (hw _ (List.mem_of_getElem? (i := 71) rfl))) (mvT hZ (hw _ (List.mem_of_getElem? (i := 18) rfl))) (mvT hZ (hw _ (List.mem_of_getElem? (i := 72) rfl))) (by decide) (backOf (W := 2) (rmHk l Z a0 hw [] b103 i0 h127 n0 O130 f131 f132 f133) hZ (hw _ (List.mem_of_getElem? (i := 72) rfl)) (hw _ (List.mem_of_getElem? (i := 18) rfl)) (by decide) (by decide)) (g := (mkF m 83 #[.val (.long i0), .second, .val (.long i1), .second, .val (.long i2), .second, .val (.long i3), .second, .val (.int i4), .val (.int i5), .val (.long z101), .second, .val (.long z102), .second, .val (.ref b103), .val (.ref b105), .val (.ref b107), .val (.ref b127), .unset, .unset, .unset, .unset, .unset] [(.ref b103), (.int (0 : Int32)), (.ref b127)])) rfl (by rw [hml]; rfl) (argsL := [(.ref b103)]) (rest := [(.int (0 : Int32)), (.ref b127)]) (lenOf pd_5 rfl) rfl (by show 2 * 0 + _ ≤ _; exact Nat.le_of_eq rfl) (hb hby at_83) (fun _ _ => ⟨rfl, e127, (by decide : 5 + 0 ≤ _), (by decide : 44 + 0 ≤ _)⟩)
    dsimp only [Pt.U, Pt.locs, Pt.cells, Pt.slots] at X134 l134 y134 z134 st134 hQ134
    subst l134 y134 z134
    obtain ⟨rfl, N134q, hh134⟩ := hQ134
    have N134 := Fr.app N124 N134q
    obtain ⟨cl135, Ar135, q135, S135, N135_, H135, G135⟩ := id V127
    have hin135 : ¬ ((0 : Int32) < 0 ∨ cl135.slots.size ≤ ((0 : Int32)).toNatClampNeg) := inb_of S135 ⟨by decide, by decide⟩
    obtain ⟨T136, h136, X136, e136, W136, st136⟩ := stI X134 hx hZ hh134 Ar135 (j := (0 : Int32)) hin135 (g := (mkF m 86 #[.val (.long i0), .second, .val (.long i1), .second, .val (.long i2), .second, .val (.long i3), .second, .val (.int i4), .val (.int i5), .val (.long z101), .second, .val (.long z102), .second, .val (.ref b103), .val (.ref b105), .val (.ref b107), .val (.ref b127), .unset, .unset, .unset, .unset, .unset] [(.int (own_h i0)), (.int (0 : Int32)), (.ref b127)])) rfl rfl (hb hby at_86)
    have V136 : Arv Z h136 b127 k127 .int (3 : Int32) [(.int (own_h i0)), (.int (0 : Int32)), (.int (0 : Int32))] (.int (0 : Int32)) := Arv.set Ar135 q135 S135 N135_ H135 G135 rfl W136 0 rfl (Nat.le_of_ble_eq_true rfl)
    have N136 := Fr.snoc X136 N134 gb127
    obtain ⟨cl137, Ar137, q137, S137, N137_, H137, G137⟩ := id V136
    have hin137 : ¬ ((1 : Int32) < 0 ∨ cl137.slots.size ≤ ((1 : Int32)).toNatClampNeg) := inb_of S137 ⟨by decide, by decide⟩
    obtain ⟨T138, h138, X138, e138, W138, st138⟩ := stI X136 hx hZ e136 Ar137 (j := (1 : Int32)) hin137 (g := (mkF m 92 #[.val (.long i0), .second, .val (.long i1), .second, .val (.long i2), .second, .val (.long i3), .second, .val (.int i4), .val (.int i5), .val (.long z101), .second, .val (.long z102), .second, .val (.ref b103), .val (.ref b105), .val (.ref b107), .val (.ref b127), .unset, .unset, .unset, .unset, .unset] [(.int i4), (.int (1 : Int32)), (.ref b127)])) rfl rfl (hb hby at_92)
    have V138 : Arv Z h138 b127 k127 .int (3 : Int32) [(.int (own_h i0)), (.int i4), (.int (0 : Int32))] (.int (0 : Int32)) := Arv.set Ar137 q137 S137 N137_ H137 G137 rfl W138 1 rfl (Nat.le_of_ble_eq_true rfl)
    have N138 := Fr.snoc X138 N136 gb127
    obtain ⟨cl139, Ar139, q139, S139, N139_, H139, G139⟩ := id V138
    have hin139 : ¬ ((0 : Int32) < 0 ∨ cl139.slots.size ≤ ((0 : Int32)).toNatClampNeg) := inb_of S139 ⟨by decide, by decide⟩
    have hat139 : cl139.slots[((0 : Int32)).toNatClampNeg]? = some (.int (own_h i0)) := H139.at hin139 rfl
    obtain ⟨cl140, Ar140, q140, S140, N140_, H140, G140⟩ := id V138
    have hin140 : ¬ ((2 : Int32) < 0 ∨ cl140.slots.size ≤ ((2 : Int32)).toNatClampNeg) := inb_of S140 ⟨by decide, by decide⟩
    obtain ⟨T141, h141, X141, e141, W141, st141⟩ := stI X138 hx hZ e138 Ar140 (j := (2 : Int32)) hin140 (g := (mkF m 103 #[.val (.long i0), .second, .val (.long i1), .second, .val (.long i2), .second, .val (.long i3), .second, .val (.int i4), .val (.int i5), .val (.long z101), .second, .val (.long z102), .second, .val (.ref b103), .val (.ref b105), .val (.ref b107), .val (.ref b127), .unset, .unset, .unset, .unset, .unset] [(.int (i4 ^^^ (own_h i0))), (.int (2 : Int32)), (.ref b127)])) rfl rfl (hb hby at_103)
    have V141 : Arv Z h141 b127 k127 .int (3 : Int32) [(.int (own_h i0)), (.int i4), (.int (i4 ^^^ (own_h i0)))] (.int (0 : Int32)) := Arv.set Ar140 q140 S140 N140_ H140 G140 rfl W141 2 rfl (Nat.le_of_ble_eq_true rfl)
    have N141 := Fr.snoc X141 N138 gb127
    have pre142 : ∀ t, Steps p.tables e below (T141.setTop (mkF m 108 #[.val (.long i0), .second, .val (.long i1), .second, .val (.long i2), .second, .val (.long i3), .second, .val (.int i4), .val (.int i5), .val (.long z101), .second, .val (.long z102), .second, .val (.ref b103), .val (.ref b105), .val (.ref b107), .val (.ref b127), .unset, .unset, .unset, .unset, .unset] [(.int (i5 &&& (3 : Int32)))])) t → Steps p.tables e below (s₁.setTop (entryFrame m #[(.long i0), (.long i1), (.long i2), (.long i3), (.int i4), (.int i5)] maxLocals)) t := fun t kt => pre125 t (by
        show Steps p.tables e below (T124.setTop (mkF m 73 #[.val (.long i0), .second, .val (.long i1), .second, .val (.long i2), .second, .val (.long i3), .second, .val (.int i4), .val (.int i5), .val (.long z101), .second, .val (.long z102), .second, .val (.ref b103), .val (.ref b105), .val (.ref b107), .unset, .unset, .unset, .unset, .unset, .unset] [])) _
        refine XS.iconst X124.here hx rfl (hb hby at_73) ?_
        show Steps p.tables e below (T124.setTop (mkF m 74 #[.val (.long i0), .second, .val (.long i1), .second, .val (.long i2), .second, .val (.long i3), .second, .val (.int i4), .val (.int i5), .val (.long z101), .second, .val (.long z102), .second, .val (.ref b103), .val (.ref b105), .val (.ref b107), .unset, .unset, .unset, .unset, .unset, .unset] [(.int (3 : Int32))])) _
        refine st127 _ ?_
        show Steps p.tables e below (T127.setTop (mkF m 76 #[.val (.long i0), .second, .val (.long i1), .second, .val (.long i2), .second, .val (.long i3), .second, .val (.int i4), .val (.int i5), .val (.long z101), .second, .val (.long z102), .second, .val (.ref b103), .val (.ref b105), .val (.ref b107), .unset, .unset, .unset, .unset, .unset, .unset] [(.ref b127)])) _
        refine XS.astore X127.here hx rfl (hb hby at_76) rfl rfl (l' := #[.val (.long i0), .second, .val (.long i1), .second, .val (.long i2), .second, .val (.long i3), .second, .val (.int i4), .val (.int i5), .val (.long z101), .second, .val (.long z102), .second, .val (.ref b103), .val (.ref b105), .val (.ref b107), .val (.ref b127), .unset, .unset, .unset, .unset, .unset]) rfl ?_
        show Steps p.tables e below (T127.setTop (mkF m 78 #[.val (.long i0), .second, .val (.long i1), .second, .val (.long i2), .second, .val (.long i3), .second, .val (.int i4), .val (.int i5), .val (.long z101), .second, .val (.long z102), .second, .val (.ref b103), .val (.ref b105), .val (.ref b107), .val (.ref b127), .unset, .unset, .unset, .unset, .unset] [])) _
        refine XS.aload X127.here hx rfl (hb hby at_78) rfl rfl ?_
        show Steps p.tables e below (T127.setTop (mkF m 80 #[.val (.long i0), .second, .val (.long i1), .second, .val (.long i2), .second, .val (.long i3), .second, .val (.int i4), .val (.int i5), .val (.long z101), .second, .val (.long z102), .second, .val (.ref b103), .val (.ref b105), .val (.ref b107), .val (.ref b127), .unset, .unset, .unset, .unset, .unset] [(.ref b127)])) _
        refine XS.iconst X127.here hx rfl (hb hby at_80) ?_
        show Steps p.tables e below (T127.setTop (mkF m 81 #[.val (.long i0), .second, .val (.long i1), .second, .val (.long i2), .second, .val (.long i3), .second, .val (.int i4), .val (.int i5), .val (.long z101), .second, .val (.long z102), .second, .val (.ref b103), .val (.ref b105), .val (.ref b107), .val (.ref b127), .unset, .unset, .unset, .unset, .unset] [(.int (0 : Int32)), (.ref b127)])) _
        refine XS.aload X127.here hx rfl (hb hby at_81) rfl rfl ?_
        show Steps p.tables e below (T127.setTop (mkF m 83 #[.val (.long i0), .second, .val (.long i1), .second, .val (.long i2), .second, .val (.long i3), .second, .val (.int i4), .val (.int i5), .val (.long z101), .second, .val (.long z102), .second, .val (.ref b103), .val (.ref b105), .val (.ref b107), .val (.ref b127), .unset, .unset, .unset, .unset, .unset] [(.ref b103), (.int (0 : Int32)), (.ref b127)])) _
        refine st134 _ ?_
        show Steps p.tables e below (T134.setTop (mkF m 86 #[.val (.long i0), .second, .val (.long i1), .second, .val (.long i2), .second, .val (.long i3), .second, .val (.int i4), .val (.int i5), .val (.long z101), .second, .val (.long z102), .second, .val (.ref b103), .val (.ref b105), .val (.ref b107), .val (.ref b127), .unset, .unset, .unset, .unset, .unset] [(.int (own_h i0)), (.int (0 : Int32)), (.ref b127)])) _
        refine st136 _ ?_
        show Steps p.tables e below (T136.setTop (mkF m 87 #[.val (.long i0), .second, .val (.long i1), .second, .val (.long i2), .second, .val (.long i3), .second, .val (.int i4), .val (.int i5), .val (.long z101), .second, .val (.long z102), .second, .val (.ref b103), .val (.ref b105), .val (.ref b107), .val (.ref b127), .unset, .unset, .unset, .unset, .unset] [])) _
        refine XS.aload X136.here hx rfl (hb hby at_87) rfl rfl ?_
        show Steps p.tables e below (T136.setTop (mkF m 89 #[.val (.long i0), .second, .val (.long i1), .second, .val (.long i2), .second, .val (.long i3), .second, .val (.int i4), .val (.int i5), .val (.long z101), .second, .val (.long z102), .second, .val (.ref b103), .val (.ref b105), .val (.ref b107), .val (.ref b127), .unset, .unset, .unset, .unset, .unset] [(.ref b127)])) _
        refine XS.iconst X136.here hx rfl (hb hby at_89) ?_
        show Steps p.tables e below (T136.setTop (mkF m 90 #[.val (.long i0), .second, .val (.long i1), .second, .val (.long i2), .second, .val (.long i3), .second, .val (.int i4), .val (.int i5), .val (.long z101), .second, .val (.long z102), .second, .val (.ref b103), .val (.ref b105), .val (.ref b107), .val (.ref b127), .unset, .unset, .unset, .unset, .unset] [(.int (1 : Int32)), (.ref b127)])) _
        refine XS.iload X136.here hx rfl (hb hby at_90) rfl ?_
        show Steps p.tables e below (T136.setTop (mkF m 92 #[.val (.long i0), .second, .val (.long i1), .second, .val (.long i2), .second, .val (.long i3), .second, .val (.int i4), .val (.int i5), .val (.long z101), .second, .val (.long z102), .second, .val (.ref b103), .val (.ref b105), .val (.ref b107), .val (.ref b127), .unset, .unset, .unset, .unset, .unset] [(.int i4), (.int (1 : Int32)), (.ref b127)])) _
        refine st138 _ ?_
        show Steps p.tables e below (T138.setTop (mkF m 93 #[.val (.long i0), .second, .val (.long i1), .second, .val (.long i2), .second, .val (.long i3), .second, .val (.int i4), .val (.int i5), .val (.long z101), .second, .val (.long z102), .second, .val (.ref b103), .val (.ref b105), .val (.ref b107), .val (.ref b127), .unset, .unset, .unset, .unset, .unset] [])) _
        refine XS.aload X138.here hx rfl (hb hby at_93) rfl rfl ?_
        show Steps p.tables e below (T138.setTop (mkF m 95 #[.val (.long i0), .second, .val (.long i1), .second, .val (.long i2), .second, .val (.long i3), .second, .val (.int i4), .val (.int i5), .val (.long z101), .second, .val (.long z102), .second, .val (.ref b103), .val (.ref b105), .val (.ref b107), .val (.ref b127), .unset, .unset, .unset, .unset, .unset] [(.ref b127)])) _
        refine XS.iconst X138.here hx rfl (hb hby at_95) ?_
        show Steps p.tables e below (T138.setTop (mkF m 96 #[.val (.long i0), .second, .val (.long i1), .second, .val (.long i2), .second, .val (.long i3), .second, .val (.int i4), .val (.int i5), .val (.long z101), .second, .val (.long z102), .second, .val (.ref b103), .val (.ref b105), .val (.ref b107), .val (.ref b127), .unset, .unset, .unset, .unset, .unset] [(.int (2 : Int32)), (.ref b127)])) _
        refine XS.iload X138.here hx rfl (hb hby at_96) rfl ?_
        show Steps p.tables e below (T138.setTop (mkF m 98 #[.val (.long i0), .second, .val (.long i1), .second, .val (.long i2), .second, .val (.long i3), .second, .val (.int i4), .val (.int i5), .val (.long z101), .second, .val (.long z102), .second, .val (.ref b103), .val (.ref b105), .val (.ref b107), .val (.ref b127), .unset, .unset, .unset, .unset, .unset] [(.int i4), (.int (2 : Int32)), (.ref b127)])) _
        refine XS.aload X138.here hx rfl (hb hby at_98) rfl rfl ?_
        show Steps p.tables e below (T138.setTop (mkF m 100 #[.val (.long i0), .second, .val (.long i1), .second, .val (.long i2), .second, .val (.long i3), .second, .val (.int i4), .val (.int i5), .val (.long z101), .second, .val (.long z102), .second, .val (.ref b103), .val (.ref b105), .val (.ref b107), .val (.ref b127), .unset, .unset, .unset, .unset, .unset] [(.ref b127), (.int i4), (.int (2 : Int32)), (.ref b127)])) _
        refine XS.iconst X138.here hx rfl (hb hby at_100) ?_
        show Steps p.tables e below (T138.setTop (mkF m 101 #[.val (.long i0), .second, .val (.long i1), .second, .val (.long i2), .second, .val (.long i3), .second, .val (.int i4), .val (.int i5), .val (.long z101), .second, .val (.long z102), .second, .val (.ref b103), .val (.ref b105), .val (.ref b107), .val (.ref b127), .unset, .unset, .unset, .unset, .unset] [(.int (0 : Int32)), (.ref b127), (.int i4), (.int (2 : Int32)), (.ref b127)])) _
        refine X138.iaload hx (j := (0 : Int32)) (v := (.int (own_h i0))) (by rw [e138]; exact Ar139.1) (State.isArrayOf_alike hZ.alike Ar139.2.1) Ar139.2.2 hin139 hat139 (g := (mkF m 101 #[.val (.long i0), .second, .val (.long i1), .second, .val (.long i2), .second, .val (.long i3), .second, .val (.int i4), .val (.int i5), .val (.long z101), .second, .val (.long z102), .second, .val (.ref b103), .val (.ref b105), .val (.ref b107), .val (.ref b127), .unset, .unset, .unset, .unset, .unset] [(.int (0 : Int32)), (.ref b127), (.int i4), (.int (2 : Int32)), (.ref b127)])) rfl rfl (hb hby at_101) _ ?_
        show Steps p.tables e below (T138.setTop (mkF m 102 #[.val (.long i0), .second, .val (.long i1), .second, .val (.long i2), .second, .val (.long i3), .second, .val (.int i4), .val (.int i5), .val (.long z101), .second, .val (.long z102), .second, .val (.ref b103), .val (.ref b105), .val (.ref b107), .val (.ref b127), .unset, .unset, .unset, .unset, .unset] [(.int (own_h i0)), (.int i4), (.int (2 : Int32)), (.ref b127)])) _
        refine XS.ixor X138.here hx rfl (hb hby at_102) rfl ?_
        show Steps p.tables e below (T138.setTop (mkF m 103 #[.val (.long i0), .second, .val (.long i1), .second, .val (.long i2), .second, .val (.long i3), .second, .val (.int i4), .val (.int i5), .val (.long z101), .second, .val (.long z102), .second, .val (.ref b103), .val (.ref b105), .val (.ref b107), .val (.ref b127), .unset, .unset, .unset, .unset, .unset] [(.int (i4 ^^^ (own_h i0))), (.int (2 : Int32)), (.ref b127)])) _
        refine st141 _ ?_
        show Steps p.tables e below (T141.setTop (mkF m 104 #[.val (.long i0), .second, .val (.long i1), .second, .val (.long i2), .second, .val (.long i3), .second, .val (.int i4), .val (.int i5), .val (.long z101), .second, .val (.long z102), .second, .val (.ref b103), .val (.ref b105), .val (.ref b107), .val (.ref b127), .unset, .unset, .unset, .unset, .unset] [])) _
        refine XS.iload X141.here hx rfl (hb hby at_104) rfl ?_
        show Steps p.tables e below (T141.setTop (mkF m 106 #[.val (.long i0), .second, .val (.long i1), .second, .val (.long i2), .second, .val (.long i3), .second, .val (.int i4), .val (.int i5), .val (.long z101), .second, .val (.long z102), .second, .val (.ref b103), .val (.ref b105), .val (.ref b107), .val (.ref b127), .unset, .unset, .unset, .unset, .unset] [(.int i5)])) _
        refine XS.iconst X141.here hx rfl (hb hby at_106) ?_
        show Steps p.tables e below (T141.setTop (mkF m 107 #[.val (.long i0), .second, .val (.long i1), .second, .val (.long i2), .second, .val (.long i3), .second, .val (.int i4), .val (.int i5), .val (.long z101), .second, .val (.long z102), .second, .val (.ref b103), .val (.ref b105), .val (.ref b107), .val (.ref b127), .unset, .unset, .unset, .unset, .unset] [(.int (3 : Int32)), (.int i5)])) _
        refine XS.iand X141.here hx rfl (hb hby at_107) rfl ?_
        exact kt)
    rcases own_k i5 with hk143 | hk143 | hk143 | hk143
    · skip
      have O144 : Old Z n0 h141 := (((O130.wr W136 gb127).wr W138 gb127).wr W141 gb127)
      have f145 := ((((Ex124.ext E127).wr W136).wr W138).wr W141)
      have f146 := ((((Fs124.ext E127).other W136 (Or.inl ne127_b107)).other W138 (Or.inl ne127_b107)).other W141 (Or.inl ne127_b107))
      have f147 := ((((Fo124.ext E127).other W136 (Or.inl ne127_b107)).other W138 (Or.inl ne127_b107)).other W141 (Or.inl ne127_b107))
      have f148 := ((((Fm124.ext E127).other W136 (Or.inl ne127_b107)).other W138 (Or.inl ne127_b107)).other W141 (Or.inl ne127_b107))
      have f149 := ((((Fz124.ext E127).other W136 (Or.inl ne127_b107)).other W138 (Or.inl ne127_b107)).other W141 (Or.inl ne127_b107))
      have f150 := ((((Lb124.ext E127).other W136 ne127_bt110).other W138 ne127_bt110).other W141 ne127_bt110)
      have f151 := ((((Fq124.ext E127).other W136 (Or.inl ne127_b107)).other W138 (Or.inl ne127_b107)).other W141 (Or.inl ne127_b107))
      obtain ⟨cq152, kq152, q152a, q152b, q152c⟩ := isOf hZ e141 f145
      obtain ⟨_, _, ⟨T152, L152, k152, n152⟩, -, X152, ⟨Lc152, hQ152, l152, y152, z152⟩, st152⟩ := X141.virtualBack hx (y := (⟨"com/example/keyfold/keyfold/KeyTable", "prefetch", "([II)V"⟩ : MethodName)) (z := (⟨"com/example/keyfold/keyfold/KeyTable", "prefetch", "([II)V"⟩ : MethodName)) hown (mvT hZ (hw _ (List.mem_of_getElem? (i := 73) rfl))) (mvT hZ (hw _ (List.mem_of_getElem? (i := 74) rfl))) (notFace_of_selects (args := #[]) (mvT hZ (hw _ (List.mem_of_getElem? (i := 76) rfl)))) (mvT hZ (hw _ (List.mem_of_getElem? (i := 76) rfl))) (mvT hZ (hw _ (List.mem_of_getElem? (i := 75) rfl))) (by decide) (backOf (W := 0) (rmPf0 l Z a0 hw [] b107 bt110 b127 k127 g124 (1 : Int32) (own_h i0) i4 (i4 ^^^ (own_h i0)) (0 : Int64) h141 n0 O144 f145 f146 f147 f148 f149 f150 f151 V141 net110 ne127_b107 gb107) hZ (hw _ (List.mem_of_getElem? (i := 77) rfl)) (hw _ (List.mem_of_getElem? (i := 18) rfl)) (by decide) (by decide)) q152a q152c (g := (mkF m 116 #[.val (.long i0), .second, .val (.long i1), .second, .val (.long i2), .second, .val (.long i3), .second, .val (.int i4), .val (.int i5), .val (.long z101), .second, .val (.long z102), .second, .val (.ref b103), .val (.ref b105), .val (.ref b107), .val (.ref b127), .val (.int (0 : Int32)), .unset, .unset, .unset, .unset] [(.int (0 : Int32)), (.ref b127), (.ref b107)])) rfl (by rw [hml]; rfl) (Steps.refl _) (argsL := [(.ref b127), (.int (0 : Int32))]) (rest := []) (lenOf pd_9 rfl) rfl (by show 2 * 0 + _ ≤ _; exact Nat.le_of_eq rfl) (hb hby at_116) (fun _ _ => ⟨rfl, e141, (by decide : 5 + 0 ≤ _), (by decide : 44 + 0 ≤ _)⟩)
      dsimp only [Pt.U, Pt.locs, Pt.cells, Pt.slots] at X152 l152 y152 z152 st152 hQ152
      subst l152 y152 z152
      obtain ⟨rfl, N152q, K152, p2152, Ex152, Fs152, Fo152, Fm152, Fz152, Lb152, Fq152⟩ := hQ152
      have N152 := Fr.app N141 N152q
      have O153 : Old Z n0 T152.heap := (O144.keep K152 (allS gb107 all0))
      have f154 := ((((f131.wr W136).wr W138).wr W141).keep K152)
      have f155 := ((((f132.other W136 (Or.inl ne127_b103)).other W138 (Or.inl ne127_b103)).other W141 (Or.inl ne127_b103)).keep K152 (ninS ne107_b103 nin0))
      have f156 := ((((f133.other W136 (Or.inl ne127_b103)).other W138 (Or.inl ne127_b103)).other W141 (Or.inl ne127_b103)).keep K152 (ninS ne107_b103 nin0))
      obtain ⟨cq157, kq157, q157a, q157b, q157c⟩ := isOf hZ rfl Ex152
      obtain ⟨_, _, ⟨T157, L157, k157, n157⟩, -, X157, ⟨Lc157, hQ157, l157, y157, z157⟩, st157⟩ := X152.virtualBack hx (y := (⟨"com/example/keyfold/keyfold/KeyTable", "get", "(Lcom/example/keyfold/keyfold/Key;)J"⟩ : MethodName)) (z := (⟨"com/example/keyfold/keyfold/KeyTable", "get", "(Lcom/example/keyfold/keyfold/Key;)J"⟩ : MethodName)) hown (mvT hZ (hw _ (List.mem_of_getElem? (i := 80) rfl))) (mvT hZ (hw _ (List.mem_of_getElem? (i := 81) rfl))) (notFace_of_selects (args := #[]) (mvT hZ (hw _ (List.mem_of_getElem? (i := 83) rfl)))) (mvT hZ (hw _ (List.mem_of_getElem? (i := 83) rfl))) (mvT hZ (hw _ (List.mem_of_getElem? (i := 82) rfl))) (by decide) (backOf (W := 0) (rmG l Z a0 hw [] b107 b103 bt110 g124 (1 : Int32) (own_s i0) i0 p2152 T152.heap n0 O153 Ex152 Fs152 Fo152 Fm152 Fz152 Lb152 Fq152 f154 f155 f156 hG1) hZ (hw _ (List.mem_of_getElem? (i := 84) rfl)) (hw _ (List.mem_of_getElem? (i := 18) rfl)) (by decide) (by decide)) q157a q157c (g := (mkF m 162 #[.val (.long i0), .second, .val (.long i1), .second, .val (.long i2), .second, .val (.long i3), .second, .val (.int i4), .val (.int i5), .val (.long z101), .second, .val (.long z102), .second, .val (.ref b103), .val (.ref b105), .val (.ref b107), .val (.ref b127), .val (.int (0 : Int32)), .val (.int (1 : Int32)), .val (.long z102), .second, .val (.int (1 : Int32))] [(.ref b103), (.ref b107)])) rfl (by rw [hml]; rfl) (Steps.refl _) (argsL := [(.ref b103)]) (rest := []) (lenOf pd_10 rfl) rfl (by show 2 * 0 + _ ≤ _; exact Nat.le_of_eq rfl) (hb hby at_162) (fun _ _ => ⟨rfl, rfl, (by decide : 5 + 0 ≤ _), (by decide : 44 + 0 ≤ _)⟩)
      dsimp only [Pt.U, Pt.locs, Pt.cells, Pt.slots] at X157 l157 y157 z157 st157 hQ157
      subst l157 y157 z157
      obtain ⟨rfl, N157q, hh157⟩ := hQ157
      have N157 := Fr.app N152 N157q
      have f158 := (((((f129.ext E127).wr W136).wr W138).wr W141).keep K152)
      have f159 := ((((((f122.keep K124 (ninS ne107_b105 (ninS ne110_b105 nin0))).ext E127).other W136 (Or.inl ne127_b105)).other W138 (Or.inl ne127_b105)).other W141 (Or.inl ne127_b105)).keep K152 (ninS ne107_b105 nin0))
      have f160 := ((((((f123.keep K124 (ninS ne107_b105 (ninS ne110_b105 nin0))).ext E127).other W136 (Or.inl ne127_b105)).other W138 (Or.inl ne127_b105)).other W141 (Or.inl ne127_b105)).keep K152 (ninS ne107_b105 nin0))
      obtain ⟨cq161, kq161, q161a, q161b, q161c⟩ := isOf hZ hh157 Ex152
      obtain ⟨_, _, ⟨T161, L161, k161, n161⟩, -, X161, ⟨Lc161, hQ161, l161, y161, z161⟩, st161⟩ := X157.virtualBack hx (y := (⟨"com/example/keyfold/keyfold/KeyTable", "get", "(Lcom/example/keyfold/keyfold/Key;)J"⟩ : MethodName)) (z := (⟨"com/example/keyfold/keyfold/KeyTable", "get", "(Lcom/example/keyfold/keyfold/Key;)J"⟩ : MethodName)) hown (mvT hZ (hw _ (List.mem_of_getElem? (i := 80) rfl))) (mvT hZ (hw _ (List.mem_of_getElem? (i := 81) rfl))) (notFace_of_selects (args := #[]) (mvT hZ (hw _ (List.mem_of_getElem? (i := 83) rfl)))) (mvT hZ (hw _ (List.mem_of_getElem? (i := 83) rfl))) (mvT hZ (hw _ (List.mem_of_getElem? (i := 82) rfl))) (by decide) (backOf (W := 0) (rmG l Z a0 hw [] b107 b105 bt110 g124 (1 : Int32) (own_s i0) i1 p2152 T152.heap n0 O153 Ex152 Fs152 Fo152 Fm152 Fz152 Lb152 Fq152 f158 f159 f160 hG2) hZ (hw _ (List.mem_of_getElem? (i := 84) rfl)) (hw _ (List.mem_of_getElem? (i := 18) rfl)) (by decide) (by decide)) q161a q161c (g := (mkF m 175 #[.val (.long i0), .second, .val (.long i1), .second, .val (.long i2), .second, .val (.long i3), .second, .val (.int i4), .val (.int i5), .val (.long z101), .second, .val (.long z102), .second, .val (.ref b103), .val (.ref b105), .val (.ref b107), .val (.ref b127), .val (.int (0 : Int32)), .val (.int (1 : Int32)), .val (.long z102), .second, .val (.int (1 : Int32))] [(.ref b105), (.ref b107)])) rfl (by rw [hml]; rfl) (Steps.refl _) (argsL := [(.ref b105)]) (rest := []) (lenOf pd_10 rfl) rfl (by show 2 * 0 + _ ≤ _; exact Nat.le_of_eq rfl) (hb hby at_175) (fun _ _ => ⟨rfl, hh157, (by decide : 5 + 0 ≤ _), (by decide : 44 + 0 ≤ _)⟩)
      dsimp only [Pt.U, Pt.locs, Pt.cells, Pt.slots] at X161 l161 y161 z161 st161 hQ161
      subst l161 y161 z161
      obtain ⟨rfl, N161q, hh161⟩ := hQ161
      have N161 := Fr.app N157 N161q
      obtain ⟨cq162, kq162, q162a, q162b, q162c⟩ := isOf hZ hh161 Ex152
      obtain ⟨_, _, ⟨T162, L162, k162, n162⟩, -, X162, ⟨Lc162, hQ162, l162, y162, z162⟩, st162⟩ := X161.virtualBack hx (y := (⟨"com/example/keyfold/keyfold/KeyTable", "size", "()I"⟩ : MethodName)) (z := (⟨"com/example/keyfold/keyfold/KeyTable", "size", "()I"⟩ : MethodName)) hown (mvT hZ (hw _ (List.mem_of_getElem? (i := 85) rfl))) (mvT hZ (hw _ (List.mem_of_getElem? (i := 86) rfl))) (notFace_of_selects (args := #[]) (mvT hZ (hw _ (List.mem_of_getElem? (i := 88) rfl)))) (mvT hZ (hw _ (List.mem_of_getElem? (i := 88) rfl))) (mvT hZ (hw _ (List.mem_of_getElem? (i := 87) rfl))) (by decide) (backOf (W := 0) (rmSz l Z a0 hw [] b107 (1 : Int32) T152.heap n0 O153 Fz152) hZ (hw _ (List.mem_of_getElem? (i := 89) rfl)) (hw _ (List.mem_of_getElem? (i := 18) rfl)) (by decide) (by decide)) q162a q162c (g := (mkF m 186 #[.val (.long i0), .second, .val (.long i1), .second, .val (.long i2), .second, .val (.long i3), .second, .val (.int i4), .val (.int i5), .val (.long z101), .second, .val (.long z102), .second, .val (.ref b103), .val (.ref b105), .val (.ref b107), .val (.ref b127), .val (.int (0 : Int32)), .val (.int (1 : Int32)), .val (.long z102), .second, .val (.int (1 : Int32))] [(.ref b107)])) rfl (by rw [hml]; rfl) (Steps.refl _) (argsL := []) (rest := []) (lenOf pd_11 rfl) rfl (by show 2 * 0 + _ ≤ _; exact Nat.le_of_eq rfl) (hb hby at_186) (fun _ _ => ⟨rfl, hh161, (by decide : 5 + 0 ≤ _), (by decide : 44 + 0 ≤ _)⟩)
      dsimp only [Pt.U, Pt.locs, Pt.cells, Pt.slots] at X162 l162 y162 z162 st162 hQ162
      subst l162 y162 z162
      obtain ⟨rfl, N162q, hh162⟩ := hQ162
      have N162 := Fr.app N161 N162q
      obtain ⟨fs, hr, hrun, hended, hW, hsame⟩ := X162.leave (v := some (.int (1 : Int32))) (fun h => by rw [Bd.returns] at h; cases h)
      refine ⟨_, _, pre142 _ ?_, hrun, hended, _, _, rfl, ?_, ⟨_, rfl⟩, hW, hsame.mono (by decide) (by decide)⟩
      · skip
        show Steps p.tables e below (T141.setTop (mkF m 108 #[.val (.long i0), .second, .val (.long i1), .second, .val (.long i2), .second, .val (.long i3), .second, .val (.int i4), .val (.int i5), .val (.long z101), .second, .val (.long z102), .second, .val (.ref b103), .val (.ref b105), .val (.ref b107), .val (.ref b127), .unset, .unset, .unset, .unset, .unset] [(.int (i5 &&& (3 : Int32)))])) _
        rw [hk143]
        show Steps p.tables e below (T141.setTop (mkF m 108 #[.val (.long i0), .second, .val (.long i1), .second, .val (.long i2), .second, .val (.long i3), .second, .val (.int i4), .val (.int i5), .val (.long z101), .second, .val (.long z102), .second, .val (.ref b103), .val (.ref b105), .val (.ref b107), .val (.ref b127), .unset, .unset, .unset, .unset, .unset] [(.int (0 : Int32))])) _
        refine XS.istore X141.here hx rfl (hb hby at_108) rfl (l' := #[.val (.long i0), .second, .val (.long i1), .second, .val (.long i2), .second, .val (.long i3), .second, .val (.int i4), .val (.int i5), .val (.long z101), .second, .val (.long z102), .second, .val (.ref b103), .val (.ref b105), .val (.ref b107), .val (.ref b127), .val (.int (0 : Int32)), .unset, .unset, .unset, .unset]) rfl ?_
        show Steps p.tables e below (T141.setTop (mkF m 110 #[.val (.long i0), .second, .val (.long i1), .second, .val (.long i2), .second, .val (.long i3), .second, .val (.int i4), .val (.int i5), .val (.long z101), .second, .val (.long z102), .second, .val (.ref b103), .val (.ref b105), .val (.ref b107), .val (.ref b127), .val (.int (0 : Int32)), .unset, .unset, .unset, .unset] [])) _
        refine XS.aload X141.here hx rfl (hb hby at_110) rfl rfl ?_
        show Steps p.tables e below (T141.setTop (mkF m 112 #[.val (.long i0), .second, .val (.long i1), .second, .val (.long i2), .second, .val (.long i3), .second, .val (.int i4), .val (.int i5), .val (.long z101), .second, .val (.long z102), .second, .val (.ref b103), .val (.ref b105), .val (.ref b107), .val (.ref b127), .val (.int (0 : Int32)), .unset, .unset, .unset, .unset] [(.ref b107)])) _
        refine XS.aload X141.here hx rfl (hb hby at_112) rfl rfl ?_
        show Steps p.tables e below (T141.setTop (mkF m 114 #[.val (.long i0), .second, .val (.long i1), .second, .val (.long i2), .second, .val (.long i3), .second, .val (.int i4), .val (.int i5), .val (.long z101), .second, .val (.long z102), .second, .val (.ref b103), .val (.ref b105), .val (.ref b107), .val (.ref b127), .val (.int (0 : Int32)), .unset, .unset, .unset, .unset] [(.ref b127), (.ref b107)])) _
        refine XS.iload X141.here hx rfl (hb hby at_114) rfl ?_
        show Steps p.tables e below (T141.setTop (mkF m 116 #[.val (.long i0), .second, .val (.long i1), .second, .val (.long i2), .second, .val (.long i3), .second, .val (.int i4), .val (.int i5), .val (.long z101), .second, .val (.long z102), .second, .val (.ref b103), .val (.ref b105), .val (.ref b107), .val (.ref b127), .val (.int (0 : Int32)), .unset, .unset, .unset, .unset] [(.int (0 : Int32)), (.ref b127), (.ref b107)])) _
        refine st152.trans ?_
        show Steps p.tables e below (T152.setTop (mkF m 119 #[.val (.long i0), .second, .val (.long i1), .second, .val (.long i2), .second, .val (.long i3), .second, .val (.int i4), .val (.int i5), .val (.long z101), .second, .val (.long z102), .second, .val (.ref b103), .val (.ref b105), .val (.ref b107), .val (.ref b127), .val (.int (0 : Int32)), .unset, .unset, .unset, .unset] [])) _
        refine XS.lloadN X152.here hx rfl (hb hby at_119) rfl ?_
        show Steps p.tables e below (T152.setTop (mkF m 120 #[.val (.long i0), .second, .val (.long i1), .second, .val (.long i2), .second, .val (.long i3), .second, .val (.int i4), .val (.int i5), .val (.long z101), .second, .val (.long z102), .second, .val (.ref b103), .val (.ref b105), .val (.ref b107), .val (.ref b127), .val (.int (0 : Int32)), .unset, .unset, .unset, .unset] [(.long i0)])) _
        refine XS.lloadN X152.here hx rfl (hb hby at_120) rfl ?_
        show Steps p.tables e below (T152.setTop (mkF m 121 #[.val (.long i0), .second, .val (.long i1), .second, .val (.long i2), .second, .val (.long i3), .second, .val (.int i4), .val (.int i5), .val (.long z101), .second, .val (.long z102), .second, .val (.ref b103), .val (.ref b105), .val (.ref b107), .val (.ref b127), .val (.int (0 : Int32)), .unset, .unset, .unset, .unset] [(.long i1), (.long i0)])) _
        refine XS.lcmp X152.here hx rfl (hb hby at_121) rfl ?_
        show Steps p.tables e below (T152.setTop (mkF m 122 #[.val (.long i0), .second, .val (.long i1), .second, .val (.long i2), .second, .val (.long i3), .second, .val (.int i4), .val (.int i5), .val (.long z101), .second, .val (.long z102), .second, .val (.ref b103), .val (.ref b105), .val (.ref b107), .val (.ref b127), .val (.int (0 : Int32)), .unset, .unset, .unset, .unset] [(.int (lcmpW i0 i1))])) _
        refine XS.ifNo X152.here hx rfl (hb hby at_122) rfl ((if0 _ _).trans (teq ((lw_eq _ _).mpr hc119)).2) ?_
        show Steps p.tables e below (T152.setTop (mkF m 125 #[.val (.long i0), .second, .val (.long i1), .second, .val (.long i2), .second, .val (.long i3), .second, .val (.int i4), .val (.int i5), .val (.long z101), .second, .val (.long z102), .second, .val (.ref b103), .val (.ref b105), .val (.ref b107), .val (.ref b127), .val (.int (0 : Int32)), .unset, .unset, .unset, .unset] [])) _
        refine XS.iconst X152.here hx rfl (hb hby at_125) ?_
        show Steps p.tables e below (T152.setTop (mkF m 126 #[.val (.long i0), .second, .val (.long i1), .second, .val (.long i2), .second, .val (.long i3), .second, .val (.int i4), .val (.int i5), .val (.long z101), .second, .val (.long z102), .second, .val (.ref b103), .val (.ref b105), .val (.ref b107), .val (.ref b127), .val (.int (0 : Int32)), .unset, .unset, .unset, .unset] [(.int (1 : Int32))])) _
        refine XS.goto X152.here hx rfl (pc0 := 126) (pc' := 130) rfl (hb hby at_126) (by decide) (by decide) ?_
        show Steps p.tables e below (T152.setTop (mkF m 130 #[.val (.long i0), .second, .val (.long i1), .second, .val (.long i2), .second, .val (.long i3), .second, .val (.int i4), .val (.int i5), .val (.long z101), .second, .val (.long z102), .second, .val (.ref b103), .val (.ref b105), .val (.ref b107), .val (.ref b127), .val (.int (0 : Int32)), .unset, .unset, .unset, .unset] [(.int (1 : Int32))])) _
        refine XS.istore X152.here hx rfl (hb hby at_130) rfl (l' := #[.val (.long i0), .second, .val (.long i1), .second, .val (.long i2), .second, .val (.long i3), .second, .val (.int i4), .val (.int i5), .val (.long z101), .second, .val (.long z102), .second, .val (.ref b103), .val (.ref b105), .val (.ref b107), .val (.ref b127), .val (.int (0 : Int32)), .val (.int (1 : Int32)), .unset, .unset, .unset]) rfl ?_
        show Steps p.tables e below (T152.setTop (mkF m 132 #[.val (.long i0), .second, .val (.long i1), .second, .val (.long i2), .second, .val (.long i3), .second, .val (.int i4), .val (.int i5), .val (.long z101), .second, .val (.long z102), .second, .val (.ref b103), .val (.ref b105), .val (.ref b107), .val (.ref b127), .val (.int (0 : Int32)), .val (.int (1 : Int32)), .unset, .unset, .unset] [])) _
        refine XS.iload X152.here hx rfl (hb hby at_132) rfl ?_
        show Steps p.tables e below (T152.setTop (mkF m 134 #[.val (.long i0), .second, .val (.long i1), .second, .val (.long i2), .second, .val (.long i3), .second, .val (.int i4), .val (.int i5), .val (.long z101), .second, .val (.long z102), .second, .val (.ref b103), .val (.ref b105), .val (.ref b107), .val (.ref b127), .val (.int (0 : Int32)), .val (.int (1 : Int32)), .unset, .unset, .unset] [(.int (1 : Int32))])) _
        refine XS.ifNo X152.here hx rfl (hb hby at_134) rfl (by decide) ?_
        show Steps p.tables e below (T152.setTop (mkF m 137 #[.val (.long i0), .second, .val (.long i1), .second, .val (.long i2), .second, .val (.long i3), .second, .val (.int i4), .val (.int i5), .val (.long z101), .second, .val (.long z102), .second, .val (.ref b103), .val (.ref b105), .val (.ref b107), .val (.ref b127), .val (.int (0 : Int32)), .val (.int (1 : Int32)), .unset, .unset, .unset] [])) _
        refine XS.lload X152.here hx rfl (hb hby at_137) rfl ?_
        show Steps p.tables e below (T152.setTop (mkF m 139 #[.val (.long i0), .second, .val (.long i1), .second, .val (.long i2), .second, .val (.long i3), .second, .val (.int i4), .val (.int i5), .val (.long z101), .second, .val (.long z102), .second, .val (.ref b103), .val (.ref b105), .val (.ref b107), .val (.ref b127), .val (.int (0 : Int32)), .val (.int (1 : Int32)), .unset, .unset, .unset] [(.long z102)])) _
        refine XS.goto X152.here hx rfl (pc0 := 139) (pc' := 144) rfl (hb hby at_139) (by decide) (by decide) ?_
        show Steps p.tables e below (T152.setTop (mkF m 144 #[.val (.long i0), .second, .val (.long i1), .second, .val (.long i2), .second, .val (.long i3), .second, .val (.int i4), .val (.int i5), .val (.long z101), .second, .val (.long z102), .second, .val (.ref b103), .val (.ref b105), .val (.ref b107), .val (.ref b127), .val (.int (0 : Int32)), .val (.int (1 : Int32)), .unset, .unset, .unset] [(.long z102)])) _
        refine XS.lstore X152.here hx rfl (hb hby at_144) rfl (l' := #[.val (.long i0), .second, .val (.long i1), .second, .val (.long i2), .second, .val (.long i3), .second, .val (.int i4), .val (.int i5), .val (.long z101), .second, .val (.long z102), .second, .val (.ref b103), .val (.ref b105), .val (.ref b107), .val (.ref b127), .val (.int (0 : Int32)), .val (.int (1 : Int32)), .val (.long z102), .second, .unset]) rfl ?_
        show Steps p.tables e below (T152.setTop (mkF m 146 #[.val (.long i0), .second, .val (.long i1), .second, .val (.long i2), .second, .val (.long i3), .second, .val (.int i4), .val (.int i5), .val (.long z101), .second, .val (.long z102), .second, .val (.ref b103), .val (.ref b105), .val (.ref b107), .val (.ref b127), .val (.int (0 : Int32)), .val (.int (1 : Int32)), .val (.long z102), .second, .unset] [])) _
        refine XS.iload X152.here hx rfl (hb hby at_146) rfl ?_
        show Steps p.tables e below (T152.setTop (mkF m 148 #[.val (.long i0), .second, .val (.long i1), .second, .val (.long i2), .second, .val (.long i3), .second, .val (.int i4), .val (.int i5), .val (.long z101), .second, .val (.long z102), .second, .val (.ref b103), .val (.ref b105), .val (.ref b107), .val (.ref b127), .val (.int (0 : Int32)), .val (.int (1 : Int32)), .val (.long z102), .second, .unset] [(.int (1 : Int32))])) _
        refine XS.ifNo X152.here hx rfl (hb hby at_148) rfl (by decide) ?_
        show Steps p.tables e below (T152.setTop (mkF m 151 #[.val (.long i0), .second, .val (.long i1), .second, .val (.long i2), .second, .val (.long i3), .second, .val (.int i4), .val (.int i5), .val (.long z101), .second, .val (.long z102), .second, .val (.ref b103), .val (.ref b105), .val (.ref b107), .val (.ref b127), .val (.int (0 : Int32)), .val (.int (1 : Int32)), .val (.long z102), .second, .unset] [])) _
        refine XS.iconst X152.here hx rfl (hb hby at_151) ?_
        show Steps p.tables e below (T152.setTop (mkF m 152 #[.val (.long i0), .second, .val (.long i1), .second, .val (.long i2), .second, .val (.long i3), .second, .val (.int i4), .val (.int i5), .val (.long z101), .second, .val (.long z102), .second, .val (.ref b103), .val (.ref b105), .val (.ref b107), .val (.ref b127), .val (.int (0 : Int32)), .val (.int (1 : Int32)), .val (.long z102), .second, .unset] [(.int (1 : Int32))])) _
        refine XS.goto X152.here hx rfl (pc0 := 152) (pc' := 156) rfl (hb hby at_152) (by decide) (by decide) ?_
        show Steps p.tables e below (T152.setTop (mkF m 156 #[.val (.long i0), .second, .val (.long i1), .second, .val (.long i2), .second, .val (.long i3), .second, .val (.int i4), .val (.int i5), .val (.long z101), .second, .val (.long z102), .second, .val (.ref b103), .val (.ref b105), .val (.ref b107), .val (.ref b127), .val (.int (0 : Int32)), .val (.int (1 : Int32)), .val (.long z102), .second, .unset] [(.int (1 : Int32))])) _
        refine XS.istore X152.here hx rfl (hb hby at_156) rfl (l' := #[.val (.long i0), .second, .val (.long i1), .second, .val (.long i2), .second, .val (.long i3), .second, .val (.int i4), .val (.int i5), .val (.long z101), .second, .val (.long z102), .second, .val (.ref b103), .val (.ref b105), .val (.ref b107), .val (.ref b127), .val (.int (0 : Int32)), .val (.int (1 : Int32)), .val (.long z102), .second, .val (.int (1 : Int32))]) rfl ?_
        show Steps p.tables e below (T152.setTop (mkF m 158 #[.val (.long i0), .second, .val (.long i1), .second, .val (.long i2), .second, .val (.long i3), .second, .val (.int i4), .val (.int i5), .val (.long z101), .second, .val (.long z102), .second, .val (.ref b103), .val (.ref b105), .val (.ref b107), .val (.ref b127), .val (.int (0 : Int32)), .val (.int (1 : Int32)), .val (.long z102), .second, .val (.int (1 : Int32))] [])) _
        refine XS.aload X152.here hx rfl (hb hby at_158) rfl rfl ?_
        show Steps p.tables e below (T152.setTop (mkF m 160 #[.val (.long i0), .second, .val (.long i1), .second, .val (.long i2), .second, .val (.long i3), .second, .val (.int i4), .val (.int i5), .val (.long z101), .second, .val (.long z102), .second, .val (.ref b103), .val (.ref b105), .val (.ref b107), .val (.ref b127), .val (.int (0 : Int32)), .val (.int (1 : Int32)), .val (.long z102), .second, .val (.int (1 : Int32))] [(.ref b107)])) _
        refine XS.aload X152.here hx rfl (hb hby at_160) rfl rfl ?_
        show Steps p.tables e below (T152.setTop (mkF m 162 #[.val (.long i0), .second, .val (.long i1), .second, .val (.long i2), .second, .val (.long i3), .second, .val (.int i4), .val (.int i5), .val (.long z101), .second, .val (.long z102), .second, .val (.ref b103), .val (.ref b105), .val (.ref b107), .val (.ref b127), .val (.int (0 : Int32)), .val (.int (1 : Int32)), .val (.long z102), .second, .val (.int (1 : Int32))] [(.ref b103), (.ref b107)])) _
        refine st157.trans ?_
        show Steps p.tables e below (T157.setTop (mkF m 165 #[.val (.long i0), .second, .val (.long i1), .second, .val (.long i2), .second, .val (.long i3), .second, .val (.int i4), .val (.int i5), .val (.long z101), .second, .val (.long z102), .second, .val (.ref b103), .val (.ref b105), .val (.ref b107), .val (.ref b127), .val (.int (0 : Int32)), .val (.int (1 : Int32)), .val (.long z102), .second, .val (.int (1 : Int32))] [(.long (g124 (((2 : Int32) * (own_s i0)) + (1 : Int32))))])) _
        refine XS.lload X157.here hx rfl (hb hby at_165) rfl ?_
        show Steps p.tables e below (T157.setTop (mkF m 167 #[.val (.long i0), .second, .val (.long i1), .second, .val (.long i2), .second, .val (.long i3), .second, .val (.int i4), .val (.int i5), .val (.long z101), .second, .val (.long z102), .second, .val (.ref b103), .val (.ref b105), .val (.ref b107), .val (.ref b127), .val (.int (0 : Int32)), .val (.int (1 : Int32)), .val (.long z102), .second, .val (.int (1 : Int32))] [(.long z102), (.long (g124 (((2 : Int32) * (own_s i0)) + (1 : Int32))))])) _
        refine XS.lcmp X157.here hx rfl (hb hby at_167) rfl ?_
        show Steps p.tables e below (T157.setTop (mkF m 168 #[.val (.long i0), .second, .val (.long i1), .second, .val (.long i2), .second, .val (.long i3), .second, .val (.int i4), .val (.int i5), .val (.long z101), .second, .val (.long z102), .second, .val (.ref b103), .val (.ref b105), .val (.ref b107), .val (.ref b127), .val (.int (0 : Int32)), .val (.int (1 : Int32)), .val (.long z102), .second, .val (.int (1 : Int32))] [(.int (lcmpW (g124 (((2 : Int32) * (own_s i0)) + (1 : Int32))) z102))])) _
        refine XS.ifNo X157.here hx rfl (hb hby at_168) rfl ((if0 _ _).trans (teq ((lw_eq _ _).mpr qa)).2) ?_
        show Steps p.tables e below (T157.setTop (mkF m 171 #[.val (.long i0), .second, .val (.long i1), .second, .val (.long i2), .second, .val (.long i3), .second, .val (.int i4), .val (.int i5), .val (.long z101), .second, .val (.long z102), .second, .val (.ref b103), .val (.ref b105), .val (.ref b107), .val (.ref b127), .val (.int (0 : Int32)), .val (.int (1 : Int32)), .val (.long z102), .second, .val (.int (1 : Int32))] [])) _
        refine XS.aload X157.here hx rfl (hb hby at_171) rfl rfl ?_
        show Steps p.tables e below (T157.setTop (mkF m 173 #[.val (.long i0), .second, .val (.long i1), .second, .val (.long i2), .second, .val (.long i3), .second, .val (.int i4), .val (.int i5), .val (.long z101), .second, .val (.long z102), .second, .val (.ref b103), .val (.ref b105), .val (.ref b107), .val (.ref b127), .val (.int (0 : Int32)), .val (.int (1 : Int32)), .val (.long z102), .second, .val (.int (1 : Int32))] [(.ref b107)])) _
        refine XS.aload X157.here hx rfl (hb hby at_173) rfl rfl ?_
        show Steps p.tables e below (T157.setTop (mkF m 175 #[.val (.long i0), .second, .val (.long i1), .second, .val (.long i2), .second, .val (.long i3), .second, .val (.int i4), .val (.int i5), .val (.long z101), .second, .val (.long z102), .second, .val (.ref b103), .val (.ref b105), .val (.ref b107), .val (.ref b127), .val (.int (0 : Int32)), .val (.int (1 : Int32)), .val (.long z102), .second, .val (.int (1 : Int32))] [(.ref b105), (.ref b107)])) _
        refine st161.trans ?_
        show Steps p.tables e below (T161.setTop (mkF m 178 #[.val (.long i0), .second, .val (.long i1), .second, .val (.long i2), .second, .val (.long i3), .second, .val (.int i4), .val (.int i5), .val (.long z101), .second, .val (.long z102), .second, .val (.ref b103), .val (.ref b105), .val (.ref b107), .val (.ref b127), .val (.int (0 : Int32)), .val (.int (1 : Int32)), .val (.long z102), .second, .val (.int (1 : Int32))] [(.long (g124 (((2 : Int32) * (own_s i0)) + (1 : Int32))))])) _
        refine XS.lload X161.here hx rfl (hb hby at_178) rfl ?_
        show Steps p.tables e below (T161.setTop (mkF m 180 #[.val (.long i0), .second, .val (.long i1), .second, .val (.long i2), .second, .val (.long i3), .second, .val (.int i4), .val (.int i5), .val (.long z101), .second, .val (.long z102), .second, .val (.ref b103), .val (.ref b105), .val (.ref b107), .val (.ref b127), .val (.int (0 : Int32)), .val (.int (1 : Int32)), .val (.long z102), .second, .val (.int (1 : Int32))] [(.long z102), (.long (g124 (((2 : Int32) * (own_s i0)) + (1 : Int32))))])) _
        refine XS.lcmp X161.here hx rfl (hb hby at_180) rfl ?_
        show Steps p.tables e below (T161.setTop (mkF m 181 #[.val (.long i0), .second, .val (.long i1), .second, .val (.long i2), .second, .val (.long i3), .second, .val (.int i4), .val (.int i5), .val (.long z101), .second, .val (.long z102), .second, .val (.ref b103), .val (.ref b105), .val (.ref b107), .val (.ref b127), .val (.int (0 : Int32)), .val (.int (1 : Int32)), .val (.long z102), .second, .val (.int (1 : Int32))] [(.int (lcmpW (g124 (((2 : Int32) * (own_s i0)) + (1 : Int32))) z102))])) _
        refine XS.ifNo X161.here hx rfl (hb hby at_181) rfl ((if0 _ _).trans (teq ((lw_eq _ _).mpr qb)).2) ?_
        show Steps p.tables e below (T161.setTop (mkF m 184 #[.val (.long i0), .second, .val (.long i1), .second, .val (.long i2), .second, .val (.long i3), .second, .val (.int i4), .val (.int i5), .val (.long z101), .second, .val (.long z102), .second, .val (.ref b103), .val (.ref b105), .val (.ref b107), .val (.ref b127), .val (.int (0 : Int32)), .val (.int (1 : Int32)), .val (.long z102), .second, .val (.int (1 : Int32))] [])) _
        refine XS.aload X161.here hx rfl (hb hby at_184) rfl rfl ?_
        show Steps p.tables e below (T161.setTop (mkF m 186 #[.val (.long i0), .second, .val (.long i1), .second, .val (.long i2), .second, .val (.long i3), .second, .val (.int i4), .val (.int i5), .val (.long z101), .second, .val (.long z102), .second, .val (.ref b103), .val (.ref b105), .val (.ref b107), .val (.ref b127), .val (.int (0 : Int32)), .val (.int (1 : Int32)), .val (.long z102), .second, .val (.int (1 : Int32))] [(.ref b107)])) _
        refine st162.trans ?_
        show Steps p.tables e below (T162.setTop (mkF m 189 #[.val (.long i0), .second, .val (.long i1), .second, .val (.long i2), .second, .val (.long i3), .second, .val (.int i4), .val (.int i5), .val (.long z101), .second, .val (.long z102), .second, .val (.ref b103), .val (.ref b105), .val (.ref b107), .val (.ref b127), .val (.int (0 : Int32)), .val (.int (1 : Int32)), .val (.long z102), .second, .val (.int (1 : Int32))] [(.int (1 : Int32))])) _
        refine XS.iload X162.here hx rfl (hb hby at_189) rfl ?_
        show Steps p.tables e below (T162.setTop (mkF m 191 #[.val (.long i0), .second, .val (.long i1), .second, .val (.long i2), .second, .val (.long i3), .second, .val (.int i4), .val (.int i5), .val (.long z101), .second, .val (.long z102), .second, .val (.ref b103), .val (.ref b105), .val (.ref b107), .val (.ref b127), .val (.int (0 : Int32)), .val (.int (1 : Int32)), .val (.long z102), .second, .val (.int (1 : Int32))] [(.int (1 : Int32)), (.int (1 : Int32))])) _
        refine XS.icmpNo X162.here hx rfl (hb hby at_191) rfl (by decide) ?_
        show Steps p.tables e below (T162.setTop (mkF m 194 #[.val (.long i0), .second, .val (.long i1), .second, .val (.long i2), .second, .val (.long i3), .second, .val (.int i4), .val (.int i5), .val (.long z101), .second, .val (.long z102), .second, .val (.ref b103), .val (.ref b105), .val (.ref b107), .val (.ref b127), .val (.int (0 : Int32)), .val (.int (1 : Int32)), .val (.long z102), .second, .val (.int (1 : Int32))] [])) _
        refine XS.iconst X162.here hx rfl (hb hby at_194) ?_
        show Steps p.tables e below (T162.setTop (mkF m 195 #[.val (.long i0), .second, .val (.long i1), .second, .val (.long i2), .second, .val (.long i3), .second, .val (.int i4), .val (.int i5), .val (.long z101), .second, .val (.long z102), .second, .val (.ref b103), .val (.ref b105), .val (.ref b107), .val (.ref b127), .val (.int (0 : Int32)), .val (.int (1 : Int32)), .val (.long z102), .second, .val (.int (1 : Int32))] [(.int (1 : Int32))])) _
        refine XS.goto X162.here hx rfl (pc0 := 195) (pc' := 199) rfl (hb hby at_195) (by decide) (by decide) ?_
        show Steps p.tables e below (T162.setTop (mkF m 199 #[.val (.long i0), .second, .val (.long i1), .second, .val (.long i2), .second, .val (.long i3), .second, .val (.int i4), .val (.int i5), .val (.long z101), .second, .val (.long z102), .second, .val (.ref b103), .val (.ref b105), .val (.ref b107), .val (.ref b127), .val (.int (0 : Int32)), .val (.int (1 : Int32)), .val (.long z102), .second, .val (.int (1 : Int32))] [(.int (1 : Int32))])) _
        exact retN X162 hx (t := .boolean) Bd.returns (by simp) (hb hby at_199) hr
      · show QL n0 _ T162.heap _
        rw [hh162]
        exact ⟨rfl, N162⟩
    · skip
      have O163 : Old Z n0 h141 := (((O130.wr W136 gb127).wr W138 gb127).wr W141 gb127)
      have f164 := ((((Ex124.ext E127).wr W136).wr W138).wr W141)
      have f165 := ((((Fs124.ext E127).other W136 (Or.inl ne127_b107)).other W138 (Or.inl ne127_b107)).other W141 (Or.inl ne127_b107))
      have f166 := ((((Fo124.ext E127).other W136 (Or.inl ne127_b107)).other W138 (Or.inl ne127_b107)).other W141 (Or.inl ne127_b107))
      have f167 := ((((Fm124.ext E127).other W136 (Or.inl ne127_b107)).other W138 (Or.inl ne127_b107)).other W141 (Or.inl ne127_b107))
      have f168 := ((((Fz124.ext E127).other W136 (Or.inl ne127_b107)).other W138 (Or.inl ne127_b107)).other W141 (Or.inl ne127_b107))
      have f169 := ((((Lb124.ext E127).other W136 ne127_bt110).other W138 ne127_bt110).other W141 ne127_bt110)
      have f170 := ((((Fq124.ext E127).other W136 (Or.inl ne127_b107)).other W138 (Or.inl ne127_b107)).other W141 (Or.inl ne127_b107))
      obtain ⟨cq171, kq171, q171a, q171b, q171c⟩ := isOf hZ e141 f164
      obtain ⟨_, _, ⟨T171, L171, k171, n171⟩, -, X171, ⟨Lc171, hQ171, l171, y171, z171⟩, st171⟩ := X141.virtualBack hx (y := (⟨"com/example/keyfold/keyfold/KeyTable", "prefetch", "([II)V"⟩ : MethodName)) (z := (⟨"com/example/keyfold/keyfold/KeyTable", "prefetch", "([II)V"⟩ : MethodName)) hown (mvT hZ (hw _ (List.mem_of_getElem? (i := 73) rfl))) (mvT hZ (hw _ (List.mem_of_getElem? (i := 74) rfl))) (notFace_of_selects (args := #[]) (mvT hZ (hw _ (List.mem_of_getElem? (i := 76) rfl)))) (mvT hZ (hw _ (List.mem_of_getElem? (i := 76) rfl))) (mvT hZ (hw _ (List.mem_of_getElem? (i := 75) rfl))) (by decide) (backOf (W := 0) (rmPf1 l Z a0 hw [] b107 bt110 b127 k127 g124 (1 : Int32) (own_h i0) i4 (i4 ^^^ (own_h i0)) (0 : Int64) h141 n0 O163 f164 f165 f166 f167 f168 f169 f170 V141 net110 ne127_b107 gb107) hZ (hw _ (List.mem_of_getElem? (i := 77) rfl)) (hw _ (List.mem_of_getElem? (i := 18) rfl)) (by decide) (by decide)) q171a q171c (g := (mkF m 116 #[.val (.long i0), .second, .val (.long i1), .second, .val (.long i2), .second, .val (.long i3), .second, .val (.int i4), .val (.int i5), .val (.long z101), .second, .val (.long z102), .second, .val (.ref b103), .val (.ref b105), .val (.ref b107), .val (.ref b127), .val (.int (1 : Int32)), .unset, .unset, .unset, .unset] [(.int (1 : Int32)), (.ref b127), (.ref b107)])) rfl (by rw [hml]; rfl) (Steps.refl _) (argsL := [(.ref b127), (.int (1 : Int32))]) (rest := []) (lenOf pd_9 rfl) rfl (by show 2 * 0 + _ ≤ _; exact Nat.le_of_eq rfl) (hb hby at_116) (fun _ _ => ⟨rfl, e141, (by decide : 5 + 0 ≤ _), (by decide : 44 + 0 ≤ _)⟩)
      dsimp only [Pt.U, Pt.locs, Pt.cells, Pt.slots] at X171 l171 y171 z171 st171 hQ171
      subst l171 y171 z171
      obtain ⟨rfl, N171q, K171, p2171, Ex171, Fs171, Fo171, Fm171, Fz171, Lb171, Fq171⟩ := hQ171
      have N171 := Fr.app N141 N171q
      have O172 : Old Z n0 T171.heap := (O163.keep K171 (allS gb107 all0))
      have f173 := ((((f131.wr W136).wr W138).wr W141).keep K171)
      have f174 := ((((f132.other W136 (Or.inl ne127_b103)).other W138 (Or.inl ne127_b103)).other W141 (Or.inl ne127_b103)).keep K171 (ninS ne107_b103 nin0))
      have f175 := ((((f133.other W136 (Or.inl ne127_b103)).other W138 (Or.inl ne127_b103)).other W141 (Or.inl ne127_b103)).keep K171 (ninS ne107_b103 nin0))
      obtain ⟨cq176, kq176, q176a, q176b, q176c⟩ := isOf hZ rfl Ex171
      obtain ⟨_, _, ⟨T176, L176, k176, n176⟩, -, X176, ⟨Lc176, hQ176, l176, y176, z176⟩, st176⟩ := X171.virtualBack hx (y := (⟨"com/example/keyfold/keyfold/KeyTable", "get", "(Lcom/example/keyfold/keyfold/Key;)J"⟩ : MethodName)) (z := (⟨"com/example/keyfold/keyfold/KeyTable", "get", "(Lcom/example/keyfold/keyfold/Key;)J"⟩ : MethodName)) hown (mvT hZ (hw _ (List.mem_of_getElem? (i := 80) rfl))) (mvT hZ (hw _ (List.mem_of_getElem? (i := 81) rfl))) (notFace_of_selects (args := #[]) (mvT hZ (hw _ (List.mem_of_getElem? (i := 83) rfl)))) (mvT hZ (hw _ (List.mem_of_getElem? (i := 83) rfl))) (mvT hZ (hw _ (List.mem_of_getElem? (i := 82) rfl))) (by decide) (backOf (W := 0) (rmG l Z a0 hw [] b107 b103 bt110 g124 (1 : Int32) (own_s i0) i0 p2171 T171.heap n0 O172 Ex171 Fs171 Fo171 Fm171 Fz171 Lb171 Fq171 f173 f174 f175 hG1) hZ (hw _ (List.mem_of_getElem? (i := 84) rfl)) (hw _ (List.mem_of_getElem? (i := 18) rfl)) (by decide) (by decide)) q176a q176c (g := (mkF m 162 #[.val (.long i0), .second, .val (.long i1), .second, .val (.long i2), .second, .val (.long i3), .second, .val (.int i4), .val (.int i5), .val (.long z101), .second, .val (.long z102), .second, .val (.ref b103), .val (.ref b105), .val (.ref b107), .val (.ref b127), .val (.int (1 : Int32)), .val (.int (1 : Int32)), .val (.long z102), .second, .val (.int (1 : Int32))] [(.ref b103), (.ref b107)])) rfl (by rw [hml]; rfl) (Steps.refl _) (argsL := [(.ref b103)]) (rest := []) (lenOf pd_10 rfl) rfl (by show 2 * 0 + _ ≤ _; exact Nat.le_of_eq rfl) (hb hby at_162) (fun _ _ => ⟨rfl, rfl, (by decide : 5 + 0 ≤ _), (by decide : 44 + 0 ≤ _)⟩)
      dsimp only [Pt.U, Pt.locs, Pt.cells, Pt.slots] at X176 l176 y176 z176 st176 hQ176
      subst l176 y176 z176
      obtain ⟨rfl, N176q, hh176⟩ := hQ176
      have N176 := Fr.app N171 N176q
      have f177 := (((((f129.ext E127).wr W136).wr W138).wr W141).keep K171)
      have f178 := ((((((f122.keep K124 (ninS ne107_b105 (ninS ne110_b105 nin0))).ext E127).other W136 (Or.inl ne127_b105)).other W138 (Or.inl ne127_b105)).other W141 (Or.inl ne127_b105)).keep K171 (ninS ne107_b105 nin0))
      have f179 := ((((((f123.keep K124 (ninS ne107_b105 (ninS ne110_b105 nin0))).ext E127).other W136 (Or.inl ne127_b105)).other W138 (Or.inl ne127_b105)).other W141 (Or.inl ne127_b105)).keep K171 (ninS ne107_b105 nin0))
      obtain ⟨cq180, kq180, q180a, q180b, q180c⟩ := isOf hZ hh176 Ex171
      obtain ⟨_, _, ⟨T180, L180, k180, n180⟩, -, X180, ⟨Lc180, hQ180, l180, y180, z180⟩, st180⟩ := X176.virtualBack hx (y := (⟨"com/example/keyfold/keyfold/KeyTable", "get", "(Lcom/example/keyfold/keyfold/Key;)J"⟩ : MethodName)) (z := (⟨"com/example/keyfold/keyfold/KeyTable", "get", "(Lcom/example/keyfold/keyfold/Key;)J"⟩ : MethodName)) hown (mvT hZ (hw _ (List.mem_of_getElem? (i := 80) rfl))) (mvT hZ (hw _ (List.mem_of_getElem? (i := 81) rfl))) (notFace_of_selects (args := #[]) (mvT hZ (hw _ (List.mem_of_getElem? (i := 83) rfl)))) (mvT hZ (hw _ (List.mem_of_getElem? (i := 83) rfl))) (mvT hZ (hw _ (List.mem_of_getElem? (i := 82) rfl))) (by decide) (backOf (W := 0) (rmG l Z a0 hw [] b107 b105 bt110 g124 (1 : Int32) (own_s i0) i1 p2171 T171.heap n0 O172 Ex171 Fs171 Fo171 Fm171 Fz171 Lb171 Fq171 f177 f178 f179 hG2) hZ (hw _ (List.mem_of_getElem? (i := 84) rfl)) (hw _ (List.mem_of_getElem? (i := 18) rfl)) (by decide) (by decide)) q180a q180c (g := (mkF m 175 #[.val (.long i0), .second, .val (.long i1), .second, .val (.long i2), .second, .val (.long i3), .second, .val (.int i4), .val (.int i5), .val (.long z101), .second, .val (.long z102), .second, .val (.ref b103), .val (.ref b105), .val (.ref b107), .val (.ref b127), .val (.int (1 : Int32)), .val (.int (1 : Int32)), .val (.long z102), .second, .val (.int (1 : Int32))] [(.ref b105), (.ref b107)])) rfl (by rw [hml]; rfl) (Steps.refl _) (argsL := [(.ref b105)]) (rest := []) (lenOf pd_10 rfl) rfl (by show 2 * 0 + _ ≤ _; exact Nat.le_of_eq rfl) (hb hby at_175) (fun _ _ => ⟨rfl, hh176, (by decide : 5 + 0 ≤ _), (by decide : 44 + 0 ≤ _)⟩)
      dsimp only [Pt.U, Pt.locs, Pt.cells, Pt.slots] at X180 l180 y180 z180 st180 hQ180
      subst l180 y180 z180
      obtain ⟨rfl, N180q, hh180⟩ := hQ180
      have N180 := Fr.app N176 N180q
      obtain ⟨cq181, kq181, q181a, q181b, q181c⟩ := isOf hZ hh180 Ex171
      obtain ⟨_, _, ⟨T181, L181, k181, n181⟩, -, X181, ⟨Lc181, hQ181, l181, y181, z181⟩, st181⟩ := X180.virtualBack hx (y := (⟨"com/example/keyfold/keyfold/KeyTable", "size", "()I"⟩ : MethodName)) (z := (⟨"com/example/keyfold/keyfold/KeyTable", "size", "()I"⟩ : MethodName)) hown (mvT hZ (hw _ (List.mem_of_getElem? (i := 85) rfl))) (mvT hZ (hw _ (List.mem_of_getElem? (i := 86) rfl))) (notFace_of_selects (args := #[]) (mvT hZ (hw _ (List.mem_of_getElem? (i := 88) rfl)))) (mvT hZ (hw _ (List.mem_of_getElem? (i := 88) rfl))) (mvT hZ (hw _ (List.mem_of_getElem? (i := 87) rfl))) (by decide) (backOf (W := 0) (rmSz l Z a0 hw [] b107 (1 : Int32) T171.heap n0 O172 Fz171) hZ (hw _ (List.mem_of_getElem? (i := 89) rfl)) (hw _ (List.mem_of_getElem? (i := 18) rfl)) (by decide) (by decide)) q181a q181c (g := (mkF m 186 #[.val (.long i0), .second, .val (.long i1), .second, .val (.long i2), .second, .val (.long i3), .second, .val (.int i4), .val (.int i5), .val (.long z101), .second, .val (.long z102), .second, .val (.ref b103), .val (.ref b105), .val (.ref b107), .val (.ref b127), .val (.int (1 : Int32)), .val (.int (1 : Int32)), .val (.long z102), .second, .val (.int (1 : Int32))] [(.ref b107)])) rfl (by rw [hml]; rfl) (Steps.refl _) (argsL := []) (rest := []) (lenOf pd_11 rfl) rfl (by show 2 * 0 + _ ≤ _; exact Nat.le_of_eq rfl) (hb hby at_186) (fun _ _ => ⟨rfl, hh180, (by decide : 5 + 0 ≤ _), (by decide : 44 + 0 ≤ _)⟩)
      dsimp only [Pt.U, Pt.locs, Pt.cells, Pt.slots] at X181 l181 y181 z181 st181 hQ181
      subst l181 y181 z181
      obtain ⟨rfl, N181q, hh181⟩ := hQ181
      have N181 := Fr.app N180 N181q
      obtain ⟨fs, hr, hrun, hended, hW, hsame⟩ := X181.leave (v := some (.int (1 : Int32))) (fun h => by rw [Bd.returns] at h; cases h)
      refine ⟨_, _, pre142 _ ?_, hrun, hended, _, _, rfl, ?_, ⟨_, rfl⟩, hW, hsame.mono (by decide) (by decide)⟩
      · skip
        show Steps p.tables e below (T141.setTop (mkF m 108 #[.val (.long i0), .second, .val (.long i1), .second, .val (.long i2), .second, .val (.long i3), .second, .val (.int i4), .val (.int i5), .val (.long z101), .second, .val (.long z102), .second, .val (.ref b103), .val (.ref b105), .val (.ref b107), .val (.ref b127), .unset, .unset, .unset, .unset, .unset] [(.int (i5 &&& (3 : Int32)))])) _
        rw [hk143]
        show Steps p.tables e below (T141.setTop (mkF m 108 #[.val (.long i0), .second, .val (.long i1), .second, .val (.long i2), .second, .val (.long i3), .second, .val (.int i4), .val (.int i5), .val (.long z101), .second, .val (.long z102), .second, .val (.ref b103), .val (.ref b105), .val (.ref b107), .val (.ref b127), .unset, .unset, .unset, .unset, .unset] [(.int (1 : Int32))])) _
        refine XS.istore X141.here hx rfl (hb hby at_108) rfl (l' := #[.val (.long i0), .second, .val (.long i1), .second, .val (.long i2), .second, .val (.long i3), .second, .val (.int i4), .val (.int i5), .val (.long z101), .second, .val (.long z102), .second, .val (.ref b103), .val (.ref b105), .val (.ref b107), .val (.ref b127), .val (.int (1 : Int32)), .unset, .unset, .unset, .unset]) rfl ?_
        show Steps p.tables e below (T141.setTop (mkF m 110 #[.val (.long i0), .second, .val (.long i1), .second, .val (.long i2), .second, .val (.long i3), .second, .val (.int i4), .val (.int i5), .val (.long z101), .second, .val (.long z102), .second, .val (.ref b103), .val (.ref b105), .val (.ref b107), .val (.ref b127), .val (.int (1 : Int32)), .unset, .unset, .unset, .unset] [])) _
        refine XS.aload X141.here hx rfl (hb hby at_110) rfl rfl ?_
        show Steps p.tables e below (T141.setTop (mkF m 112 #[.val (.long i0), .second, .val (.long i1), .second, .val (.long i2), .second, .val (.long i3), .second, .val (.int i4), .val (.int i5), .val (.long z101), .second, .val (.long z102), .second, .val (.ref b103), .val (.ref b105), .val (.ref b107), .val (.ref b127), .val (.int (1 : Int32)), .unset, .unset, .unset, .unset] [(.ref b107)])) _
        refine XS.aload X141.here hx rfl (hb hby at_112) rfl rfl ?_
        show Steps p.tables e below (T141.setTop (mkF m 114 #[.val (.long i0), .second, .val (.long i1), .second, .val (.long i2), .second, .val (.long i3), .second, .val (.int i4), .val (.int i5), .val (.long z101), .second, .val (.long z102), .second, .val (.ref b103), .val (.ref b105), .val (.ref b107), .val (.ref b127), .val (.int (1 : Int32)), .unset, .unset, .unset, .unset] [(.ref b127), (.ref b107)])) _
        refine XS.iload X141.here hx rfl (hb hby at_114) rfl ?_
        show Steps p.tables e below (T141.setTop (mkF m 116 #[.val (.long i0), .second, .val (.long i1), .second, .val (.long i2), .second, .val (.long i3), .second, .val (.int i4), .val (.int i5), .val (.long z101), .second, .val (.long z102), .second, .val (.ref b103), .val (.ref b105), .val (.ref b107), .val (.ref b127), .val (.int (1 : Int32)), .unset, .unset, .unset, .unset] [(.int (1 : Int32)), (.ref b127), (.ref b107)])) _
        refine st171.trans ?_
        show Steps p.tables e below (T171.setTop (mkF m 119 #[.val (.long i0), .second, .val (.long i1), .second, .val (.long i2), .second, .val (.long i3), .second, .val (.int i4), .val (.int i5), .val (.long z101), .second, .val (.long z102), .second, .val (.ref b103), .val (.ref b105), .val (.ref b107), .val (.ref b127), .val (.int (1 : Int32)), .unset, .unset, .unset, .unset] [])) _
        refine XS.lloadN X171.here hx rfl (hb hby at_119) rfl ?_
        show Steps p.tables e below (T171.setTop (mkF m 120 #[.val (.long i0), .second, .val (.long i1), .second, .val (.long i2), .second, .val (.long i3), .second, .val (.int i4), .val (.int i5), .val (.long z101), .second, .val (.long z102), .second, .val (.ref b103), .val (.ref b105), .val (.ref b107), .val (.ref b127), .val (.int (1 : Int32)), .unset, .unset, .unset, .unset] [(.long i0)])) _
        refine XS.lloadN X171.here hx rfl (hb hby at_120) rfl ?_
        show Steps p.tables e below (T171.setTop (mkF m 121 #[.val (.long i0), .second, .val (.long i1), .second, .val (.long i2), .second, .val (.long i3), .second, .val (.int i4), .val (.int i5), .val (.long z101), .second, .val (.long z102), .second, .val (.ref b103), .val (.ref b105), .val (.ref b107), .val (.ref b127), .val (.int (1 : Int32)), .unset, .unset, .unset, .unset] [(.long i1), (.long i0)])) _
        refine XS.lcmp X171.here hx rfl (hb hby at_121) rfl ?_
        show Steps p.tables e below (T171.setTop (mkF m 122 #[.val (.long i0), .second, .val (.long i1), .second, .val (.long i2), .second, .val (.long i3), .second, .val (.int i4), .val (.int i5), .val (.long z101), .second, .val (.long z102), .second, .val (.ref b103), .val (.ref b105), .val (.ref b107), .val (.ref b127), .val (.int (1 : Int32)), .unset, .unset, .unset, .unset] [(.int (lcmpW i0 i1))])) _
        refine XS.ifNo X171.here hx rfl (hb hby at_122) rfl ((if0 _ _).trans (teq ((lw_eq _ _).mpr hc119)).2) ?_
        show Steps p.tables e below (T171.setTop (mkF m 125 #[.val (.long i0), .second, .val (.long i1), .second, .val (.long i2), .second, .val (.long i3), .second, .val (.int i4), .val (.int i5), .val (.long z101), .second, .val (.long z102), .second, .val (.ref b103), .val (.ref b105), .val (.ref b107), .val (.ref b127), .val (.int (1 : Int32)), .unset, .unset, .unset, .unset] [])) _
        refine XS.iconst X171.here hx rfl (hb hby at_125) ?_
        show Steps p.tables e below (T171.setTop (mkF m 126 #[.val (.long i0), .second, .val (.long i1), .second, .val (.long i2), .second, .val (.long i3), .second, .val (.int i4), .val (.int i5), .val (.long z101), .second, .val (.long z102), .second, .val (.ref b103), .val (.ref b105), .val (.ref b107), .val (.ref b127), .val (.int (1 : Int32)), .unset, .unset, .unset, .unset] [(.int (1 : Int32))])) _
        refine XS.goto X171.here hx rfl (pc0 := 126) (pc' := 130) rfl (hb hby at_126) (by decide) (by decide) ?_
        show Steps p.tables e below (T171.setTop (mkF m 130 #[.val (.long i0), .second, .val (.long i1), .second, .val (.long i2), .second, .val (.long i3), .second, .val (.int i4), .val (.int i5), .val (.long z101), .second, .val (.long z102), .second, .val (.ref b103), .val (.ref b105), .val (.ref b107), .val (.ref b127), .val (.int (1 : Int32)), .unset, .unset, .unset, .unset] [(.int (1 : Int32))])) _
        refine XS.istore X171.here hx rfl (hb hby at_130) rfl (l' := #[.val (.long i0), .second, .val (.long i1), .second, .val (.long i2), .second, .val (.long i3), .second, .val (.int i4), .val (.int i5), .val (.long z101), .second, .val (.long z102), .second, .val (.ref b103), .val (.ref b105), .val (.ref b107), .val (.ref b127), .val (.int (1 : Int32)), .val (.int (1 : Int32)), .unset, .unset, .unset]) rfl ?_
        show Steps p.tables e below (T171.setTop (mkF m 132 #[.val (.long i0), .second, .val (.long i1), .second, .val (.long i2), .second, .val (.long i3), .second, .val (.int i4), .val (.int i5), .val (.long z101), .second, .val (.long z102), .second, .val (.ref b103), .val (.ref b105), .val (.ref b107), .val (.ref b127), .val (.int (1 : Int32)), .val (.int (1 : Int32)), .unset, .unset, .unset] [])) _
        refine XS.iload X171.here hx rfl (hb hby at_132) rfl ?_
        show Steps p.tables e below (T171.setTop (mkF m 134 #[.val (.long i0), .second, .val (.long i1), .second, .val (.long i2), .second, .val (.long i3), .second, .val (.int i4), .val (.int i5), .val (.long z101), .second, .val (.long z102), .second, .val (.ref b103), .val (.ref b105), .val (.ref b107), .val (.ref b127), .val (.int (1 : Int32)), .val (.int (1 : Int32)), .unset, .unset, .unset] [(.int (1 : Int32))])) _
        refine XS.ifNo X171.here hx rfl (hb hby at_134) rfl (by decide) ?_
        show Steps p.tables e below (T171.setTop (mkF m 137 #[.val (.long i0), .second, .val (.long i1), .second, .val (.long i2), .second, .val (.long i3), .second, .val (.int i4), .val (.int i5), .val (.long z101), .second, .val (.long z102), .second, .val (.ref b103), .val (.ref b105), .val (.ref b107), .val (.ref b127), .val (.int (1 : Int32)), .val (.int (1 : Int32)), .unset, .unset, .unset] [])) _
        refine XS.lload X171.here hx rfl (hb hby at_137) rfl ?_
        show Steps p.tables e below (T171.setTop (mkF m 139 #[.val (.long i0), .second, .val (.long i1), .second, .val (.long i2), .second, .val (.long i3), .second, .val (.int i4), .val (.int i5), .val (.long z101), .second, .val (.long z102), .second, .val (.ref b103), .val (.ref b105), .val (.ref b107), .val (.ref b127), .val (.int (1 : Int32)), .val (.int (1 : Int32)), .unset, .unset, .unset] [(.long z102)])) _
        refine XS.goto X171.here hx rfl (pc0 := 139) (pc' := 144) rfl (hb hby at_139) (by decide) (by decide) ?_
        show Steps p.tables e below (T171.setTop (mkF m 144 #[.val (.long i0), .second, .val (.long i1), .second, .val (.long i2), .second, .val (.long i3), .second, .val (.int i4), .val (.int i5), .val (.long z101), .second, .val (.long z102), .second, .val (.ref b103), .val (.ref b105), .val (.ref b107), .val (.ref b127), .val (.int (1 : Int32)), .val (.int (1 : Int32)), .unset, .unset, .unset] [(.long z102)])) _
        refine XS.lstore X171.here hx rfl (hb hby at_144) rfl (l' := #[.val (.long i0), .second, .val (.long i1), .second, .val (.long i2), .second, .val (.long i3), .second, .val (.int i4), .val (.int i5), .val (.long z101), .second, .val (.long z102), .second, .val (.ref b103), .val (.ref b105), .val (.ref b107), .val (.ref b127), .val (.int (1 : Int32)), .val (.int (1 : Int32)), .val (.long z102), .second, .unset]) rfl ?_
        show Steps p.tables e below (T171.setTop (mkF m 146 #[.val (.long i0), .second, .val (.long i1), .second, .val (.long i2), .second, .val (.long i3), .second, .val (.int i4), .val (.int i5), .val (.long z101), .second, .val (.long z102), .second, .val (.ref b103), .val (.ref b105), .val (.ref b107), .val (.ref b127), .val (.int (1 : Int32)), .val (.int (1 : Int32)), .val (.long z102), .second, .unset] [])) _
        refine XS.iload X171.here hx rfl (hb hby at_146) rfl ?_
        show Steps p.tables e below (T171.setTop (mkF m 148 #[.val (.long i0), .second, .val (.long i1), .second, .val (.long i2), .second, .val (.long i3), .second, .val (.int i4), .val (.int i5), .val (.long z101), .second, .val (.long z102), .second, .val (.ref b103), .val (.ref b105), .val (.ref b107), .val (.ref b127), .val (.int (1 : Int32)), .val (.int (1 : Int32)), .val (.long z102), .second, .unset] [(.int (1 : Int32))])) _
        refine XS.ifNo X171.here hx rfl (hb hby at_148) rfl (by decide) ?_
        show Steps p.tables e below (T171.setTop (mkF m 151 #[.val (.long i0), .second, .val (.long i1), .second, .val (.long i2), .second, .val (.long i3), .second, .val (.int i4), .val (.int i5), .val (.long z101), .second, .val (.long z102), .second, .val (.ref b103), .val (.ref b105), .val (.ref b107), .val (.ref b127), .val (.int (1 : Int32)), .val (.int (1 : Int32)), .val (.long z102), .second, .unset] [])) _
        refine XS.iconst X171.here hx rfl (hb hby at_151) ?_
        show Steps p.tables e below (T171.setTop (mkF m 152 #[.val (.long i0), .second, .val (.long i1), .second, .val (.long i2), .second, .val (.long i3), .second, .val (.int i4), .val (.int i5), .val (.long z101), .second, .val (.long z102), .second, .val (.ref b103), .val (.ref b105), .val (.ref b107), .val (.ref b127), .val (.int (1 : Int32)), .val (.int (1 : Int32)), .val (.long z102), .second, .unset] [(.int (1 : Int32))])) _
        refine XS.goto X171.here hx rfl (pc0 := 152) (pc' := 156) rfl (hb hby at_152) (by decide) (by decide) ?_
        show Steps p.tables e below (T171.setTop (mkF m 156 #[.val (.long i0), .second, .val (.long i1), .second, .val (.long i2), .second, .val (.long i3), .second, .val (.int i4), .val (.int i5), .val (.long z101), .second, .val (.long z102), .second, .val (.ref b103), .val (.ref b105), .val (.ref b107), .val (.ref b127), .val (.int (1 : Int32)), .val (.int (1 : Int32)), .val (.long z102), .second, .unset] [(.int (1 : Int32))])) _
        refine XS.istore X171.here hx rfl (hb hby at_156) rfl (l' := #[.val (.long i0), .second, .val (.long i1), .second, .val (.long i2), .second, .val (.long i3), .second, .val (.int i4), .val (.int i5), .val (.long z101), .second, .val (.long z102), .second, .val (.ref b103), .val (.ref b105), .val (.ref b107), .val (.ref b127), .val (.int (1 : Int32)), .val (.int (1 : Int32)), .val (.long z102), .second, .val (.int (1 : Int32))]) rfl ?_
        show Steps p.tables e below (T171.setTop (mkF m 158 #[.val (.long i0), .second, .val (.long i1), .second, .val (.long i2), .second, .val (.long i3), .second, .val (.int i4), .val (.int i5), .val (.long z101), .second, .val (.long z102), .second, .val (.ref b103), .val (.ref b105), .val (.ref b107), .val (.ref b127), .val (.int (1 : Int32)), .val (.int (1 : Int32)), .val (.long z102), .second, .val (.int (1 : Int32))] [])) _
        refine XS.aload X171.here hx rfl (hb hby at_158) rfl rfl ?_
        show Steps p.tables e below (T171.setTop (mkF m 160 #[.val (.long i0), .second, .val (.long i1), .second, .val (.long i2), .second, .val (.long i3), .second, .val (.int i4), .val (.int i5), .val (.long z101), .second, .val (.long z102), .second, .val (.ref b103), .val (.ref b105), .val (.ref b107), .val (.ref b127), .val (.int (1 : Int32)), .val (.int (1 : Int32)), .val (.long z102), .second, .val (.int (1 : Int32))] [(.ref b107)])) _
        refine XS.aload X171.here hx rfl (hb hby at_160) rfl rfl ?_
        show Steps p.tables e below (T171.setTop (mkF m 162 #[.val (.long i0), .second, .val (.long i1), .second, .val (.long i2), .second, .val (.long i3), .second, .val (.int i4), .val (.int i5), .val (.long z101), .second, .val (.long z102), .second, .val (.ref b103), .val (.ref b105), .val (.ref b107), .val (.ref b127), .val (.int (1 : Int32)), .val (.int (1 : Int32)), .val (.long z102), .second, .val (.int (1 : Int32))] [(.ref b103), (.ref b107)])) _
        refine st176.trans ?_
        show Steps p.tables e below (T176.setTop (mkF m 165 #[.val (.long i0), .second, .val (.long i1), .second, .val (.long i2), .second, .val (.long i3), .second, .val (.int i4), .val (.int i5), .val (.long z101), .second, .val (.long z102), .second, .val (.ref b103), .val (.ref b105), .val (.ref b107), .val (.ref b127), .val (.int (1 : Int32)), .val (.int (1 : Int32)), .val (.long z102), .second, .val (.int (1 : Int32))] [(.long (g124 (((2 : Int32) * (own_s i0)) + (1 : Int32))))])) _
        refine XS.lload X176.here hx rfl (hb hby at_165) rfl ?_
        show Steps p.tables e below (T176.setTop (mkF m 167 #[.val (.long i0), .second, .val (.long i1), .second, .val (.long i2), .second, .val (.long i3), .second, .val (.int i4), .val (.int i5), .val (.long z101), .second, .val (.long z102), .second, .val (.ref b103), .val (.ref b105), .val (.ref b107), .val (.ref b127), .val (.int (1 : Int32)), .val (.int (1 : Int32)), .val (.long z102), .second, .val (.int (1 : Int32))] [(.long z102), (.long (g124 (((2 : Int32) * (own_s i0)) + (1 : Int32))))])) _
        refine XS.lcmp X176.here hx rfl (hb hby at_167) rfl ?_
        show Steps p.tables e below (T176.setTop (mkF m 168 #[.val (.long i0), .second, .val (.long i1), .second, .val (.long i2), .second, .val (.long i3), .second, .val (.int i4), .val (.int i5), .val (.long z101), .second, .val (.long z102), .second, .val (.ref b103), .val (.ref b105), .val (.ref b107), .val (.ref b127), .val (.int (1 : Int32)), .val (.int (1 : Int32)), .val (.long z102), .second, .val (.int (1 : Int32))] [(.int (lcmpW (g124 (((2 : Int32) * (own_s i0)) + (1 : Int32))) z102))])) _
        refine XS.ifNo X176.here hx rfl (hb hby at_168) rfl ((if0 _ _).trans (teq ((lw_eq _ _).mpr qa)).2) ?_
        show Steps p.tables e below (T176.setTop (mkF m 171 #[.val (.long i0), .second, .val (.long i1), .second, .val (.long i2), .second, .val (.long i3), .second, .val (.int i4), .val (.int i5), .val (.long z101), .second, .val (.long z102), .second, .val (.ref b103), .val (.ref b105), .val (.ref b107), .val (.ref b127), .val (.int (1 : Int32)), .val (.int (1 : Int32)), .val (.long z102), .second, .val (.int (1 : Int32))] [])) _
        refine XS.aload X176.here hx rfl (hb hby at_171) rfl rfl ?_
        show Steps p.tables e below (T176.setTop (mkF m 173 #[.val (.long i0), .second, .val (.long i1), .second, .val (.long i2), .second, .val (.long i3), .second, .val (.int i4), .val (.int i5), .val (.long z101), .second, .val (.long z102), .second, .val (.ref b103), .val (.ref b105), .val (.ref b107), .val (.ref b127), .val (.int (1 : Int32)), .val (.int (1 : Int32)), .val (.long z102), .second, .val (.int (1 : Int32))] [(.ref b107)])) _
        refine XS.aload X176.here hx rfl (hb hby at_173) rfl rfl ?_
        show Steps p.tables e below (T176.setTop (mkF m 175 #[.val (.long i0), .second, .val (.long i1), .second, .val (.long i2), .second, .val (.long i3), .second, .val (.int i4), .val (.int i5), .val (.long z101), .second, .val (.long z102), .second, .val (.ref b103), .val (.ref b105), .val (.ref b107), .val (.ref b127), .val (.int (1 : Int32)), .val (.int (1 : Int32)), .val (.long z102), .second, .val (.int (1 : Int32))] [(.ref b105), (.ref b107)])) _
        refine st180.trans ?_
        show Steps p.tables e below (T180.setTop (mkF m 178 #[.val (.long i0), .second, .val (.long i1), .second, .val (.long i2), .second, .val (.long i3), .second, .val (.int i4), .val (.int i5), .val (.long z101), .second, .val (.long z102), .second, .val (.ref b103), .val (.ref b105), .val (.ref b107), .val (.ref b127), .val (.int (1 : Int32)), .val (.int (1 : Int32)), .val (.long z102), .second, .val (.int (1 : Int32))] [(.long (g124 (((2 : Int32) * (own_s i0)) + (1 : Int32))))])) _
        refine XS.lload X180.here hx rfl (hb hby at_178) rfl ?_
        show Steps p.tables e below (T180.setTop (mkF m 180 #[.val (.long i0), .second, .val (.long i1), .second, .val (.long i2), .second, .val (.long i3), .second, .val (.int i4), .val (.int i5), .val (.long z101), .second, .val (.long z102), .second, .val (.ref b103), .val (.ref b105), .val (.ref b107), .val (.ref b127), .val (.int (1 : Int32)), .val (.int (1 : Int32)), .val (.long z102), .second, .val (.int (1 : Int32))] [(.long z102), (.long (g124 (((2 : Int32) * (own_s i0)) + (1 : Int32))))])) _
        refine XS.lcmp X180.here hx rfl (hb hby at_180) rfl ?_
        show Steps p.tables e below (T180.setTop (mkF m 181 #[.val (.long i0), .second, .val (.long i1), .second, .val (.long i2), .second, .val (.long i3), .second, .val (.int i4), .val (.int i5), .val (.long z101), .second, .val (.long z102), .second, .val (.ref b103), .val (.ref b105), .val (.ref b107), .val (.ref b127), .val (.int (1 : Int32)), .val (.int (1 : Int32)), .val (.long z102), .second, .val (.int (1 : Int32))] [(.int (lcmpW (g124 (((2 : Int32) * (own_s i0)) + (1 : Int32))) z102))])) _
        refine XS.ifNo X180.here hx rfl (hb hby at_181) rfl ((if0 _ _).trans (teq ((lw_eq _ _).mpr qb)).2) ?_
        show Steps p.tables e below (T180.setTop (mkF m 184 #[.val (.long i0), .second, .val (.long i1), .second, .val (.long i2), .second, .val (.long i3), .second, .val (.int i4), .val (.int i5), .val (.long z101), .second, .val (.long z102), .second, .val (.ref b103), .val (.ref b105), .val (.ref b107), .val (.ref b127), .val (.int (1 : Int32)), .val (.int (1 : Int32)), .val (.long z102), .second, .val (.int (1 : Int32))] [])) _
        refine XS.aload X180.here hx rfl (hb hby at_184) rfl rfl ?_
        show Steps p.tables e below (T180.setTop (mkF m 186 #[.val (.long i0), .second, .val (.long i1), .second, .val (.long i2), .second, .val (.long i3), .second, .val (.int i4), .val (.int i5), .val (.long z101), .second, .val (.long z102), .second, .val (.ref b103), .val (.ref b105), .val (.ref b107), .val (.ref b127), .val (.int (1 : Int32)), .val (.int (1 : Int32)), .val (.long z102), .second, .val (.int (1 : Int32))] [(.ref b107)])) _
        refine st181.trans ?_
        show Steps p.tables e below (T181.setTop (mkF m 189 #[.val (.long i0), .second, .val (.long i1), .second, .val (.long i2), .second, .val (.long i3), .second, .val (.int i4), .val (.int i5), .val (.long z101), .second, .val (.long z102), .second, .val (.ref b103), .val (.ref b105), .val (.ref b107), .val (.ref b127), .val (.int (1 : Int32)), .val (.int (1 : Int32)), .val (.long z102), .second, .val (.int (1 : Int32))] [(.int (1 : Int32))])) _
        refine XS.iload X181.here hx rfl (hb hby at_189) rfl ?_
        show Steps p.tables e below (T181.setTop (mkF m 191 #[.val (.long i0), .second, .val (.long i1), .second, .val (.long i2), .second, .val (.long i3), .second, .val (.int i4), .val (.int i5), .val (.long z101), .second, .val (.long z102), .second, .val (.ref b103), .val (.ref b105), .val (.ref b107), .val (.ref b127), .val (.int (1 : Int32)), .val (.int (1 : Int32)), .val (.long z102), .second, .val (.int (1 : Int32))] [(.int (1 : Int32)), (.int (1 : Int32))])) _
        refine XS.icmpNo X181.here hx rfl (hb hby at_191) rfl (by decide) ?_
        show Steps p.tables e below (T181.setTop (mkF m 194 #[.val (.long i0), .second, .val (.long i1), .second, .val (.long i2), .second, .val (.long i3), .second, .val (.int i4), .val (.int i5), .val (.long z101), .second, .val (.long z102), .second, .val (.ref b103), .val (.ref b105), .val (.ref b107), .val (.ref b127), .val (.int (1 : Int32)), .val (.int (1 : Int32)), .val (.long z102), .second, .val (.int (1 : Int32))] [])) _
        refine XS.iconst X181.here hx rfl (hb hby at_194) ?_
        show Steps p.tables e below (T181.setTop (mkF m 195 #[.val (.long i0), .second, .val (.long i1), .second, .val (.long i2), .second, .val (.long i3), .second, .val (.int i4), .val (.int i5), .val (.long z101), .second, .val (.long z102), .second, .val (.ref b103), .val (.ref b105), .val (.ref b107), .val (.ref b127), .val (.int (1 : Int32)), .val (.int (1 : Int32)), .val (.long z102), .second, .val (.int (1 : Int32))] [(.int (1 : Int32))])) _
        refine XS.goto X181.here hx rfl (pc0 := 195) (pc' := 199) rfl (hb hby at_195) (by decide) (by decide) ?_
        show Steps p.tables e below (T181.setTop (mkF m 199 #[.val (.long i0), .second, .val (.long i1), .second, .val (.long i2), .second, .val (.long i3), .second, .val (.int i4), .val (.int i5), .val (.long z101), .second, .val (.long z102), .second, .val (.ref b103), .val (.ref b105), .val (.ref b107), .val (.ref b127), .val (.int (1 : Int32)), .val (.int (1 : Int32)), .val (.long z102), .second, .val (.int (1 : Int32))] [(.int (1 : Int32))])) _
        exact retN X181 hx (t := .boolean) Bd.returns (by simp) (hb hby at_199) hr
      · show QL n0 _ T181.heap _
        rw [hh181]
        exact ⟨rfl, N181⟩
    · skip
      have O182 : Old Z n0 h141 := (((O130.wr W136 gb127).wr W138 gb127).wr W141 gb127)
      have f183 := ((((Ex124.ext E127).wr W136).wr W138).wr W141)
      have f184 := ((((Fs124.ext E127).other W136 (Or.inl ne127_b107)).other W138 (Or.inl ne127_b107)).other W141 (Or.inl ne127_b107))
      have f185 := ((((Fo124.ext E127).other W136 (Or.inl ne127_b107)).other W138 (Or.inl ne127_b107)).other W141 (Or.inl ne127_b107))
      have f186 := ((((Fm124.ext E127).other W136 (Or.inl ne127_b107)).other W138 (Or.inl ne127_b107)).other W141 (Or.inl ne127_b107))
      have f187 := ((((Fz124.ext E127).other W136 (Or.inl ne127_b107)).other W138 (Or.inl ne127_b107)).other W141 (Or.inl ne127_b107))
      have f188 := ((((Lb124.ext E127).other W136 ne127_bt110).other W138 ne127_bt110).other W141 ne127_bt110)
      have f189 := ((((Fq124.ext E127).other W136 (Or.inl ne127_b107)).other W138 (Or.inl ne127_b107)).other W141 (Or.inl ne127_b107))
      obtain ⟨cq190, kq190, q190a, q190b, q190c⟩ := isOf hZ e141 f183
      obtain ⟨_, _, ⟨T190, L190, k190, n190⟩, -, X190, ⟨Lc190, hQ190, l190, y190, z190⟩, st190⟩ := X141.virtualBack hx (y := (⟨"com/example/keyfold/keyfold/KeyTable", "prefetch", "([II)V"⟩ : MethodName)) (z := (⟨"com/example/keyfold/keyfold/KeyTable", "prefetch", "([II)V"⟩ : MethodName)) hown (mvT hZ (hw _ (List.mem_of_getElem? (i := 73) rfl))) (mvT hZ (hw _ (List.mem_of_getElem? (i := 74) rfl))) (notFace_of_selects (args := #[]) (mvT hZ (hw _ (List.mem_of_getElem? (i := 76) rfl)))) (mvT hZ (hw _ (List.mem_of_getElem? (i := 76) rfl))) (mvT hZ (hw _ (List.mem_of_getElem? (i := 75) rfl))) (by decide) (backOf (W := 0) (rmPf2 l Z a0 hw [] b107 bt110 b127 k127 g124 (1 : Int32) (own_h i0) i4 (i4 ^^^ (own_h i0)) (0 : Int64) h141 n0 O182 f183 f184 f185 f186 f187 f188 f189 V141 net110 ne127_b107 gb107) hZ (hw _ (List.mem_of_getElem? (i := 77) rfl)) (hw _ (List.mem_of_getElem? (i := 18) rfl)) (by decide) (by decide)) q190a q190c (g := (mkF m 116 #[.val (.long i0), .second, .val (.long i1), .second, .val (.long i2), .second, .val (.long i3), .second, .val (.int i4), .val (.int i5), .val (.long z101), .second, .val (.long z102), .second, .val (.ref b103), .val (.ref b105), .val (.ref b107), .val (.ref b127), .val (.int (2 : Int32)), .unset, .unset, .unset, .unset] [(.int (2 : Int32)), (.ref b127), (.ref b107)])) rfl (by rw [hml]; rfl) (Steps.refl _) (argsL := [(.ref b127), (.int (2 : Int32))]) (rest := []) (lenOf pd_9 rfl) rfl (by show 2 * 0 + _ ≤ _; exact Nat.le_of_eq rfl) (hb hby at_116) (fun _ _ => ⟨rfl, e141, (by decide : 5 + 0 ≤ _), (by decide : 44 + 0 ≤ _)⟩)
      dsimp only [Pt.U, Pt.locs, Pt.cells, Pt.slots] at X190 l190 y190 z190 st190 hQ190
      subst l190 y190 z190
      obtain ⟨rfl, N190q, K190, p2190, Ex190, Fs190, Fo190, Fm190, Fz190, Lb190, Fq190⟩ := hQ190
      have N190 := Fr.app N141 N190q
      have O191 : Old Z n0 T190.heap := (O182.keep K190 (allS gb107 all0))
      have f192 := ((((f131.wr W136).wr W138).wr W141).keep K190)
      have f193 := ((((f132.other W136 (Or.inl ne127_b103)).other W138 (Or.inl ne127_b103)).other W141 (Or.inl ne127_b103)).keep K190 (ninS ne107_b103 nin0))
      have f194 := ((((f133.other W136 (Or.inl ne127_b103)).other W138 (Or.inl ne127_b103)).other W141 (Or.inl ne127_b103)).keep K190 (ninS ne107_b103 nin0))
      obtain ⟨cq195, kq195, q195a, q195b, q195c⟩ := isOf hZ rfl Ex190
      obtain ⟨_, _, ⟨T195, L195, k195, n195⟩, -, X195, ⟨Lc195, hQ195, l195, y195, z195⟩, st195⟩ := X190.virtualBack hx (y := (⟨"com/example/keyfold/keyfold/KeyTable", "get", "(Lcom/example/keyfold/keyfold/Key;)J"⟩ : MethodName)) (z := (⟨"com/example/keyfold/keyfold/KeyTable", "get", "(Lcom/example/keyfold/keyfold/Key;)J"⟩ : MethodName)) hown (mvT hZ (hw _ (List.mem_of_getElem? (i := 80) rfl))) (mvT hZ (hw _ (List.mem_of_getElem? (i := 81) rfl))) (notFace_of_selects (args := #[]) (mvT hZ (hw _ (List.mem_of_getElem? (i := 83) rfl)))) (mvT hZ (hw _ (List.mem_of_getElem? (i := 83) rfl))) (mvT hZ (hw _ (List.mem_of_getElem? (i := 82) rfl))) (by decide) (backOf (W := 0) (rmG l Z a0 hw [] b107 b103 bt110 g124 (1 : Int32) (own_s i0) i0 p2190 T190.heap n0 O191 Ex190 Fs190 Fo190 Fm190 Fz190 Lb190 Fq190 f192 f193 f194 hG1) hZ (hw _ (List.mem_of_getElem? (i := 84) rfl)) (hw _ (List.mem_of_getElem? (i := 18) rfl)) (by decide) (by decide)) q195a q195c (g := (mkF m 162 #[.val (.long i0), .second, .val (.long i1), .second, .val (.long i2), .second, .val (.long i3), .second, .val (.int i4), .val (.int i5), .val (.long z101), .second, .val (.long z102), .second, .val (.ref b103), .val (.ref b105), .val (.ref b107), .val (.ref b127), .val (.int (2 : Int32)), .val (.int (1 : Int32)), .val (.long z102), .second, .val (.int (1 : Int32))] [(.ref b103), (.ref b107)])) rfl (by rw [hml]; rfl) (Steps.refl _) (argsL := [(.ref b103)]) (rest := []) (lenOf pd_10 rfl) rfl (by show 2 * 0 + _ ≤ _; exact Nat.le_of_eq rfl) (hb hby at_162) (fun _ _ => ⟨rfl, rfl, (by decide : 5 + 0 ≤ _), (by decide : 44 + 0 ≤ _)⟩)
      dsimp only [Pt.U, Pt.locs, Pt.cells, Pt.slots] at X195 l195 y195 z195 st195 hQ195
      subst l195 y195 z195
      obtain ⟨rfl, N195q, hh195⟩ := hQ195
      have N195 := Fr.app N190 N195q
      have f196 := (((((f129.ext E127).wr W136).wr W138).wr W141).keep K190)
      have f197 := ((((((f122.keep K124 (ninS ne107_b105 (ninS ne110_b105 nin0))).ext E127).other W136 (Or.inl ne127_b105)).other W138 (Or.inl ne127_b105)).other W141 (Or.inl ne127_b105)).keep K190 (ninS ne107_b105 nin0))
      have f198 := ((((((f123.keep K124 (ninS ne107_b105 (ninS ne110_b105 nin0))).ext E127).other W136 (Or.inl ne127_b105)).other W138 (Or.inl ne127_b105)).other W141 (Or.inl ne127_b105)).keep K190 (ninS ne107_b105 nin0))
      obtain ⟨cq199, kq199, q199a, q199b, q199c⟩ := isOf hZ hh195 Ex190
      obtain ⟨_, _, ⟨T199, L199, k199, n199⟩, -, X199, ⟨Lc199, hQ199, l199, y199, z199⟩, st199⟩ := X195.virtualBack hx (y := (⟨"com/example/keyfold/keyfold/KeyTable", "get", "(Lcom/example/keyfold/keyfold/Key;)J"⟩ : MethodName)) (z := (⟨"com/example/keyfold/keyfold/KeyTable", "get", "(Lcom/example/keyfold/keyfold/Key;)J"⟩ : MethodName)) hown (mvT hZ (hw _ (List.mem_of_getElem? (i := 80) rfl))) (mvT hZ (hw _ (List.mem_of_getElem? (i := 81) rfl))) (notFace_of_selects (args := #[]) (mvT hZ (hw _ (List.mem_of_getElem? (i := 83) rfl)))) (mvT hZ (hw _ (List.mem_of_getElem? (i := 83) rfl))) (mvT hZ (hw _ (List.mem_of_getElem? (i := 82) rfl))) (by decide) (backOf (W := 0) (rmG l Z a0 hw [] b107 b105 bt110 g124 (1 : Int32) (own_s i0) i1 p2190 T190.heap n0 O191 Ex190 Fs190 Fo190 Fm190 Fz190 Lb190 Fq190 f196 f197 f198 hG2) hZ (hw _ (List.mem_of_getElem? (i := 84) rfl)) (hw _ (List.mem_of_getElem? (i := 18) rfl)) (by decide) (by decide)) q199a q199c (g := (mkF m 175 #[.val (.long i0), .second, .val (.long i1), .second, .val (.long i2), .second, .val (.long i3), .second, .val (.int i4), .val (.int i5), .val (.long z101), .second, .val (.long z102), .second, .val (.ref b103), .val (.ref b105), .val (.ref b107), .val (.ref b127), .val (.int (2 : Int32)), .val (.int (1 : Int32)), .val (.long z102), .second, .val (.int (1 : Int32))] [(.ref b105), (.ref b107)])) rfl (by rw [hml]; rfl) (Steps.refl _) (argsL := [(.ref b105)]) (rest := []) (lenOf pd_10 rfl) rfl (by show 2 * 0 + _ ≤ _; exact Nat.le_of_eq rfl) (hb hby at_175) (fun _ _ => ⟨rfl, hh195, (by decide : 5 + 0 ≤ _), (by decide : 44 + 0 ≤ _)⟩)
      dsimp only [Pt.U, Pt.locs, Pt.cells, Pt.slots] at X199 l199 y199 z199 st199 hQ199
      subst l199 y199 z199
      obtain ⟨rfl, N199q, hh199⟩ := hQ199
      have N199 := Fr.app N195 N199q
      obtain ⟨cq200, kq200, q200a, q200b, q200c⟩ := isOf hZ hh199 Ex190
      obtain ⟨_, _, ⟨T200, L200, k200, n200⟩, -, X200, ⟨Lc200, hQ200, l200, y200, z200⟩, st200⟩ := X199.virtualBack hx (y := (⟨"com/example/keyfold/keyfold/KeyTable", "size", "()I"⟩ : MethodName)) (z := (⟨"com/example/keyfold/keyfold/KeyTable", "size", "()I"⟩ : MethodName)) hown (mvT hZ (hw _ (List.mem_of_getElem? (i := 85) rfl))) (mvT hZ (hw _ (List.mem_of_getElem? (i := 86) rfl))) (notFace_of_selects (args := #[]) (mvT hZ (hw _ (List.mem_of_getElem? (i := 88) rfl)))) (mvT hZ (hw _ (List.mem_of_getElem? (i := 88) rfl))) (mvT hZ (hw _ (List.mem_of_getElem? (i := 87) rfl))) (by decide) (backOf (W := 0) (rmSz l Z a0 hw [] b107 (1 : Int32) T190.heap n0 O191 Fz190) hZ (hw _ (List.mem_of_getElem? (i := 89) rfl)) (hw _ (List.mem_of_getElem? (i := 18) rfl)) (by decide) (by decide)) q200a q200c (g := (mkF m 186 #[.val (.long i0), .second, .val (.long i1), .second, .val (.long i2), .second, .val (.long i3), .second, .val (.int i4), .val (.int i5), .val (.long z101), .second, .val (.long z102), .second, .val (.ref b103), .val (.ref b105), .val (.ref b107), .val (.ref b127), .val (.int (2 : Int32)), .val (.int (1 : Int32)), .val (.long z102), .second, .val (.int (1 : Int32))] [(.ref b107)])) rfl (by rw [hml]; rfl) (Steps.refl _) (argsL := []) (rest := []) (lenOf pd_11 rfl) rfl (by show 2 * 0 + _ ≤ _; exact Nat.le_of_eq rfl) (hb hby at_186) (fun _ _ => ⟨rfl, hh199, (by decide : 5 + 0 ≤ _), (by decide : 44 + 0 ≤ _)⟩)
      dsimp only [Pt.U, Pt.locs, Pt.cells, Pt.slots] at X200 l200 y200 z200 st200 hQ200
      subst l200 y200 z200
      obtain ⟨rfl, N200q, hh200⟩ := hQ200
      have N200 := Fr.app N199 N200q
      obtain ⟨fs, hr, hrun, hended, hW, hsame⟩ := X200.leave (v := some (.int (1 : Int32))) (fun h => by rw [Bd.returns] at h; cases h)
      refine ⟨_, _, pre142 _ ?_, hrun, hended, _, _, rfl, ?_, ⟨_, rfl⟩, hW, hsame.mono (by decide) (by decide)⟩
      · skip
        show Steps p.tables e below (T141.setTop (mkF m 108 #[.val (.long i0), .second, .val (.long i1), .second, .val (.long i2), .second, .val (.long i3), .second, .val (.int i4), .val (.int i5), .val (.long z101), .second, .val (.long z102), .second, .val (.ref b103), .val (.ref b105), .val (.ref b107), .val (.ref b127), .unset, .unset, .unset, .unset, .unset] [(.int (i5 &&& (3 : Int32)))])) _
        rw [hk143]
        show Steps p.tables e below (T141.setTop (mkF m 108 #[.val (.long i0), .second, .val (.long i1), .second, .val (.long i2), .second, .val (.long i3), .second, .val (.int i4), .val (.int i5), .val (.long z101), .second, .val (.long z102), .second, .val (.ref b103), .val (.ref b105), .val (.ref b107), .val (.ref b127), .unset, .unset, .unset, .unset, .unset] [(.int (2 : Int32))])) _
        refine XS.istore X141.here hx rfl (hb hby at_108) rfl (l' := #[.val (.long i0), .second, .val (.long i1), .second, .val (.long i2), .second, .val (.long i3), .second, .val (.int i4), .val (.int i5), .val (.long z101), .second, .val (.long z102), .second, .val (.ref b103), .val (.ref b105), .val (.ref b107), .val (.ref b127), .val (.int (2 : Int32)), .unset, .unset, .unset, .unset]) rfl ?_
        show Steps p.tables e below (T141.setTop (mkF m 110 #[.val (.long i0), .second, .val (.long i1), .second, .val (.long i2), .second, .val (.long i3), .second, .val (.int i4), .val (.int i5), .val (.long z101), .second, .val (.long z102), .second, .val (.ref b103), .val (.ref b105), .val (.ref b107), .val (.ref b127), .val (.int (2 : Int32)), .unset, .unset, .unset, .unset] [])) _
        refine XS.aload X141.here hx rfl (hb hby at_110) rfl rfl ?_
        show Steps p.tables e below (T141.setTop (mkF m 112 #[.val (.long i0), .second, .val (.long i1), .second, .val (.long i2), .second, .val (.long i3), .second, .val (.int i4), .val (.int i5), .val (.long z101), .second, .val (.long z102), .second, .val (.ref b103), .val (.ref b105), .val (.ref b107), .val (.ref b127), .val (.int (2 : Int32)), .unset, .unset, .unset, .unset] [(.ref b107)])) _
        refine XS.aload X141.here hx rfl (hb hby at_112) rfl rfl ?_
        show Steps p.tables e below (T141.setTop (mkF m 114 #[.val (.long i0), .second, .val (.long i1), .second, .val (.long i2), .second, .val (.long i3), .second, .val (.int i4), .val (.int i5), .val (.long z101), .second, .val (.long z102), .second, .val (.ref b103), .val (.ref b105), .val (.ref b107), .val (.ref b127), .val (.int (2 : Int32)), .unset, .unset, .unset, .unset] [(.ref b127), (.ref b107)])) _
        refine XS.iload X141.here hx rfl (hb hby at_114) rfl ?_
        show Steps p.tables e below (T141.setTop (mkF m 116 #[.val (.long i0), .second, .val (.long i1), .second, .val (.long i2), .second, .val (.long i3), .second, .val (.int i4), .val (.int i5), .val (.long z101), .second, .val (.long z102), .second, .val (.ref b103), .val (.ref b105), .val (.ref b107), .val (.ref b127), .val (.int (2 : Int32)), .unset, .unset, .unset, .unset] [(.int (2 : Int32)), (.ref b127), (.ref b107)])) _
        refine st190.trans ?_
        show Steps p.tables e below (T190.setTop (mkF m 119 #[.val (.long i0), .second, .val (.long i1), .second, .val (.long i2), .second, .val (.long i3), .second, .val (.int i4), .val (.int i5), .val (.long z101), .second, .val (.long z102), .second, .val (.ref b103), .val (.ref b105), .val (.ref b107), .val (.ref b127), .val (.int (2 : Int32)), .unset, .unset, .unset, .unset] [])) _
        refine XS.lloadN X190.here hx rfl (hb hby at_119) rfl ?_
        show Steps p.tables e below (T190.setTop (mkF m 120 #[.val (.long i0), .second, .val (.long i1), .second, .val (.long i2), .second, .val (.long i3), .second, .val (.int i4), .val (.int i5), .val (.long z101), .second, .val (.long z102), .second, .val (.ref b103), .val (.ref b105), .val (.ref b107), .val (.ref b127), .val (.int (2 : Int32)), .unset, .unset, .unset, .unset] [(.long i0)])) _
        refine XS.lloadN X190.here hx rfl (hb hby at_120) rfl ?_
        show Steps p.tables e below (T190.setTop (mkF m 121 #[.val (.long i0), .second, .val (.long i1), .second, .val (.long i2), .second, .val (.long i3), .second, .val (.int i4), .val (.int i5), .val (.long z101), .second, .val (.long z102), .second, .val (.ref b103), .val (.ref b105), .val (.ref b107), .val (.ref b127), .val (.int (2 : Int32)), .unset, .unset, .unset, .unset] [(.long i1), (.long i0)])) _
        refine XS.lcmp X190.here hx rfl (hb hby at_121) rfl ?_
        show Steps p.tables e below (T190.setTop (mkF m 122 #[.val (.long i0), .second, .val (.long i1), .second, .val (.long i2), .second, .val (.long i3), .second, .val (.int i4), .val (.int i5), .val (.long z101), .second, .val (.long z102), .second, .val (.ref b103), .val (.ref b105), .val (.ref b107), .val (.ref b127), .val (.int (2 : Int32)), .unset, .unset, .unset, .unset] [(.int (lcmpW i0 i1))])) _
        refine XS.ifNo X190.here hx rfl (hb hby at_122) rfl ((if0 _ _).trans (teq ((lw_eq _ _).mpr hc119)).2) ?_
        show Steps p.tables e below (T190.setTop (mkF m 125 #[.val (.long i0), .second, .val (.long i1), .second, .val (.long i2), .second, .val (.long i3), .second, .val (.int i4), .val (.int i5), .val (.long z101), .second, .val (.long z102), .second, .val (.ref b103), .val (.ref b105), .val (.ref b107), .val (.ref b127), .val (.int (2 : Int32)), .unset, .unset, .unset, .unset] [])) _
        refine XS.iconst X190.here hx rfl (hb hby at_125) ?_
        show Steps p.tables e below (T190.setTop (mkF m 126 #[.val (.long i0), .second, .val (.long i1), .second, .val (.long i2), .second, .val (.long i3), .second, .val (.int i4), .val (.int i5), .val (.long z101), .second, .val (.long z102), .second, .val (.ref b103), .val (.ref b105), .val (.ref b107), .val (.ref b127), .val (.int (2 : Int32)), .unset, .unset, .unset, .unset] [(.int (1 : Int32))])) _
        refine XS.goto X190.here hx rfl (pc0 := 126) (pc' := 130) rfl (hb hby at_126) (by decide) (by decide) ?_
        show Steps p.tables e below (T190.setTop (mkF m 130 #[.val (.long i0), .second, .val (.long i1), .second, .val (.long i2), .second, .val (.long i3), .second, .val (.int i4), .val (.int i5), .val (.long z101), .second, .val (.long z102), .second, .val (.ref b103), .val (.ref b105), .val (.ref b107), .val (.ref b127), .val (.int (2 : Int32)), .unset, .unset, .unset, .unset] [(.int (1 : Int32))])) _
        refine XS.istore X190.here hx rfl (hb hby at_130) rfl (l' := #[.val (.long i0), .second, .val (.long i1), .second, .val (.long i2), .second, .val (.long i3), .second, .val (.int i4), .val (.int i5), .val (.long z101), .second, .val (.long z102), .second, .val (.ref b103), .val (.ref b105), .val (.ref b107), .val (.ref b127), .val (.int (2 : Int32)), .val (.int (1 : Int32)), .unset, .unset, .unset]) rfl ?_
        show Steps p.tables e below (T190.setTop (mkF m 132 #[.val (.long i0), .second, .val (.long i1), .second, .val (.long i2), .second, .val (.long i3), .second, .val (.int i4), .val (.int i5), .val (.long z101), .second, .val (.long z102), .second, .val (.ref b103), .val (.ref b105), .val (.ref b107), .val (.ref b127), .val (.int (2 : Int32)), .val (.int (1 : Int32)), .unset, .unset, .unset] [])) _
        refine XS.iload X190.here hx rfl (hb hby at_132) rfl ?_
        show Steps p.tables e below (T190.setTop (mkF m 134 #[.val (.long i0), .second, .val (.long i1), .second, .val (.long i2), .second, .val (.long i3), .second, .val (.int i4), .val (.int i5), .val (.long z101), .second, .val (.long z102), .second, .val (.ref b103), .val (.ref b105), .val (.ref b107), .val (.ref b127), .val (.int (2 : Int32)), .val (.int (1 : Int32)), .unset, .unset, .unset] [(.int (1 : Int32))])) _
        refine XS.ifNo X190.here hx rfl (hb hby at_134) rfl (by decide) ?_
        show Steps p.tables e below (T190.setTop (mkF m 137 #[.val (.long i0), .second, .val (.long i1), .second, .val (.long i2), .second, .val (.long i3), .second, .val (.int i4), .val (.int i5), .val (.long z101), .second, .val (.long z102), .second, .val (.ref b103), .val (.ref b105), .val (.ref b107), .val (.ref b127), .val (.int (2 : Int32)), .val (.int (1 : Int32)), .unset, .unset, .unset] [])) _
        refine XS.lload X190.here hx rfl (hb hby at_137) rfl ?_
        show Steps p.tables e below (T190.setTop (mkF m 139 #[.val (.long i0), .second, .val (.long i1), .second, .val (.long i2), .second, .val (.long i3), .second, .val (.int i4), .val (.int i5), .val (.long z101), .second, .val (.long z102), .second, .val (.ref b103), .val (.ref b105), .val (.ref b107), .val (.ref b127), .val (.int (2 : Int32)), .val (.int (1 : Int32)), .unset, .unset, .unset] [(.long z102)])) _
        refine XS.goto X190.here hx rfl (pc0 := 139) (pc' := 144) rfl (hb hby at_139) (by decide) (by decide) ?_
        show Steps p.tables e below (T190.setTop (mkF m 144 #[.val (.long i0), .second, .val (.long i1), .second, .val (.long i2), .second, .val (.long i3), .second, .val (.int i4), .val (.int i5), .val (.long z101), .second, .val (.long z102), .second, .val (.ref b103), .val (.ref b105), .val (.ref b107), .val (.ref b127), .val (.int (2 : Int32)), .val (.int (1 : Int32)), .unset, .unset, .unset] [(.long z102)])) _
        refine XS.lstore X190.here hx rfl (hb hby at_144) rfl (l' := #[.val (.long i0), .second, .val (.long i1), .second, .val (.long i2), .second, .val (.long i3), .second, .val (.int i4), .val (.int i5), .val (.long z101), .second, .val (.long z102), .second, .val (.ref b103), .val (.ref b105), .val (.ref b107), .val (.ref b127), .val (.int (2 : Int32)), .val (.int (1 : Int32)), .val (.long z102), .second, .unset]) rfl ?_
        show Steps p.tables e below (T190.setTop (mkF m 146 #[.val (.long i0), .second, .val (.long i1), .second, .val (.long i2), .second, .val (.long i3), .second, .val (.int i4), .val (.int i5), .val (.long z101), .second, .val (.long z102), .second, .val (.ref b103), .val (.ref b105), .val (.ref b107), .val (.ref b127), .val (.int (2 : Int32)), .val (.int (1 : Int32)), .val (.long z102), .second, .unset] [])) _
        refine XS.iload X190.here hx rfl (hb hby at_146) rfl ?_
        show Steps p.tables e below (T190.setTop (mkF m 148 #[.val (.long i0), .second, .val (.long i1), .second, .val (.long i2), .second, .val (.long i3), .second, .val (.int i4), .val (.int i5), .val (.long z101), .second, .val (.long z102), .second, .val (.ref b103), .val (.ref b105), .val (.ref b107), .val (.ref b127), .val (.int (2 : Int32)), .val (.int (1 : Int32)), .val (.long z102), .second, .unset] [(.int (1 : Int32))])) _
        refine XS.ifNo X190.here hx rfl (hb hby at_148) rfl (by decide) ?_
        show Steps p.tables e below (T190.setTop (mkF m 151 #[.val (.long i0), .second, .val (.long i1), .second, .val (.long i2), .second, .val (.long i3), .second, .val (.int i4), .val (.int i5), .val (.long z101), .second, .val (.long z102), .second, .val (.ref b103), .val (.ref b105), .val (.ref b107), .val (.ref b127), .val (.int (2 : Int32)), .val (.int (1 : Int32)), .val (.long z102), .second, .unset] [])) _
        refine XS.iconst X190.here hx rfl (hb hby at_151) ?_
        show Steps p.tables e below (T190.setTop (mkF m 152 #[.val (.long i0), .second, .val (.long i1), .second, .val (.long i2), .second, .val (.long i3), .second, .val (.int i4), .val (.int i5), .val (.long z101), .second, .val (.long z102), .second, .val (.ref b103), .val (.ref b105), .val (.ref b107), .val (.ref b127), .val (.int (2 : Int32)), .val (.int (1 : Int32)), .val (.long z102), .second, .unset] [(.int (1 : Int32))])) _
        refine XS.goto X190.here hx rfl (pc0 := 152) (pc' := 156) rfl (hb hby at_152) (by decide) (by decide) ?_
        show Steps p.tables e below (T190.setTop (mkF m 156 #[.val (.long i0), .second, .val (.long i1), .second, .val (.long i2), .second, .val (.long i3), .second, .val (.int i4), .val (.int i5), .val (.long z101), .second, .val (.long z102), .second, .val (.ref b103), .val (.ref b105), .val (.ref b107), .val (.ref b127), .val (.int (2 : Int32)), .val (.int (1 : Int32)), .val (.long z102), .second, .unset] [(.int (1 : Int32))])) _
        refine XS.istore X190.here hx rfl (hb hby at_156) rfl (l' := #[.val (.long i0), .second, .val (.long i1), .second, .val (.long i2), .second, .val (.long i3), .second, .val (.int i4), .val (.int i5), .val (.long z101), .second, .val (.long z102), .second, .val (.ref b103), .val (.ref b105), .val (.ref b107), .val (.ref b127), .val (.int (2 : Int32)), .val (.int (1 : Int32)), .val (.long z102), .second, .val (.int (1 : Int32))]) rfl ?_
        show Steps p.tables e below (T190.setTop (mkF m 158 #[.val (.long i0), .second, .val (.long i1), .second, .val (.long i2), .second, .val (.long i3), .second, .val (.int i4), .val (.int i5), .val (.long z101), .second, .val (.long z102), .second, .val (.ref b103), .val (.ref b105), .val (.ref b107), .val (.ref b127), .val (.int (2 : Int32)), .val (.int (1 : Int32)), .val (.long z102), .second, .val (.int (1 : Int32))] [])) _
        refine XS.aload X190.here hx rfl (hb hby at_158) rfl rfl ?_
        show Steps p.tables e below (T190.setTop (mkF m 160 #[.val (.long i0), .second, .val (.long i1), .second, .val (.long i2), .second, .val (.long i3), .second, .val (.int i4), .val (.int i5), .val (.long z101), .second, .val (.long z102), .second, .val (.ref b103), .val (.ref b105), .val (.ref b107), .val (.ref b127), .val (.int (2 : Int32)), .val (.int (1 : Int32)), .val (.long z102), .second, .val (.int (1 : Int32))] [(.ref b107)])) _
        refine XS.aload X190.here hx rfl (hb hby at_160) rfl rfl ?_
        show Steps p.tables e below (T190.setTop (mkF m 162 #[.val (.long i0), .second, .val (.long i1), .second, .val (.long i2), .second, .val (.long i3), .second, .val (.int i4), .val (.int i5), .val (.long z101), .second, .val (.long z102), .second, .val (.ref b103), .val (.ref b105), .val (.ref b107), .val (.ref b127), .val (.int (2 : Int32)), .val (.int (1 : Int32)), .val (.long z102), .second, .val (.int (1 : Int32))] [(.ref b103), (.ref b107)])) _
        refine st195.trans ?_
        show Steps p.tables e below (T195.setTop (mkF m 165 #[.val (.long i0), .second, .val (.long i1), .second, .val (.long i2), .second, .val (.long i3), .second, .val (.int i4), .val (.int i5), .val (.long z101), .second, .val (.long z102), .second, .val (.ref b103), .val (.ref b105), .val (.ref b107), .val (.ref b127), .val (.int (2 : Int32)), .val (.int (1 : Int32)), .val (.long z102), .second, .val (.int (1 : Int32))] [(.long (g124 (((2 : Int32) * (own_s i0)) + (1 : Int32))))])) _
        refine XS.lload X195.here hx rfl (hb hby at_165) rfl ?_
        show Steps p.tables e below (T195.setTop (mkF m 167 #[.val (.long i0), .second, .val (.long i1), .second, .val (.long i2), .second, .val (.long i3), .second, .val (.int i4), .val (.int i5), .val (.long z101), .second, .val (.long z102), .second, .val (.ref b103), .val (.ref b105), .val (.ref b107), .val (.ref b127), .val (.int (2 : Int32)), .val (.int (1 : Int32)), .val (.long z102), .second, .val (.int (1 : Int32))] [(.long z102), (.long (g124 (((2 : Int32) * (own_s i0)) + (1 : Int32))))])) _
        refine XS.lcmp X195.here hx rfl (hb hby at_167) rfl ?_
        show Steps p.tables e below (T195.setTop (mkF m 168 #[.val (.long i0), .second, .val (.long i1), .second, .val (.long i2), .second, .val (.long i3), .second, .val (.int i4), .val (.int i5), .val (.long z101), .second, .val (.long z102), .second, .val (.ref b103), .val (.ref b105), .val (.ref b107), .val (.ref b127), .val (.int (2 : Int32)), .val (.int (1 : Int32)), .val (.long z102), .second, .val (.int (1 : Int32))] [(.int (lcmpW (g124 (((2 : Int32) * (own_s i0)) + (1 : Int32))) z102))])) _
        refine XS.ifNo X195.here hx rfl (hb hby at_168) rfl ((if0 _ _).trans (teq ((lw_eq _ _).mpr qa)).2) ?_
        show Steps p.tables e below (T195.setTop (mkF m 171 #[.val (.long i0), .second, .val (.long i1), .second, .val (.long i2), .second, .val (.long i3), .second, .val (.int i4), .val (.int i5), .val (.long z101), .second, .val (.long z102), .second, .val (.ref b103), .val (.ref b105), .val (.ref b107), .val (.ref b127), .val (.int (2 : Int32)), .val (.int (1 : Int32)), .val (.long z102), .second, .val (.int (1 : Int32))] [])) _
        refine XS.aload X195.here hx rfl (hb hby at_171) rfl rfl ?_
        show Steps p.tables e below (T195.setTop (mkF m 173 #[.val (.long i0), .second, .val (.long i1), .second, .val (.long i2), .second, .val (.long i3), .second, .val (.int i4), .val (.int i5), .val (.long z101), .second, .val (.long z102), .second, .val (.ref b103), .val (.ref b105), .val (.ref b107), .val (.ref b127), .val (.int (2 : Int32)), .val (.int (1 : Int32)), .val (.long z102), .second, .val (.int (1 : Int32))] [(.ref b107)])) _
        refine XS.aload X195.here hx rfl (hb hby at_173) rfl rfl ?_
        show Steps p.tables e below (T195.setTop (mkF m 175 #[.val (.long i0), .second, .val (.long i1), .second, .val (.long i2), .second, .val (.long i3), .second, .val (.int i4), .val (.int i5), .val (.long z101), .second, .val (.long z102), .second, .val (.ref b103), .val (.ref b105), .val (.ref b107), .val (.ref b127), .val (.int (2 : Int32)), .val (.int (1 : Int32)), .val (.long z102), .second, .val (.int (1 : Int32))] [(.ref b105), (.ref b107)])) _
        refine st199.trans ?_
        show Steps p.tables e below (T199.setTop (mkF m 178 #[.val (.long i0), .second, .val (.long i1), .second, .val (.long i2), .second, .val (.long i3), .second, .val (.int i4), .val (.int i5), .val (.long z101), .second, .val (.long z102), .second, .val (.ref b103), .val (.ref b105), .val (.ref b107), .val (.ref b127), .val (.int (2 : Int32)), .val (.int (1 : Int32)), .val (.long z102), .second, .val (.int (1 : Int32))] [(.long (g124 (((2 : Int32) * (own_s i0)) + (1 : Int32))))])) _
        refine XS.lload X199.here hx rfl (hb hby at_178) rfl ?_
        show Steps p.tables e below (T199.setTop (mkF m 180 #[.val (.long i0), .second, .val (.long i1), .second, .val (.long i2), .second, .val (.long i3), .second, .val (.int i4), .val (.int i5), .val (.long z101), .second, .val (.long z102), .second, .val (.ref b103), .val (.ref b105), .val (.ref b107), .val (.ref b127), .val (.int (2 : Int32)), .val (.int (1 : Int32)), .val (.long z102), .second, .val (.int (1 : Int32))] [(.long z102), (.long (g124 (((2 : Int32) * (own_s i0)) + (1 : Int32))))])) _
        refine XS.lcmp X199.here hx rfl (hb hby at_180) rfl ?_
        show Steps p.tables e below (T199.setTop (mkF m 181 #[.val (.long i0), .second, .val (.long i1), .second, .val (.long i2), .second, .val (.long i3), .second, .val (.int i4), .val (.int i5), .val (.long z101), .second, .val (.long z102), .second, .val (.ref b103), .val (.ref b105), .val (.ref b107), .val (.ref b127), .val (.int (2 : Int32)), .val (.int (1 : Int32)), .val (.long z102), .second, .val (.int (1 : Int32))] [(.int (lcmpW (g124 (((2 : Int32) * (own_s i0)) + (1 : Int32))) z102))])) _
        refine XS.ifNo X199.here hx rfl (hb hby at_181) rfl ((if0 _ _).trans (teq ((lw_eq _ _).mpr qb)).2) ?_
        show Steps p.tables e below (T199.setTop (mkF m 184 #[.val (.long i0), .second, .val (.long i1), .second, .val (.long i2), .second, .val (.long i3), .second, .val (.int i4), .val (.int i5), .val (.long z101), .second, .val (.long z102), .second, .val (.ref b103), .val (.ref b105), .val (.ref b107), .val (.ref b127), .val (.int (2 : Int32)), .val (.int (1 : Int32)), .val (.long z102), .second, .val (.int (1 : Int32))] [])) _
        refine XS.aload X199.here hx rfl (hb hby at_184) rfl rfl ?_
        show Steps p.tables e below (T199.setTop (mkF m 186 #[.val (.long i0), .second, .val (.long i1), .second, .val (.long i2), .second, .val (.long i3), .second, .val (.int i4), .val (.int i5), .val (.long z101), .second, .val (.long z102), .second, .val (.ref b103), .val (.ref b105), .val (.ref b107), .val (.ref b127), .val (.int (2 : Int32)), .val (.int (1 : Int32)), .val (.long z102), .second, .val (.int (1 : Int32))] [(.ref b107)])) _
        refine st200.trans ?_
        show Steps p.tables e below (T200.setTop (mkF m 189 #[.val (.long i0), .second, .val (.long i1), .second, .val (.long i2), .second, .val (.long i3), .second, .val (.int i4), .val (.int i5), .val (.long z101), .second, .val (.long z102), .second, .val (.ref b103), .val (.ref b105), .val (.ref b107), .val (.ref b127), .val (.int (2 : Int32)), .val (.int (1 : Int32)), .val (.long z102), .second, .val (.int (1 : Int32))] [(.int (1 : Int32))])) _
        refine XS.iload X200.here hx rfl (hb hby at_189) rfl ?_
        show Steps p.tables e below (T200.setTop (mkF m 191 #[.val (.long i0), .second, .val (.long i1), .second, .val (.long i2), .second, .val (.long i3), .second, .val (.int i4), .val (.int i5), .val (.long z101), .second, .val (.long z102), .second, .val (.ref b103), .val (.ref b105), .val (.ref b107), .val (.ref b127), .val (.int (2 : Int32)), .val (.int (1 : Int32)), .val (.long z102), .second, .val (.int (1 : Int32))] [(.int (1 : Int32)), (.int (1 : Int32))])) _
        refine XS.icmpNo X200.here hx rfl (hb hby at_191) rfl (by decide) ?_
        show Steps p.tables e below (T200.setTop (mkF m 194 #[.val (.long i0), .second, .val (.long i1), .second, .val (.long i2), .second, .val (.long i3), .second, .val (.int i4), .val (.int i5), .val (.long z101), .second, .val (.long z102), .second, .val (.ref b103), .val (.ref b105), .val (.ref b107), .val (.ref b127), .val (.int (2 : Int32)), .val (.int (1 : Int32)), .val (.long z102), .second, .val (.int (1 : Int32))] [])) _
        refine XS.iconst X200.here hx rfl (hb hby at_194) ?_
        show Steps p.tables e below (T200.setTop (mkF m 195 #[.val (.long i0), .second, .val (.long i1), .second, .val (.long i2), .second, .val (.long i3), .second, .val (.int i4), .val (.int i5), .val (.long z101), .second, .val (.long z102), .second, .val (.ref b103), .val (.ref b105), .val (.ref b107), .val (.ref b127), .val (.int (2 : Int32)), .val (.int (1 : Int32)), .val (.long z102), .second, .val (.int (1 : Int32))] [(.int (1 : Int32))])) _
        refine XS.goto X200.here hx rfl (pc0 := 195) (pc' := 199) rfl (hb hby at_195) (by decide) (by decide) ?_
        show Steps p.tables e below (T200.setTop (mkF m 199 #[.val (.long i0), .second, .val (.long i1), .second, .val (.long i2), .second, .val (.long i3), .second, .val (.int i4), .val (.int i5), .val (.long z101), .second, .val (.long z102), .second, .val (.ref b103), .val (.ref b105), .val (.ref b107), .val (.ref b127), .val (.int (2 : Int32)), .val (.int (1 : Int32)), .val (.long z102), .second, .val (.int (1 : Int32))] [(.int (1 : Int32))])) _
        exact retN X200 hx (t := .boolean) Bd.returns (by simp) (hb hby at_199) hr
      · show QL n0 _ T200.heap _
        rw [hh200]
        exact ⟨rfl, N200⟩
    · skip
      have O201 : Old Z n0 h141 := (((O130.wr W136 gb127).wr W138 gb127).wr W141 gb127)
      have f202 := ((((Ex124.ext E127).wr W136).wr W138).wr W141)
      have f203 := ((((Fs124.ext E127).other W136 (Or.inl ne127_b107)).other W138 (Or.inl ne127_b107)).other W141 (Or.inl ne127_b107))
      have f204 := ((((Fo124.ext E127).other W136 (Or.inl ne127_b107)).other W138 (Or.inl ne127_b107)).other W141 (Or.inl ne127_b107))
      have f205 := ((((Fm124.ext E127).other W136 (Or.inl ne127_b107)).other W138 (Or.inl ne127_b107)).other W141 (Or.inl ne127_b107))
      have f206 := ((((Fz124.ext E127).other W136 (Or.inl ne127_b107)).other W138 (Or.inl ne127_b107)).other W141 (Or.inl ne127_b107))
      have f207 := ((((Lb124.ext E127).other W136 ne127_bt110).other W138 ne127_bt110).other W141 ne127_bt110)
      have f208 := ((((Fq124.ext E127).other W136 (Or.inl ne127_b107)).other W138 (Or.inl ne127_b107)).other W141 (Or.inl ne127_b107))
      obtain ⟨cq209, kq209, q209a, q209b, q209c⟩ := isOf hZ e141 f202
      obtain ⟨_, _, ⟨T209, L209, k209, n209⟩, -, X209, ⟨Lc209, hQ209, l209, y209, z209⟩, st209⟩ := X141.virtualBack hx (y := (⟨"com/example/keyfold/keyfold/KeyTable", "prefetch", "([II)V"⟩ : MethodName)) (z := (⟨"com/example/keyfold/keyfold/KeyTable", "prefetch", "([II)V"⟩ : MethodName)) hown (mvT hZ (hw _ (List.mem_of_getElem? (i := 73) rfl))) (mvT hZ (hw _ (List.mem_of_getElem? (i := 74) rfl))) (notFace_of_selects (args := #[]) (mvT hZ (hw _ (List.mem_of_getElem? (i := 76) rfl)))) (mvT hZ (hw _ (List.mem_of_getElem? (i := 76) rfl))) (mvT hZ (hw _ (List.mem_of_getElem? (i := 75) rfl))) (by decide) (backOf (W := 0) (rmPf3 l Z a0 hw [] b107 bt110 b127 k127 g124 (1 : Int32) (own_h i0) i4 (i4 ^^^ (own_h i0)) (0 : Int64) h141 n0 O201 f202 f203 f204 f205 f206 f207 f208 V141 net110 ne127_b107 gb107) hZ (hw _ (List.mem_of_getElem? (i := 77) rfl)) (hw _ (List.mem_of_getElem? (i := 18) rfl)) (by decide) (by decide)) q209a q209c (g := (mkF m 116 #[.val (.long i0), .second, .val (.long i1), .second, .val (.long i2), .second, .val (.long i3), .second, .val (.int i4), .val (.int i5), .val (.long z101), .second, .val (.long z102), .second, .val (.ref b103), .val (.ref b105), .val (.ref b107), .val (.ref b127), .val (.int (3 : Int32)), .unset, .unset, .unset, .unset] [(.int (3 : Int32)), (.ref b127), (.ref b107)])) rfl (by rw [hml]; rfl) (Steps.refl _) (argsL := [(.ref b127), (.int (3 : Int32))]) (rest := []) (lenOf pd_9 rfl) rfl (by show 2 * 0 + _ ≤ _; exact Nat.le_of_eq rfl) (hb hby at_116) (fun _ _ => ⟨rfl, e141, (by decide : 5 + 0 ≤ _), (by decide : 44 + 0 ≤ _)⟩)
      dsimp only [Pt.U, Pt.locs, Pt.cells, Pt.slots] at X209 l209 y209 z209 st209 hQ209
      subst l209 y209 z209
      obtain ⟨rfl, N209q, K209, p2209, Ex209, Fs209, Fo209, Fm209, Fz209, Lb209, Fq209⟩ := hQ209
      have N209 := Fr.app N141 N209q
      have O210 : Old Z n0 T209.heap := (O201.keep K209 (allS gb107 all0))
      have f211 := ((((f131.wr W136).wr W138).wr W141).keep K209)
      have f212 := ((((f132.other W136 (Or.inl ne127_b103)).other W138 (Or.inl ne127_b103)).other W141 (Or.inl ne127_b103)).keep K209 (ninS ne107_b103 nin0))
      have f213 := ((((f133.other W136 (Or.inl ne127_b103)).other W138 (Or.inl ne127_b103)).other W141 (Or.inl ne127_b103)).keep K209 (ninS ne107_b103 nin0))
      obtain ⟨cq214, kq214, q214a, q214b, q214c⟩ := isOf hZ rfl Ex209
      obtain ⟨_, _, ⟨T214, L214, k214, n214⟩, -, X214, ⟨Lc214, hQ214, l214, y214, z214⟩, st214⟩ := X209.virtualBack hx (y := (⟨"com/example/keyfold/keyfold/KeyTable", "get", "(Lcom/example/keyfold/keyfold/Key;)J"⟩ : MethodName)) (z := (⟨"com/example/keyfold/keyfold/KeyTable", "get", "(Lcom/example/keyfold/keyfold/Key;)J"⟩ : MethodName)) hown (mvT hZ (hw _ (List.mem_of_getElem? (i := 80) rfl))) (mvT hZ (hw _ (List.mem_of_getElem? (i := 81) rfl))) (notFace_of_selects (args := #[]) (mvT hZ (hw _ (List.mem_of_getElem? (i := 83) rfl)))) (mvT hZ (hw _ (List.mem_of_getElem? (i := 83) rfl))) (mvT hZ (hw _ (List.mem_of_getElem? (i := 82) rfl))) (by decide) (backOf (W := 0) (rmG l Z a0 hw [] b107 b103 bt110 g124 (1 : Int32) (own_s i0) i0 p2209 T209.heap n0 O210 Ex209 Fs209 Fo209 Fm209 Fz209 Lb209 Fq209 f211 f212 f213 hG1) hZ (hw _ (List.mem_of_getElem? (i := 84) rfl)) (hw _ (List.mem_of_getElem? (i := 18) rfl)) (by decide) (by decide)) q214a q214c (g := (mkF m 162 #[.val (.long i0), .second, .val (.long i1), .second, .val (.long i2), .second, .val (.long i3), .second, .val (.int i4), .val (.int i5), .val (.long z101), .second, .val (.long z102), .second, .val (.ref b103), .val (.ref b105), .val (.ref b107), .val (.ref b127), .val (.int (3 : Int32)), .val (.int (1 : Int32)), .val (.long z102), .second, .val (.int (1 : Int32))] [(.ref b103), (.ref b107)])) rfl (by rw [hml]; rfl) (Steps.refl _) (argsL := [(.ref b103)]) (rest := []) (lenOf pd_10 rfl) rfl (by show 2 * 0 + _ ≤ _; exact Nat.le_of_eq rfl) (hb hby at_162) (fun _ _ => ⟨rfl, rfl, (by decide : 5 + 0 ≤ _), (by decide : 44 + 0 ≤ _)⟩)
      dsimp only [Pt.U, Pt.locs, Pt.cells, Pt.slots] at X214 l214 y214 z214 st214 hQ214
      subst l214 y214 z214
      obtain ⟨rfl, N214q, hh214⟩ := hQ214
      have N214 := Fr.app N209 N214q
      have f215 := (((((f129.ext E127).wr W136).wr W138).wr W141).keep K209)
      have f216 := ((((((f122.keep K124 (ninS ne107_b105 (ninS ne110_b105 nin0))).ext E127).other W136 (Or.inl ne127_b105)).other W138 (Or.inl ne127_b105)).other W141 (Or.inl ne127_b105)).keep K209 (ninS ne107_b105 nin0))
      have f217 := ((((((f123.keep K124 (ninS ne107_b105 (ninS ne110_b105 nin0))).ext E127).other W136 (Or.inl ne127_b105)).other W138 (Or.inl ne127_b105)).other W141 (Or.inl ne127_b105)).keep K209 (ninS ne107_b105 nin0))
      obtain ⟨cq218, kq218, q218a, q218b, q218c⟩ := isOf hZ hh214 Ex209
      obtain ⟨_, _, ⟨T218, L218, k218, n218⟩, -, X218, ⟨Lc218, hQ218, l218, y218, z218⟩, st218⟩ := X214.virtualBack hx (y := (⟨"com/example/keyfold/keyfold/KeyTable", "get", "(Lcom/example/keyfold/keyfold/Key;)J"⟩ : MethodName)) (z := (⟨"com/example/keyfold/keyfold/KeyTable", "get", "(Lcom/example/keyfold/keyfold/Key;)J"⟩ : MethodName)) hown (mvT hZ (hw _ (List.mem_of_getElem? (i := 80) rfl))) (mvT hZ (hw _ (List.mem_of_getElem? (i := 81) rfl))) (notFace_of_selects (args := #[]) (mvT hZ (hw _ (List.mem_of_getElem? (i := 83) rfl)))) (mvT hZ (hw _ (List.mem_of_getElem? (i := 83) rfl))) (mvT hZ (hw _ (List.mem_of_getElem? (i := 82) rfl))) (by decide) (backOf (W := 0) (rmG l Z a0 hw [] b107 b105 bt110 g124 (1 : Int32) (own_s i0) i1 p2209 T209.heap n0 O210 Ex209 Fs209 Fo209 Fm209 Fz209 Lb209 Fq209 f215 f216 f217 hG2) hZ (hw _ (List.mem_of_getElem? (i := 84) rfl)) (hw _ (List.mem_of_getElem? (i := 18) rfl)) (by decide) (by decide)) q218a q218c (g := (mkF m 175 #[.val (.long i0), .second, .val (.long i1), .second, .val (.long i2), .second, .val (.long i3), .second, .val (.int i4), .val (.int i5), .val (.long z101), .second, .val (.long z102), .second, .val (.ref b103), .val (.ref b105), .val (.ref b107), .val (.ref b127), .val (.int (3 : Int32)), .val (.int (1 : Int32)), .val (.long z102), .second, .val (.int (1 : Int32))] [(.ref b105), (.ref b107)])) rfl (by rw [hml]; rfl) (Steps.refl _) (argsL := [(.ref b105)]) (rest := []) (lenOf pd_10 rfl) rfl (by show 2 * 0 + _ ≤ _; exact Nat.le_of_eq rfl) (hb hby at_175) (fun _ _ => ⟨rfl, hh214, (by decide : 5 + 0 ≤ _), (by decide : 44 + 0 ≤ _)⟩)
      dsimp only [Pt.U, Pt.locs, Pt.cells, Pt.slots] at X218 l218 y218 z218 st218 hQ218
      subst l218 y218 z218
      obtain ⟨rfl, N218q, hh218⟩ := hQ218
      have N218 := Fr.app N214 N218q
      obtain ⟨cq219, kq219, q219a, q219b, q219c⟩ := isOf hZ hh218 Ex209
      obtain ⟨_, _, ⟨T219, L219, k219, n219⟩, -, X219, ⟨Lc219, hQ219, l219, y219, z219⟩, st219⟩ := X218.virtualBack hx (y := (⟨"com/example/keyfold/keyfold/KeyTable", "size", "()I"⟩ : MethodName)) (z := (⟨"com/example/keyfold/keyfold/KeyTable", "size", "()I"⟩ : MethodName)) hown (mvT hZ (hw _ (List.mem_of_getElem? (i := 85) rfl))) (mvT hZ (hw _ (List.mem_of_getElem? (i := 86) rfl))) (notFace_of_selects (args := #[]) (mvT hZ (hw _ (List.mem_of_getElem? (i := 88) rfl)))) (mvT hZ (hw _ (List.mem_of_getElem? (i := 88) rfl))) (mvT hZ (hw _ (List.mem_of_getElem? (i := 87) rfl))) (by decide) (backOf (W := 0) (rmSz l Z a0 hw [] b107 (1 : Int32) T209.heap n0 O210 Fz209) hZ (hw _ (List.mem_of_getElem? (i := 89) rfl)) (hw _ (List.mem_of_getElem? (i := 18) rfl)) (by decide) (by decide)) q219a q219c (g := (mkF m 186 #[.val (.long i0), .second, .val (.long i1), .second, .val (.long i2), .second, .val (.long i3), .second, .val (.int i4), .val (.int i5), .val (.long z101), .second, .val (.long z102), .second, .val (.ref b103), .val (.ref b105), .val (.ref b107), .val (.ref b127), .val (.int (3 : Int32)), .val (.int (1 : Int32)), .val (.long z102), .second, .val (.int (1 : Int32))] [(.ref b107)])) rfl (by rw [hml]; rfl) (Steps.refl _) (argsL := []) (rest := []) (lenOf pd_11 rfl) rfl (by show 2 * 0 + _ ≤ _; exact Nat.le_of_eq rfl) (hb hby at_186) (fun _ _ => ⟨rfl, hh218, (by decide : 5 + 0 ≤ _), (by decide : 44 + 0 ≤ _)⟩)
      dsimp only [Pt.U, Pt.locs, Pt.cells, Pt.slots] at X219 l219 y219 z219 st219 hQ219
      subst l219 y219 z219
      obtain ⟨rfl, N219q, hh219⟩ := hQ219
      have N219 := Fr.app N218 N219q
      obtain ⟨fs, hr, hrun, hended, hW, hsame⟩ := X219.leave (v := some (.int (1 : Int32))) (fun h => by rw [Bd.returns] at h; cases h)
      refine ⟨_, _, pre142 _ ?_, hrun, hended, _, _, rfl, ?_, ⟨_, rfl⟩, hW, hsame.mono (by decide) (by decide)⟩
      · skip
        show Steps p.tables e below (T141.setTop (mkF m 108 #[.val (.long i0), .second, .val (.long i1), .second, .val (.long i2), .second, .val (.long i3), .second, .val (.int i4), .val (.int i5), .val (.long z101), .second, .val (.long z102), .second, .val (.ref b103), .val (.ref b105), .val (.ref b107), .val (.ref b127), .unset, .unset, .unset, .unset, .unset] [(.int (i5 &&& (3 : Int32)))])) _
        rw [hk143]
        show Steps p.tables e below (T141.setTop (mkF m 108 #[.val (.long i0), .second, .val (.long i1), .second, .val (.long i2), .second, .val (.long i3), .second, .val (.int i4), .val (.int i5), .val (.long z101), .second, .val (.long z102), .second, .val (.ref b103), .val (.ref b105), .val (.ref b107), .val (.ref b127), .unset, .unset, .unset, .unset, .unset] [(.int (3 : Int32))])) _
        refine XS.istore X141.here hx rfl (hb hby at_108) rfl (l' := #[.val (.long i0), .second, .val (.long i1), .second, .val (.long i2), .second, .val (.long i3), .second, .val (.int i4), .val (.int i5), .val (.long z101), .second, .val (.long z102), .second, .val (.ref b103), .val (.ref b105), .val (.ref b107), .val (.ref b127), .val (.int (3 : Int32)), .unset, .unset, .unset, .unset]) rfl ?_
        show Steps p.tables e below (T141.setTop (mkF m 110 #[.val (.long i0), .second, .val (.long i1), .second, .val (.long i2), .second, .val (.long i3), .second, .val (.int i4), .val (.int i5), .val (.long z101), .second, .val (.long z102), .second, .val (.ref b103), .val (.ref b105), .val (.ref b107), .val (.ref b127), .val (.int (3 : Int32)), .unset, .unset, .unset, .unset] [])) _
        refine XS.aload X141.here hx rfl (hb hby at_110) rfl rfl ?_
        show Steps p.tables e below (T141.setTop (mkF m 112 #[.val (.long i0), .second, .val (.long i1), .second, .val (.long i2), .second, .val (.long i3), .second, .val (.int i4), .val (.int i5), .val (.long z101), .second, .val (.long z102), .second, .val (.ref b103), .val (.ref b105), .val (.ref b107), .val (.ref b127), .val (.int (3 : Int32)), .unset, .unset, .unset, .unset] [(.ref b107)])) _
        refine XS.aload X141.here hx rfl (hb hby at_112) rfl rfl ?_
        show Steps p.tables e below (T141.setTop (mkF m 114 #[.val (.long i0), .second, .val (.long i1), .second, .val (.long i2), .second, .val (.long i3), .second, .val (.int i4), .val (.int i5), .val (.long z101), .second, .val (.long z102), .second, .val (.ref b103), .val (.ref b105), .val (.ref b107), .val (.ref b127), .val (.int (3 : Int32)), .unset, .unset, .unset, .unset] [(.ref b127), (.ref b107)])) _
        refine XS.iload X141.here hx rfl (hb hby at_114) rfl ?_
        show Steps p.tables e below (T141.setTop (mkF m 116 #[.val (.long i0), .second, .val (.long i1), .second, .val (.long i2), .second, .val (.long i3), .second, .val (.int i4), .val (.int i5), .val (.long z101), .second, .val (.long z102), .second, .val (.ref b103), .val (.ref b105), .val (.ref b107), .val (.ref b127), .val (.int (3 : Int32)), .unset, .unset, .unset, .unset] [(.int (3 : Int32)), (.ref b127), (.ref b107)])) _
        refine st209.trans ?_
        show Steps p.tables e below (T209.setTop (mkF m 119 #[.val (.long i0), .second, .val (.long i1), .second, .val (.long i2), .second, .val (.long i3), .second, .val (.int i4), .val (.int i5), .val (.long z101), .second, .val (.long z102), .second, .val (.ref b103), .val (.ref b105), .val (.ref b107), .val (.ref b127), .val (.int (3 : Int32)), .unset, .unset, .unset, .unset] [])) _
        refine XS.lloadN X209.here hx rfl (hb hby at_119) rfl ?_
        show Steps p.tables e below (T209.setTop (mkF m 120 #[.val (.long i0), .second, .val (.long i1), .second, .val (.long i2), .second, .val (.long i3), .second, .val (.int i4), .val (.int i5), .val (.long z101), .second, .val (.long z102), .second, .val (.ref b103), .val (.ref b105), .val (.ref b107), .val (.ref b127), .val (.int (3 : Int32)), .unset, .unset, .unset, .unset] [(.long i0)])) _
        refine XS.lloadN X209.here hx rfl (hb hby at_120) rfl ?_
        show Steps p.tables e below (T209.setTop (mkF m 121 #[.val (.long i0), .second, .val (.long i1), .second, .val (.long i2), .second, .val (.long i3), .second, .val (.int i4), .val (.int i5), .val (.long z101), .second, .val (.long z102), .second, .val (.ref b103), .val (.ref b105), .val (.ref b107), .val (.ref b127), .val (.int (3 : Int32)), .unset, .unset, .unset, .unset] [(.long i1), (.long i0)])) _
        refine XS.lcmp X209.here hx rfl (hb hby at_121) rfl ?_
        show Steps p.tables e below (T209.setTop (mkF m 122 #[.val (.long i0), .second, .val (.long i1), .second, .val (.long i2), .second, .val (.long i3), .second, .val (.int i4), .val (.int i5), .val (.long z101), .second, .val (.long z102), .second, .val (.ref b103), .val (.ref b105), .val (.ref b107), .val (.ref b127), .val (.int (3 : Int32)), .unset, .unset, .unset, .unset] [(.int (lcmpW i0 i1))])) _
        refine XS.ifNo X209.here hx rfl (hb hby at_122) rfl ((if0 _ _).trans (teq ((lw_eq _ _).mpr hc119)).2) ?_
        show Steps p.tables e below (T209.setTop (mkF m 125 #[.val (.long i0), .second, .val (.long i1), .second, .val (.long i2), .second, .val (.long i3), .second, .val (.int i4), .val (.int i5), .val (.long z101), .second, .val (.long z102), .second, .val (.ref b103), .val (.ref b105), .val (.ref b107), .val (.ref b127), .val (.int (3 : Int32)), .unset, .unset, .unset, .unset] [])) _
        refine XS.iconst X209.here hx rfl (hb hby at_125) ?_
        show Steps p.tables e below (T209.setTop (mkF m 126 #[.val (.long i0), .second, .val (.long i1), .second, .val (.long i2), .second, .val (.long i3), .second, .val (.int i4), .val (.int i5), .val (.long z101), .second, .val (.long z102), .second, .val (.ref b103), .val (.ref b105), .val (.ref b107), .val (.ref b127), .val (.int (3 : Int32)), .unset, .unset, .unset, .unset] [(.int (1 : Int32))])) _
        refine XS.goto X209.here hx rfl (pc0 := 126) (pc' := 130) rfl (hb hby at_126) (by decide) (by decide) ?_
        show Steps p.tables e below (T209.setTop (mkF m 130 #[.val (.long i0), .second, .val (.long i1), .second, .val (.long i2), .second, .val (.long i3), .second, .val (.int i4), .val (.int i5), .val (.long z101), .second, .val (.long z102), .second, .val (.ref b103), .val (.ref b105), .val (.ref b107), .val (.ref b127), .val (.int (3 : Int32)), .unset, .unset, .unset, .unset] [(.int (1 : Int32))])) _
        refine XS.istore X209.here hx rfl (hb hby at_130) rfl (l' := #[.val (.long i0), .second, .val (.long i1), .second, .val (.long i2), .second, .val (.long i3), .second, .val (.int i4), .val (.int i5), .val (.long z101), .second, .val (.long z102), .second, .val (.ref b103), .val (.ref b105), .val (.ref b107), .val (.ref b127), .val (.int (3 : Int32)), .val (.int (1 : Int32)), .unset, .unset, .unset]) rfl ?_
        show Steps p.tables e below (T209.setTop (mkF m 132 #[.val (.long i0), .second, .val (.long i1), .second, .val (.long i2), .second, .val (.long i3), .second, .val (.int i4), .val (.int i5), .val (.long z101), .second, .val (.long z102), .second, .val (.ref b103), .val (.ref b105), .val (.ref b107), .val (.ref b127), .val (.int (3 : Int32)), .val (.int (1 : Int32)), .unset, .unset, .unset] [])) _
        refine XS.iload X209.here hx rfl (hb hby at_132) rfl ?_
        show Steps p.tables e below (T209.setTop (mkF m 134 #[.val (.long i0), .second, .val (.long i1), .second, .val (.long i2), .second, .val (.long i3), .second, .val (.int i4), .val (.int i5), .val (.long z101), .second, .val (.long z102), .second, .val (.ref b103), .val (.ref b105), .val (.ref b107), .val (.ref b127), .val (.int (3 : Int32)), .val (.int (1 : Int32)), .unset, .unset, .unset] [(.int (1 : Int32))])) _
        refine XS.ifNo X209.here hx rfl (hb hby at_134) rfl (by decide) ?_
        show Steps p.tables e below (T209.setTop (mkF m 137 #[.val (.long i0), .second, .val (.long i1), .second, .val (.long i2), .second, .val (.long i3), .second, .val (.int i4), .val (.int i5), .val (.long z101), .second, .val (.long z102), .second, .val (.ref b103), .val (.ref b105), .val (.ref b107), .val (.ref b127), .val (.int (3 : Int32)), .val (.int (1 : Int32)), .unset, .unset, .unset] [])) _
        refine XS.lload X209.here hx rfl (hb hby at_137) rfl ?_
        show Steps p.tables e below (T209.setTop (mkF m 139 #[.val (.long i0), .second, .val (.long i1), .second, .val (.long i2), .second, .val (.long i3), .second, .val (.int i4), .val (.int i5), .val (.long z101), .second, .val (.long z102), .second, .val (.ref b103), .val (.ref b105), .val (.ref b107), .val (.ref b127), .val (.int (3 : Int32)), .val (.int (1 : Int32)), .unset, .unset, .unset] [(.long z102)])) _
        refine XS.goto X209.here hx rfl (pc0 := 139) (pc' := 144) rfl (hb hby at_139) (by decide) (by decide) ?_
        show Steps p.tables e below (T209.setTop (mkF m 144 #[.val (.long i0), .second, .val (.long i1), .second, .val (.long i2), .second, .val (.long i3), .second, .val (.int i4), .val (.int i5), .val (.long z101), .second, .val (.long z102), .second, .val (.ref b103), .val (.ref b105), .val (.ref b107), .val (.ref b127), .val (.int (3 : Int32)), .val (.int (1 : Int32)), .unset, .unset, .unset] [(.long z102)])) _
        refine XS.lstore X209.here hx rfl (hb hby at_144) rfl (l' := #[.val (.long i0), .second, .val (.long i1), .second, .val (.long i2), .second, .val (.long i3), .second, .val (.int i4), .val (.int i5), .val (.long z101), .second, .val (.long z102), .second, .val (.ref b103), .val (.ref b105), .val (.ref b107), .val (.ref b127), .val (.int (3 : Int32)), .val (.int (1 : Int32)), .val (.long z102), .second, .unset]) rfl ?_
        show Steps p.tables e below (T209.setTop (mkF m 146 #[.val (.long i0), .second, .val (.long i1), .second, .val (.long i2), .second, .val (.long i3), .second, .val (.int i4), .val (.int i5), .val (.long z101), .second, .val (.long z102), .second, .val (.ref b103), .val (.ref b105), .val (.ref b107), .val (.ref b127), .val (.int (3 : Int32)), .val (.int (1 : Int32)), .val (.long z102), .second, .unset] [])) _
        refine XS.iload X209.here hx rfl (hb hby at_146) rfl ?_
        show Steps p.tables e below (T209.setTop (mkF m 148 #[.val (.long i0), .second, .val (.long i1), .second, .val (.long i2), .second, .val (.long i3), .second, .val (.int i4), .val (.int i5), .val (.long z101), .second, .val (.long z102), .second, .val (.ref b103), .val (.ref b105), .val (.ref b107), .val (.ref b127), .val (.int (3 : Int32)), .val (.int (1 : Int32)), .val (.long z102), .second, .unset] [(.int (1 : Int32))])) _
        refine XS.ifNo X209.here hx rfl (hb hby at_148) rfl (by decide) ?_
        show Steps p.tables e below (T209.setTop (mkF m 151 #[.val (.long i0), .second, .val (.long i1), .second, .val (.long i2), .second, .val (.long i3), .second, .val (.int i4), .val (.int i5), .val (.long z101), .second, .val (.long z102), .second, .val (.ref b103), .val (.ref b105), .val (.ref b107), .val (.ref b127), .val (.int (3 : Int32)), .val (.int (1 : Int32)), .val (.long z102), .second, .unset] [])) _
        refine XS.iconst X209.here hx rfl (hb hby at_151) ?_
        show Steps p.tables e below (T209.setTop (mkF m 152 #[.val (.long i0), .second, .val (.long i1), .second, .val (.long i2), .second, .val (.long i3), .second, .val (.int i4), .val (.int i5), .val (.long z101), .second, .val (.long z102), .second, .val (.ref b103), .val (.ref b105), .val (.ref b107), .val (.ref b127), .val (.int (3 : Int32)), .val (.int (1 : Int32)), .val (.long z102), .second, .unset] [(.int (1 : Int32))])) _
        refine XS.goto X209.here hx rfl (pc0 := 152) (pc' := 156) rfl (hb hby at_152) (by decide) (by decide) ?_
        show Steps p.tables e below (T209.setTop (mkF m 156 #[.val (.long i0), .second, .val (.long i1), .second, .val (.long i2), .second, .val (.long i3), .second, .val (.int i4), .val (.int i5), .val (.long z101), .second, .val (.long z102), .second, .val (.ref b103), .val (.ref b105), .val (.ref b107), .val (.ref b127), .val (.int (3 : Int32)), .val (.int (1 : Int32)), .val (.long z102), .second, .unset] [(.int (1 : Int32))])) _
        refine XS.istore X209.here hx rfl (hb hby at_156) rfl (l' := #[.val (.long i0), .second, .val (.long i1), .second, .val (.long i2), .second, .val (.long i3), .second, .val (.int i4), .val (.int i5), .val (.long z101), .second, .val (.long z102), .second, .val (.ref b103), .val (.ref b105), .val (.ref b107), .val (.ref b127), .val (.int (3 : Int32)), .val (.int (1 : Int32)), .val (.long z102), .second, .val (.int (1 : Int32))]) rfl ?_
        show Steps p.tables e below (T209.setTop (mkF m 158 #[.val (.long i0), .second, .val (.long i1), .second, .val (.long i2), .second, .val (.long i3), .second, .val (.int i4), .val (.int i5), .val (.long z101), .second, .val (.long z102), .second, .val (.ref b103), .val (.ref b105), .val (.ref b107), .val (.ref b127), .val (.int (3 : Int32)), .val (.int (1 : Int32)), .val (.long z102), .second, .val (.int (1 : Int32))] [])) _
        refine XS.aload X209.here hx rfl (hb hby at_158) rfl rfl ?_
        show Steps p.tables e below (T209.setTop (mkF m 160 #[.val (.long i0), .second, .val (.long i1), .second, .val (.long i2), .second, .val (.long i3), .second, .val (.int i4), .val (.int i5), .val (.long z101), .second, .val (.long z102), .second, .val (.ref b103), .val (.ref b105), .val (.ref b107), .val (.ref b127), .val (.int (3 : Int32)), .val (.int (1 : Int32)), .val (.long z102), .second, .val (.int (1 : Int32))] [(.ref b107)])) _
        refine XS.aload X209.here hx rfl (hb hby at_160) rfl rfl ?_
        show Steps p.tables e below (T209.setTop (mkF m 162 #[.val (.long i0), .second, .val (.long i1), .second, .val (.long i2), .second, .val (.long i3), .second, .val (.int i4), .val (.int i5), .val (.long z101), .second, .val (.long z102), .second, .val (.ref b103), .val (.ref b105), .val (.ref b107), .val (.ref b127), .val (.int (3 : Int32)), .val (.int (1 : Int32)), .val (.long z102), .second, .val (.int (1 : Int32))] [(.ref b103), (.ref b107)])) _
        refine st214.trans ?_
        show Steps p.tables e below (T214.setTop (mkF m 165 #[.val (.long i0), .second, .val (.long i1), .second, .val (.long i2), .second, .val (.long i3), .second, .val (.int i4), .val (.int i5), .val (.long z101), .second, .val (.long z102), .second, .val (.ref b103), .val (.ref b105), .val (.ref b107), .val (.ref b127), .val (.int (3 : Int32)), .val (.int (1 : Int32)), .val (.long z102), .second, .val (.int (1 : Int32))] [(.long (g124 (((2 : Int32) * (own_s i0)) + (1 : Int32))))])) _
        refine XS.lload X214.here hx rfl (hb hby at_165) rfl ?_
        show Steps p.tables e below (T214.setTop (mkF m 167 #[.val (.long i0), .second, .val (.long i1), .second, .val (.long i2), .second, .val (.long i3), .second, .val (.int i4), .val (.int i5), .val (.long z101), .second, .val (.long z102), .second, .val (.ref b103), .val (.ref b105), .val (.ref b107), .val (.ref b127), .val (.int (3 : Int32)), .val (.int (1 : Int32)), .val (.long z102), .second, .val (.int (1 : Int32))] [(.long z102), (.long (g124 (((2 : Int32) * (own_s i0)) + (1 : Int32))))])) _
        refine XS.lcmp X214.here hx rfl (hb hby at_167) rfl ?_
        show Steps p.tables e below (T214.setTop (mkF m 168 #[.val (.long i0), .second, .val (.long i1), .second, .val (.long i2), .second, .val (.long i3), .second, .val (.int i4), .val (.int i5), .val (.long z101), .second, .val (.long z102), .second, .val (.ref b103), .val (.ref b105), .val (.ref b107), .val (.ref b127), .val (.int (3 : Int32)), .val (.int (1 : Int32)), .val (.long z102), .second, .val (.int (1 : Int32))] [(.int (lcmpW (g124 (((2 : Int32) * (own_s i0)) + (1 : Int32))) z102))])) _
        refine XS.ifNo X214.here hx rfl (hb hby at_168) rfl ((if0 _ _).trans (teq ((lw_eq _ _).mpr qa)).2) ?_
        show Steps p.tables e below (T214.setTop (mkF m 171 #[.val (.long i0), .second, .val (.long i1), .second, .val (.long i2), .second, .val (.long i3), .second, .val (.int i4), .val (.int i5), .val (.long z101), .second, .val (.long z102), .second, .val (.ref b103), .val (.ref b105), .val (.ref b107), .val (.ref b127), .val (.int (3 : Int32)), .val (.int (1 : Int32)), .val (.long z102), .second, .val (.int (1 : Int32))] [])) _
        refine XS.aload X214.here hx rfl (hb hby at_171) rfl rfl ?_
        show Steps p.tables e below (T214.setTop (mkF m 173 #[.val (.long i0), .second, .val (.long i1), .second, .val (.long i2), .second, .val (.long i3), .second, .val (.int i4), .val (.int i5), .val (.long z101), .second, .val (.long z102), .second, .val (.ref b103), .val (.ref b105), .val (.ref b107), .val (.ref b127), .val (.int (3 : Int32)), .val (.int (1 : Int32)), .val (.long z102), .second, .val (.int (1 : Int32))] [(.ref b107)])) _
        refine XS.aload X214.here hx rfl (hb hby at_173) rfl rfl ?_
        show Steps p.tables e below (T214.setTop (mkF m 175 #[.val (.long i0), .second, .val (.long i1), .second, .val (.long i2), .second, .val (.long i3), .second, .val (.int i4), .val (.int i5), .val (.long z101), .second, .val (.long z102), .second, .val (.ref b103), .val (.ref b105), .val (.ref b107), .val (.ref b127), .val (.int (3 : Int32)), .val (.int (1 : Int32)), .val (.long z102), .second, .val (.int (1 : Int32))] [(.ref b105), (.ref b107)])) _
        refine st218.trans ?_
        show Steps p.tables e below (T218.setTop (mkF m 178 #[.val (.long i0), .second, .val (.long i1), .second, .val (.long i2), .second, .val (.long i3), .second, .val (.int i4), .val (.int i5), .val (.long z101), .second, .val (.long z102), .second, .val (.ref b103), .val (.ref b105), .val (.ref b107), .val (.ref b127), .val (.int (3 : Int32)), .val (.int (1 : Int32)), .val (.long z102), .second, .val (.int (1 : Int32))] [(.long (g124 (((2 : Int32) * (own_s i0)) + (1 : Int32))))])) _
        refine XS.lload X218.here hx rfl (hb hby at_178) rfl ?_
        show Steps p.tables e below (T218.setTop (mkF m 180 #[.val (.long i0), .second, .val (.long i1), .second, .val (.long i2), .second, .val (.long i3), .second, .val (.int i4), .val (.int i5), .val (.long z101), .second, .val (.long z102), .second, .val (.ref b103), .val (.ref b105), .val (.ref b107), .val (.ref b127), .val (.int (3 : Int32)), .val (.int (1 : Int32)), .val (.long z102), .second, .val (.int (1 : Int32))] [(.long z102), (.long (g124 (((2 : Int32) * (own_s i0)) + (1 : Int32))))])) _
        refine XS.lcmp X218.here hx rfl (hb hby at_180) rfl ?_
        show Steps p.tables e below (T218.setTop (mkF m 181 #[.val (.long i0), .second, .val (.long i1), .second, .val (.long i2), .second, .val (.long i3), .second, .val (.int i4), .val (.int i5), .val (.long z101), .second, .val (.long z102), .second, .val (.ref b103), .val (.ref b105), .val (.ref b107), .val (.ref b127), .val (.int (3 : Int32)), .val (.int (1 : Int32)), .val (.long z102), .second, .val (.int (1 : Int32))] [(.int (lcmpW (g124 (((2 : Int32) * (own_s i0)) + (1 : Int32))) z102))])) _
        refine XS.ifNo X218.here hx rfl (hb hby at_181) rfl ((if0 _ _).trans (teq ((lw_eq _ _).mpr qb)).2) ?_
        show Steps p.tables e below (T218.setTop (mkF m 184 #[.val (.long i0), .second, .val (.long i1), .second, .val (.long i2), .second, .val (.long i3), .second, .val (.int i4), .val (.int i5), .val (.long z101), .second, .val (.long z102), .second, .val (.ref b103), .val (.ref b105), .val (.ref b107), .val (.ref b127), .val (.int (3 : Int32)), .val (.int (1 : Int32)), .val (.long z102), .second, .val (.int (1 : Int32))] [])) _
        refine XS.aload X218.here hx rfl (hb hby at_184) rfl rfl ?_
        show Steps p.tables e below (T218.setTop (mkF m 186 #[.val (.long i0), .second, .val (.long i1), .second, .val (.long i2), .second, .val (.long i3), .second, .val (.int i4), .val (.int i5), .val (.long z101), .second, .val (.long z102), .second, .val (.ref b103), .val (.ref b105), .val (.ref b107), .val (.ref b127), .val (.int (3 : Int32)), .val (.int (1 : Int32)), .val (.long z102), .second, .val (.int (1 : Int32))] [(.ref b107)])) _
        refine st219.trans ?_
        show Steps p.tables e below (T219.setTop (mkF m 189 #[.val (.long i0), .second, .val (.long i1), .second, .val (.long i2), .second, .val (.long i3), .second, .val (.int i4), .val (.int i5), .val (.long z101), .second, .val (.long z102), .second, .val (.ref b103), .val (.ref b105), .val (.ref b107), .val (.ref b127), .val (.int (3 : Int32)), .val (.int (1 : Int32)), .val (.long z102), .second, .val (.int (1 : Int32))] [(.int (1 : Int32))])) _
        refine XS.iload X219.here hx rfl (hb hby at_189) rfl ?_
        show Steps p.tables e below (T219.setTop (mkF m 191 #[.val (.long i0), .second, .val (.long i1), .second, .val (.long i2), .second, .val (.long i3), .second, .val (.int i4), .val (.int i5), .val (.long z101), .second, .val (.long z102), .second, .val (.ref b103), .val (.ref b105), .val (.ref b107), .val (.ref b127), .val (.int (3 : Int32)), .val (.int (1 : Int32)), .val (.long z102), .second, .val (.int (1 : Int32))] [(.int (1 : Int32)), (.int (1 : Int32))])) _
        refine XS.icmpNo X219.here hx rfl (hb hby at_191) rfl (by decide) ?_
        show Steps p.tables e below (T219.setTop (mkF m 194 #[.val (.long i0), .second, .val (.long i1), .second, .val (.long i2), .second, .val (.long i3), .second, .val (.int i4), .val (.int i5), .val (.long z101), .second, .val (.long z102), .second, .val (.ref b103), .val (.ref b105), .val (.ref b107), .val (.ref b127), .val (.int (3 : Int32)), .val (.int (1 : Int32)), .val (.long z102), .second, .val (.int (1 : Int32))] [])) _
        refine XS.iconst X219.here hx rfl (hb hby at_194) ?_
        show Steps p.tables e below (T219.setTop (mkF m 195 #[.val (.long i0), .second, .val (.long i1), .second, .val (.long i2), .second, .val (.long i3), .second, .val (.int i4), .val (.int i5), .val (.long z101), .second, .val (.long z102), .second, .val (.ref b103), .val (.ref b105), .val (.ref b107), .val (.ref b127), .val (.int (3 : Int32)), .val (.int (1 : Int32)), .val (.long z102), .second, .val (.int (1 : Int32))] [(.int (1 : Int32))])) _
        refine XS.goto X219.here hx rfl (pc0 := 195) (pc' := 199) rfl (hb hby at_195) (by decide) (by decide) ?_
        show Steps p.tables e below (T219.setTop (mkF m 199 #[.val (.long i0), .second, .val (.long i1), .second, .val (.long i2), .second, .val (.long i3), .second, .val (.int i4), .val (.int i5), .val (.long z101), .second, .val (.long z102), .second, .val (.ref b103), .val (.ref b105), .val (.ref b107), .val (.ref b127), .val (.int (3 : Int32)), .val (.int (1 : Int32)), .val (.long z102), .second, .val (.int (1 : Int32))] [(.int (1 : Int32))])) _
        exact retN X219 hx (t := .boolean) Bd.returns (by simp) (hb hby at_199) hr
      · show QL n0 _ T219.heap _
        rw [hh219]
        exact ⟨rfl, N219⟩
  · skip
    by_cases hc220 : (own_s i1) = (own_s i0)
    · skip
      have hnn : ¬ (own_n (own_s i1)) = (own_s i0) := by rw [← hc220]; exact own_nn (own_s16 _)
      have hv2 : (g117 (((2 : Int32) * (own_n (own_s i1))) + (1 : Int32))) = (0 : Int64) := by rw [hp1, own_pv' (own_s16 _) (own_n16 _) hnn]
      have hF2 : Fnd g117 i1 (own_n (own_s i1)) := by
        refine Or.inr (Or.inr (Or.inl ⟨?_, ?_, hv2, rfl⟩))
        · rw [hc220, hp1, own_pv]; exact (own_nz hz101 (by decide) id)
        · rw [hc220, hp1, own_pk (own_s16 _)]; exact hc119
      have O221 : Old Z n0 T117.heap := (O113.keep K117 (allS gb107 (allS gbt110 all0)))
      have f222 := ((f112.keep K110).keep K117)
      have f223 := (((F105_parts.ext E107).keep K110 (ninS ne107_b105 nin0)).keep K117 (ninS ne107_b105 (ninS ne110_b105 nin0)))
      have f224 := (((F105_integer.ext E107).keep K110 (ninS ne107_b105 nin0)).keep K117 (ninS ne107_b105 (ninS ne110_b105 nin0)))
      obtain ⟨cq225, kq225, q225a, q225b, q225c⟩ := isOf hZ rfl Ex117
      obtain ⟨_, _, ⟨T225, L225, k225, n225⟩, -, X225, ⟨Lc225, hQ225, l225, y225, z225⟩, st225⟩ := X117.virtualBack hx (y := (⟨"com/example/keyfold/keyfold/KeyTable", "put", "(Lcom/example/keyfold/keyfold/Key;J)J"⟩ : MethodName)) (z := (⟨"com/example/keyfold/keyfold/KeyTable", "put", "(Lcom/example/keyfold/keyfold/Key;J)J"⟩ : MethodName)) hown (mvT hZ (hw _ (List.mem_of_getElem? (i := 37) rfl))) (mvT hZ (hw _ (List.mem_of_getElem? (i := 38) rfl))) (notFace_of_selects (args := #[]) (mvT hZ (hw _ (List.mem_of_getElem? (i := 40) rfl)))) (mvT hZ (hw _ (List.mem_of_getElem? (i := 40) rfl))) (mvT hZ (hw _ (List.mem_of_getElem? (i := 39) rfl))) (by decide) (backOf (W := 0) (rmPB l Z a0 hw [] b107 b105 bt110 g117 (1 : Int32) (own_n (own_s i1)) i1 (0 : Int64) z102 T117.heap n0 O221 Ex117 Fs117 Fo117 Fm117 Fz117 Lb117 Fq117 f222 f223 f224 net110 ne110_b105 ne107_b105 gb107 gbt110 hF2 hv2 (by decide)) hZ (hw _ (List.mem_of_getElem? (i := 41) rfl)) (hw _ (List.mem_of_getElem? (i := 18) rfl)) (by decide) (by decide)) q225a q225c (g := (mkF m 69 #[.val (.long i0), .second, .val (.long i1), .second, .val (.long i2), .second, .val (.long i3), .second, .val (.int i4), .val (.int i5), .val (.long z101), .second, .val (.long z102), .second, .val (.ref b103), .val (.ref b105), .val (.ref b107), .unset, .unset, .unset, .unset, .unset, .unset] [(.long z102), (.ref b105), (.ref b107)])) rfl (by rw [hml]; rfl) (Steps.refl _) (argsL := [(.ref b105), (.long z102)]) (rest := []) (lenOf pd_8 rfl) rfl (by show 2 * 0 + _ ≤ _; exact Nat.le_of_eq rfl) (hb hby at_69) (fun _ _ => ⟨rfl, rfl, (by decide : 4 + 0 ≤ _), (by decide : 41 + 0 ≤ _)⟩)
      dsimp only [Pt.U, Pt.locs, Pt.cells, Pt.slots] at X225 l225 y225 z225 st225 hQ225
      subst l225 y225 z225
      obtain ⟨rfl, N225q, K225, Ex225, Fs225, Fo225, Fm225, Fz225, Lb225, Fq225⟩ := hQ225
      have N225 := Fr.app N117 N225q
      obtain ⟨g225, hf225⟩ : ∃ g : Int32 → Int64, g = (upd (upd g117 ((2 : Int32) * (own_n (own_s i1))) i1) (((2 : Int32) * (own_n (own_s i1))) + (1 : Int32)) z102) := ⟨_, rfl⟩
      rw [← hf225] at Lb225
      have pre226 : ∀ t, Steps p.tables e below (T225.setTop (mkF m 73 #[.val (.long i0), .second, .val (.long i1), .second, .val (.long i2), .second, .val (.long i3), .second, .val (.int i4), .val (.int i5), .val (.long z101), .second, .val (.long z102), .second, .val (.ref b103), .val (.ref b105), .val (.ref b107), .unset, .unset, .unset, .unset, .unset, .unset] [])) t → Steps p.tables e below (s₁.setTop (entryFrame m #[(.long i0), (.long i1), (.long i2), (.long i3), (.int i4), (.int i5)] maxLocals)) t := fun t kt => pre118 t (by
          show Steps p.tables e below (T117.setTop (mkF m 63 #[.val (.long i0), .second, .val (.long i1), .second, .val (.long i2), .second, .val (.long i3), .second, .val (.int i4), .val (.int i5), .val (.long z101), .second, .val (.long z102), .second, .val (.ref b103), .val (.ref b105), .val (.ref b107), .unset, .unset, .unset, .unset, .unset, .unset] [])) _
          refine XS.aload X117.here hx rfl (hb hby at_63) rfl rfl ?_
          show Steps p.tables e below (T117.setTop (mkF m 65 #[.val (.long i0), .second, .val (.long i1), .second, .val (.long i2), .second, .val (.long i3), .second, .val (.int i4), .val (.int i5), .val (.long z101), .second, .val (.long z102), .second, .val (.ref b103), .val (.ref b105), .val (.ref b107), .unset, .unset, .unset, .unset, .unset, .unset] [(.ref b107)])) _
          refine XS.aload X117.here hx rfl (hb hby at_65) rfl rfl ?_
          show Steps p.tables e below (T117.setTop (mkF m 67 #[.val (.long i0), .second, .val (.long i1), .second, .val (.long i2), .second, .val (.long i3), .second, .val (.int i4), .val (.int i5), .val (.long z101), .second, .val (.long z102), .second, .val (.ref b103), .val (.ref b105), .val (.ref b107), .unset, .unset, .unset, .unset, .unset, .unset] [(.ref b105), (.ref b107)])) _
          refine XS.lload X117.here hx rfl (hb hby at_67) rfl ?_
          show Steps p.tables e below (T117.setTop (mkF m 69 #[.val (.long i0), .second, .val (.long i1), .second, .val (.long i2), .second, .val (.long i3), .second, .val (.int i4), .val (.int i5), .val (.long z101), .second, .val (.long z102), .second, .val (.ref b103), .val (.ref b105), .val (.ref b107), .unset, .unset, .unset, .unset, .unset, .unset] [(.long z102), (.ref b105), (.ref b107)])) _
          refine st225.trans ?_
          show Steps p.tables e below (T225.setTop (mkF m 72 #[.val (.long i0), .second, .val (.long i1), .second, .val (.long i2), .second, .val (.long i3), .second, .val (.int i4), .val (.int i5), .val (.long z101), .second, .val (.long z102), .second, .val (.ref b103), .val (.ref b105), .val (.ref b107), .unset, .unset, .unset, .unset, .unset, .unset] [(.long ((upd g117 ((2 : Int32) * (own_n (own_s i1))) i1) (((2 : Int32) * (own_n (own_s i1))) + (1 : Int32))))])) _
          jvm_step X225.here [X225.here.top, hx, (hb hby at_72), Value.category]
          exact kt)
      have hp2 : g225 = own_p g117 (own_n (own_s i1)) i1 z102 := hf225
      have hne : ¬ (own_s i0) = (own_n (own_s i1)) := fun q => hnn q.symm
      have qa : (g225 (((2 : Int32) * (own_s i0)) + (1 : Int32))) = z101 := by rw [hp2, own_pv' (own_n16 _) (own_s16 _) hne, hp1, own_pv]
      have qk : (g225 ((2 : Int32) * (own_s i0))) = i0 := by rw [hp2, own_pk' (own_n16 _) (own_s16 _) hne, hp1, own_pk (own_s16 _)]
      have qb : (g225 (((2 : Int32) * (own_n (own_s i1))) + (1 : Int32))) = z102 := by rw [hp2, own_pv]
      have qc : (g225 ((2 : Int32) * (own_n (own_s i1)))) = i1 := by rw [hp2, own_pk (own_n16 _)]
      have hG1 : Fnd g225 i0 (own_s i0) := Or.inr (Or.inl ⟨by rw [qa]; exact (own_nz hz101 (by decide) id), qk, rfl⟩)
      have hG2 : Fnd g225 i1 (own_n (own_s i1)) := Or.inr (Or.inr (Or.inr ⟨by rw [hc220, qa]; exact (own_nz hz101 (by decide) id), by rw [hc220, qk]; exact hc119, by rw [qb]; exact (own_nz hz102 (by decide) id), qc, rfl⟩))
      have O227 : Old Z n0 T225.heap := (O221.keep K225 (allS gb107 (allS gbt110 all0)))
      obtain ⟨T228, h228, k228, X228, e228, E228, A228, st228⟩ := newP X225 hx hZ (hw _ (List.mem_of_getElem? (i := 69) rfl)) rfl (g := (mkF m 74 #[.val (.long i0), .second, .val (.long i1), .second, .val (.long i2), .second, .val (.long i3), .second, .val (.int i4), .val (.int i5), .val (.long z101), .second, .val (.long z102), .second, .val (.ref b103), .val (.ref b105), .val (.ref b107), .unset, .unset, .unset, .unset, .unset, .unset] [(.int (3 : Int32))])) rfl (hb hby at_74) rfl (by decide) (cap := 3) (by decide) (by decide) (by decide) (by decide)
      obtain ⟨b228, g228⟩ : ∃ z, z = T225.heap.size := ⟨_, rfl⟩
      rw [← g228] at A228 st228
      have gb228 : n0 ≤ b228 := by rw [g228, ← O227.1]; exact O227.2.1
      have f229 := ((f114.keep K117).keep K225)
      have ne228_b103 : b103 ≠ b228 := by rw [g228]; exact Nat.ne_of_lt (f229).lt
      have f230 := (f222.keep K225)
      have ne228_b105 : b105 ≠ b228 := by rw [g228]; exact Nat.ne_of_lt (f230).lt
      have ne228_b107 : b107 ≠ b228 := by rw [g228]; exact Nat.ne_of_lt (Ex225).lt
      have ne228_bt110 : bt110 ≠ b228 := by rw [g228]; exact Nat.ne_of_lt (Lb225).lt
      have V228 : Arv Z h228 b228 k228 .int (3 : Int32) [(.int (0 : Int32)), (.int (0 : Int32)), (.int (0 : Int32))] (.int (0 : Int32)) := (Arv.new A228 (by decide)).pad (pad_rep [] (.int (0 : Int32)) 3)
      have O231 : Old Z n0 h228 := (O227.ext E228)
      have f232 := (f229.ext E228)
      have f233 := (((f115.keep K117 (ninS ne107_b103 (ninS ne110_b103 nin0))).keep K225 (ninS ne107_b103 (ninS ne110_b103 nin0))).ext E228)
      have f234 := (((f116.keep K117 (ninS ne107_b103 (ninS ne110_b103 nin0))).keep K225 (ninS ne107_b103 (ninS ne110_b103 nin0))).ext E228)
      obtain ⟨_, _, ⟨T235, L235, k235, n235⟩, -, X235, ⟨Lc235, hQ235, l235, y235, z235⟩, st235⟩ := Jvm.LawKit.callS X228 hx (y := (⟨"com/example/keyfold/keyfold/KeyTable", "hash", "(Lcom/example/keyfold/keyfold/Key;)I"⟩ : MethodName)) hown (mvT hZ (hw _ (List.mem_of_getElem? (i := 70) rfl))) (mvT hZ (hw _ (List.mem_of_getElem? (i := 71) rfl))) (mvT hZ (hw _ (List.mem_of_getElem? (i := 18) rfl))) (mvT hZ (hw _ (List.mem_of_getElem? (i := 72) rfl))) (by decide) (backOf (W := 2) (rmHk l Z a0 hw [] b103 i0 h228 n0 O231 f232 f233 f234) hZ (hw _ (List.mem_of_getElem? (i := 72) rfl)) (hw _ (List.mem_of_getElem? (i := 18) rfl)) (by decide) (by decide)) (g := (mkF m 83 #[.val (.long i0), .second, .val (.long i1), .second, .val (.long i2), .second, .val (.long i3), .second, .val (.int i4), .val (.int i5), .val (.long z101), .second, .val (.long z102), .second, .val (.ref b103), .val (.ref b105), .val (.ref b107), .val (.ref b228), .unset, .unset, .unset, .unset, .unset] [(.ref b103), (.int (0 : Int32)), (.ref b228)])) rfl (by rw [hml]; rfl) (argsL := [(.ref b103)]) (rest := [(.int (0 : Int32)), (.ref b228)]) (lenOf pd_5 rfl) rfl (by show 2 * 0 + _ ≤ _; exact Nat.le_of_eq rfl) (hb hby at_83) (fun _ _ => ⟨rfl, e228, (by decide : 5 + 0 ≤ _), (by decide : 44 + 0 ≤ _)⟩)
      dsimp only [Pt.U, Pt.locs, Pt.cells, Pt.slots] at X235 l235 y235 z235 st235 hQ235
      subst l235 y235 z235
      obtain ⟨rfl, N235q, hh235⟩ := hQ235
      have N235 := Fr.app N225 N235q
      obtain ⟨cl236, Ar236, q236, S236, N236_, H236, G236⟩ := id V228
      have hin236 : ¬ ((0 : Int32) < 0 ∨ cl236.slots.size ≤ ((0 : Int32)).toNatClampNeg) := inb_of S236 ⟨by decide, by decide⟩
      obtain ⟨T237, h237, X237, e237, W237, st237⟩ := stI X235 hx hZ hh235 Ar236 (j := (0 : Int32)) hin236 (g := (mkF m 86 #[.val (.long i0), .second, .val (.long i1), .second, .val (.long i2), .second, .val (.long i3), .second, .val (.int i4), .val (.int i5), .val (.long z101), .second, .val (.long z102), .second, .val (.ref b103), .val (.ref b105), .val (.ref b107), .val (.ref b228), .unset, .unset, .unset, .unset, .unset] [(.int (own_h i0)), (.int (0 : Int32)), (.ref b228)])) rfl rfl (hb hby at_86)
      have V237 : Arv Z h237 b228 k228 .int (3 : Int32) [(.int (own_h i0)), (.int (0 : Int32)), (.int (0 : Int32))] (.int (0 : Int32)) := Arv.set Ar236 q236 S236 N236_ H236 G236 rfl W237 0 rfl (Nat.le_of_ble_eq_true rfl)
      have N237 := Fr.snoc X237 N235 gb228
      obtain ⟨cl238, Ar238, q238, S238, N238_, H238, G238⟩ := id V237
      have hin238 : ¬ ((1 : Int32) < 0 ∨ cl238.slots.size ≤ ((1 : Int32)).toNatClampNeg) := inb_of S238 ⟨by decide, by decide⟩
      obtain ⟨T239, h239, X239, e239, W239, st239⟩ := stI X237 hx hZ e237 Ar238 (j := (1 : Int32)) hin238 (g := (mkF m 92 #[.val (.long i0), .second, .val (.long i1), .second, .val (.long i2), .second, .val (.long i3), .second, .val (.int i4), .val (.int i5), .val (.long z101), .second, .val (.long z102), .second, .val (.ref b103), .val (.ref b105), .val (.ref b107), .val (.ref b228), .unset, .unset, .unset, .unset, .unset] [(.int i4), (.int (1 : Int32)), (.ref b228)])) rfl rfl (hb hby at_92)
      have V239 : Arv Z h239 b228 k228 .int (3 : Int32) [(.int (own_h i0)), (.int i4), (.int (0 : Int32))] (.int (0 : Int32)) := Arv.set Ar238 q238 S238 N238_ H238 G238 rfl W239 1 rfl (Nat.le_of_ble_eq_true rfl)
      have N239 := Fr.snoc X239 N237 gb228
      obtain ⟨cl240, Ar240, q240, S240, N240_, H240, G240⟩ := id V239
      have hin240 : ¬ ((0 : Int32) < 0 ∨ cl240.slots.size ≤ ((0 : Int32)).toNatClampNeg) := inb_of S240 ⟨by decide, by decide⟩
      have hat240 : cl240.slots[((0 : Int32)).toNatClampNeg]? = some (.int (own_h i0)) := H240.at hin240 rfl
      obtain ⟨cl241, Ar241, q241, S241, N241_, H241, G241⟩ := id V239
      have hin241 : ¬ ((2 : Int32) < 0 ∨ cl241.slots.size ≤ ((2 : Int32)).toNatClampNeg) := inb_of S241 ⟨by decide, by decide⟩
      obtain ⟨T242, h242, X242, e242, W242, st242⟩ := stI X239 hx hZ e239 Ar241 (j := (2 : Int32)) hin241 (g := (mkF m 103 #[.val (.long i0), .second, .val (.long i1), .second, .val (.long i2), .second, .val (.long i3), .second, .val (.int i4), .val (.int i5), .val (.long z101), .second, .val (.long z102), .second, .val (.ref b103), .val (.ref b105), .val (.ref b107), .val (.ref b228), .unset, .unset, .unset, .unset, .unset] [(.int (i4 ^^^ (own_h i0))), (.int (2 : Int32)), (.ref b228)])) rfl rfl (hb hby at_103)
      have V242 : Arv Z h242 b228 k228 .int (3 : Int32) [(.int (own_h i0)), (.int i4), (.int (i4 ^^^ (own_h i0)))] (.int (0 : Int32)) := Arv.set Ar241 q241 S241 N241_ H241 G241 rfl W242 2 rfl (Nat.le_of_ble_eq_true rfl)
      have N242 := Fr.snoc X242 N239 gb228
      have pre243 : ∀ t, Steps p.tables e below (T242.setTop (mkF m 108 #[.val (.long i0), .second, .val (.long i1), .second, .val (.long i2), .second, .val (.long i3), .second, .val (.int i4), .val (.int i5), .val (.long z101), .second, .val (.long z102), .second, .val (.ref b103), .val (.ref b105), .val (.ref b107), .val (.ref b228), .unset, .unset, .unset, .unset, .unset] [(.int (i5 &&& (3 : Int32)))])) t → Steps p.tables e below (s₁.setTop (entryFrame m #[(.long i0), (.long i1), (.long i2), (.long i3), (.int i4), (.int i5)] maxLocals)) t := fun t kt => pre226 t (by
          show Steps p.tables e below (T225.setTop (mkF m 73 #[.val (.long i0), .second, .val (.long i1), .second, .val (.long i2), .second, .val (.long i3), .second, .val (.int i4), .val (.int i5), .val (.long z101), .second, .val (.long z102), .second, .val (.ref b103), .val (.ref b105), .val (.ref b107), .unset, .unset, .unset, .unset, .unset, .unset] [])) _
          refine XS.iconst X225.here hx rfl (hb hby at_73) ?_
          show Steps p.tables e below (T225.setTop (mkF m 74 #[.val (.long i0), .second, .val (.long i1), .second, .val (.long i2), .second, .val (.long i3), .second, .val (.int i4), .val (.int i5), .val (.long z101), .second, .val (.long z102), .second, .val (.ref b103), .val (.ref b105), .val (.ref b107), .unset, .unset, .unset, .unset, .unset, .unset] [(.int (3 : Int32))])) _
          refine st228 _ ?_
          show Steps p.tables e below (T228.setTop (mkF m 76 #[.val (.long i0), .second, .val (.long i1), .second, .val (.long i2), .second, .val (.long i3), .second, .val (.int i4), .val (.int i5), .val (.long z101), .second, .val (.long z102), .second, .val (.ref b103), .val (.ref b105), .val (.ref b107), .unset, .unset, .unset, .unset, .unset, .unset] [(.ref b228)])) _
          refine XS.astore X228.here hx rfl (hb hby at_76) rfl rfl (l' := #[.val (.long i0), .second, .val (.long i1), .second, .val (.long i2), .second, .val (.long i3), .second, .val (.int i4), .val (.int i5), .val (.long z101), .second, .val (.long z102), .second, .val (.ref b103), .val (.ref b105), .val (.ref b107), .val (.ref b228), .unset, .unset, .unset, .unset, .unset]) rfl ?_
          show Steps p.tables e below (T228.setTop (mkF m 78 #[.val (.long i0), .second, .val (.long i1), .second, .val (.long i2), .second, .val (.long i3), .second, .val (.int i4), .val (.int i5), .val (.long z101), .second, .val (.long z102), .second, .val (.ref b103), .val (.ref b105), .val (.ref b107), .val (.ref b228), .unset, .unset, .unset, .unset, .unset] [])) _
          refine XS.aload X228.here hx rfl (hb hby at_78) rfl rfl ?_
          show Steps p.tables e below (T228.setTop (mkF m 80 #[.val (.long i0), .second, .val (.long i1), .second, .val (.long i2), .second, .val (.long i3), .second, .val (.int i4), .val (.int i5), .val (.long z101), .second, .val (.long z102), .second, .val (.ref b103), .val (.ref b105), .val (.ref b107), .val (.ref b228), .unset, .unset, .unset, .unset, .unset] [(.ref b228)])) _
          refine XS.iconst X228.here hx rfl (hb hby at_80) ?_
          show Steps p.tables e below (T228.setTop (mkF m 81 #[.val (.long i0), .second, .val (.long i1), .second, .val (.long i2), .second, .val (.long i3), .second, .val (.int i4), .val (.int i5), .val (.long z101), .second, .val (.long z102), .second, .val (.ref b103), .val (.ref b105), .val (.ref b107), .val (.ref b228), .unset, .unset, .unset, .unset, .unset] [(.int (0 : Int32)), (.ref b228)])) _
          refine XS.aload X228.here hx rfl (hb hby at_81) rfl rfl ?_
          show Steps p.tables e below (T228.setTop (mkF m 83 #[.val (.long i0), .second, .val (.long i1), .second, .val (.long i2), .second, .val (.long i3), .second, .val (.int i4), .val (.int i5), .val (.long z101), .second, .val (.long z102), .second, .val (.ref b103), .val (.ref b105), .val (.ref b107), .val (.ref b228), .unset, .unset, .unset, .unset, .unset] [(.ref b103), (.int (0 : Int32)), (.ref b228)])) _
          refine st235 _ ?_
          show Steps p.tables e below (T235.setTop (mkF m 86 #[.val (.long i0), .second, .val (.long i1), .second, .val (.long i2), .second, .val (.long i3), .second, .val (.int i4), .val (.int i5), .val (.long z101), .second, .val (.long z102), .second, .val (.ref b103), .val (.ref b105), .val (.ref b107), .val (.ref b228), .unset, .unset, .unset, .unset, .unset] [(.int (own_h i0)), (.int (0 : Int32)), (.ref b228)])) _
          refine st237 _ ?_
          show Steps p.tables e below (T237.setTop (mkF m 87 #[.val (.long i0), .second, .val (.long i1), .second, .val (.long i2), .second, .val (.long i3), .second, .val (.int i4), .val (.int i5), .val (.long z101), .second, .val (.long z102), .second, .val (.ref b103), .val (.ref b105), .val (.ref b107), .val (.ref b228), .unset, .unset, .unset, .unset, .unset] [])) _
          refine XS.aload X237.here hx rfl (hb hby at_87) rfl rfl ?_
          show Steps p.tables e below (T237.setTop (mkF m 89 #[.val (.long i0), .second, .val (.long i1), .second, .val (.long i2), .second, .val (.long i3), .second, .val (.int i4), .val (.int i5), .val (.long z101), .second, .val (.long z102), .second, .val (.ref b103), .val (.ref b105), .val (.ref b107), .val (.ref b228), .unset, .unset, .unset, .unset, .unset] [(.ref b228)])) _
          refine XS.iconst X237.here hx rfl (hb hby at_89) ?_
          show Steps p.tables e below (T237.setTop (mkF m 90 #[.val (.long i0), .second, .val (.long i1), .second, .val (.long i2), .second, .val (.long i3), .second, .val (.int i4), .val (.int i5), .val (.long z101), .second, .val (.long z102), .second, .val (.ref b103), .val (.ref b105), .val (.ref b107), .val (.ref b228), .unset, .unset, .unset, .unset, .unset] [(.int (1 : Int32)), (.ref b228)])) _
          refine XS.iload X237.here hx rfl (hb hby at_90) rfl ?_
          show Steps p.tables e below (T237.setTop (mkF m 92 #[.val (.long i0), .second, .val (.long i1), .second, .val (.long i2), .second, .val (.long i3), .second, .val (.int i4), .val (.int i5), .val (.long z101), .second, .val (.long z102), .second, .val (.ref b103), .val (.ref b105), .val (.ref b107), .val (.ref b228), .unset, .unset, .unset, .unset, .unset] [(.int i4), (.int (1 : Int32)), (.ref b228)])) _
          refine st239 _ ?_
          show Steps p.tables e below (T239.setTop (mkF m 93 #[.val (.long i0), .second, .val (.long i1), .second, .val (.long i2), .second, .val (.long i3), .second, .val (.int i4), .val (.int i5), .val (.long z101), .second, .val (.long z102), .second, .val (.ref b103), .val (.ref b105), .val (.ref b107), .val (.ref b228), .unset, .unset, .unset, .unset, .unset] [])) _
          refine XS.aload X239.here hx rfl (hb hby at_93) rfl rfl ?_
          show Steps p.tables e below (T239.setTop (mkF m 95 #[.val (.long i0), .second, .val (.long i1), .second, .val (.long i2), .second, .val (.long i3), .second, .val (.int i4), .val (.int i5), .val (.long z101), .second, .val (.long z102), .second, .val (.ref b103), .val (.ref b105), .val (.ref b107), .val (.ref b228), .unset, .unset, .unset, .unset, .unset] [(.ref b228)])) _
          refine XS.iconst X239.here hx rfl (hb hby at_95) ?_
          show Steps p.tables e below (T239.setTop (mkF m 96 #[.val (.long i0), .second, .val (.long i1), .second, .val (.long i2), .second, .val (.long i3), .second, .val (.int i4), .val (.int i5), .val (.long z101), .second, .val (.long z102), .second, .val (.ref b103), .val (.ref b105), .val (.ref b107), .val (.ref b228), .unset, .unset, .unset, .unset, .unset] [(.int (2 : Int32)), (.ref b228)])) _
          refine XS.iload X239.here hx rfl (hb hby at_96) rfl ?_
          show Steps p.tables e below (T239.setTop (mkF m 98 #[.val (.long i0), .second, .val (.long i1), .second, .val (.long i2), .second, .val (.long i3), .second, .val (.int i4), .val (.int i5), .val (.long z101), .second, .val (.long z102), .second, .val (.ref b103), .val (.ref b105), .val (.ref b107), .val (.ref b228), .unset, .unset, .unset, .unset, .unset] [(.int i4), (.int (2 : Int32)), (.ref b228)])) _
          refine XS.aload X239.here hx rfl (hb hby at_98) rfl rfl ?_
          show Steps p.tables e below (T239.setTop (mkF m 100 #[.val (.long i0), .second, .val (.long i1), .second, .val (.long i2), .second, .val (.long i3), .second, .val (.int i4), .val (.int i5), .val (.long z101), .second, .val (.long z102), .second, .val (.ref b103), .val (.ref b105), .val (.ref b107), .val (.ref b228), .unset, .unset, .unset, .unset, .unset] [(.ref b228), (.int i4), (.int (2 : Int32)), (.ref b228)])) _
          refine XS.iconst X239.here hx rfl (hb hby at_100) ?_
          show Steps p.tables e below (T239.setTop (mkF m 101 #[.val (.long i0), .second, .val (.long i1), .second, .val (.long i2), .second, .val (.long i3), .second, .val (.int i4), .val (.int i5), .val (.long z101), .second, .val (.long z102), .second, .val (.ref b103), .val (.ref b105), .val (.ref b107), .val (.ref b228), .unset, .unset, .unset, .unset, .unset] [(.int (0 : Int32)), (.ref b228), (.int i4), (.int (2 : Int32)), (.ref b228)])) _
          refine X239.iaload hx (j := (0 : Int32)) (v := (.int (own_h i0))) (by rw [e239]; exact Ar240.1) (State.isArrayOf_alike hZ.alike Ar240.2.1) Ar240.2.2 hin240 hat240 (g := (mkF m 101 #[.val (.long i0), .second, .val (.long i1), .second, .val (.long i2), .second, .val (.long i3), .second, .val (.int i4), .val (.int i5), .val (.long z101), .second, .val (.long z102), .second, .val (.ref b103), .val (.ref b105), .val (.ref b107), .val (.ref b228), .unset, .unset, .unset, .unset, .unset] [(.int (0 : Int32)), (.ref b228), (.int i4), (.int (2 : Int32)), (.ref b228)])) rfl rfl (hb hby at_101) _ ?_
          show Steps p.tables e below (T239.setTop (mkF m 102 #[.val (.long i0), .second, .val (.long i1), .second, .val (.long i2), .second, .val (.long i3), .second, .val (.int i4), .val (.int i5), .val (.long z101), .second, .val (.long z102), .second, .val (.ref b103), .val (.ref b105), .val (.ref b107), .val (.ref b228), .unset, .unset, .unset, .unset, .unset] [(.int (own_h i0)), (.int i4), (.int (2 : Int32)), (.ref b228)])) _
          refine XS.ixor X239.here hx rfl (hb hby at_102) rfl ?_
          show Steps p.tables e below (T239.setTop (mkF m 103 #[.val (.long i0), .second, .val (.long i1), .second, .val (.long i2), .second, .val (.long i3), .second, .val (.int i4), .val (.int i5), .val (.long z101), .second, .val (.long z102), .second, .val (.ref b103), .val (.ref b105), .val (.ref b107), .val (.ref b228), .unset, .unset, .unset, .unset, .unset] [(.int (i4 ^^^ (own_h i0))), (.int (2 : Int32)), (.ref b228)])) _
          refine st242 _ ?_
          show Steps p.tables e below (T242.setTop (mkF m 104 #[.val (.long i0), .second, .val (.long i1), .second, .val (.long i2), .second, .val (.long i3), .second, .val (.int i4), .val (.int i5), .val (.long z101), .second, .val (.long z102), .second, .val (.ref b103), .val (.ref b105), .val (.ref b107), .val (.ref b228), .unset, .unset, .unset, .unset, .unset] [])) _
          refine XS.iload X242.here hx rfl (hb hby at_104) rfl ?_
          show Steps p.tables e below (T242.setTop (mkF m 106 #[.val (.long i0), .second, .val (.long i1), .second, .val (.long i2), .second, .val (.long i3), .second, .val (.int i4), .val (.int i5), .val (.long z101), .second, .val (.long z102), .second, .val (.ref b103), .val (.ref b105), .val (.ref b107), .val (.ref b228), .unset, .unset, .unset, .unset, .unset] [(.int i5)])) _
          refine XS.iconst X242.here hx rfl (hb hby at_106) ?_
          show Steps p.tables e below (T242.setTop (mkF m 107 #[.val (.long i0), .second, .val (.long i1), .second, .val (.long i2), .second, .val (.long i3), .second, .val (.int i4), .val (.int i5), .val (.long z101), .second, .val (.long z102), .second, .val (.ref b103), .val (.ref b105), .val (.ref b107), .val (.ref b228), .unset, .unset, .unset, .unset, .unset] [(.int (3 : Int32)), (.int i5)])) _
          refine XS.iand X242.here hx rfl (hb hby at_107) rfl ?_
          exact kt)
      rcases own_k i5 with hk244 | hk244 | hk244 | hk244
      · skip
        have O245 : Old Z n0 h242 := (((O231.wr W237 gb228).wr W239 gb228).wr W242 gb228)
        have f246 := ((((Ex225.ext E228).wr W237).wr W239).wr W242)
        have f247 := ((((Fs225.ext E228).other W237 (Or.inl ne228_b107)).other W239 (Or.inl ne228_b107)).other W242 (Or.inl ne228_b107))
        have f248 := ((((Fo225.ext E228).other W237 (Or.inl ne228_b107)).other W239 (Or.inl ne228_b107)).other W242 (Or.inl ne228_b107))
        have f249 := ((((Fm225.ext E228).other W237 (Or.inl ne228_b107)).other W239 (Or.inl ne228_b107)).other W242 (Or.inl ne228_b107))
        have f250 := ((((Fz225.ext E228).other W237 (Or.inl ne228_b107)).other W239 (Or.inl ne228_b107)).other W242 (Or.inl ne228_b107))
        have f251 := ((((Lb225.ext E228).other W237 ne228_bt110).other W239 ne228_bt110).other W242 ne228_bt110)
        have f252 := ((((Fq225.ext E228).other W237 (Or.inl ne228_b107)).other W239 (Or.inl ne228_b107)).other W242 (Or.inl ne228_b107))
        obtain ⟨cq253, kq253, q253a, q253b, q253c⟩ := isOf hZ e242 f246
        obtain ⟨_, _, ⟨T253, L253, k253, n253⟩, -, X253, ⟨Lc253, hQ253, l253, y253, z253⟩, st253⟩ := X242.virtualBack hx (y := (⟨"com/example/keyfold/keyfold/KeyTable", "prefetch", "([II)V"⟩ : MethodName)) (z := (⟨"com/example/keyfold/keyfold/KeyTable", "prefetch", "([II)V"⟩ : MethodName)) hown (mvT hZ (hw _ (List.mem_of_getElem? (i := 73) rfl))) (mvT hZ (hw _ (List.mem_of_getElem? (i := 74) rfl))) (notFace_of_selects (args := #[]) (mvT hZ (hw _ (List.mem_of_getElem? (i := 76) rfl)))) (mvT hZ (hw _ (List.mem_of_getElem? (i := 76) rfl))) (mvT hZ (hw _ (List.mem_of_getElem? (i := 75) rfl))) (by decide) (backOf (W := 0) (rmPf0 l Z a0 hw [] b107 bt110 b228 k228 g225 (2 : Int32) (own_h i0) i4 (i4 ^^^ (own_h i0)) (0 : Int64) h242 n0 O245 f246 f247 f248 f249 f250 f251 f252 V242 net110 ne228_b107 gb107) hZ (hw _ (List.mem_of_getElem? (i := 77) rfl)) (hw _ (List.mem_of_getElem? (i := 18) rfl)) (by decide) (by decide)) q253a q253c (g := (mkF m 116 #[.val (.long i0), .second, .val (.long i1), .second, .val (.long i2), .second, .val (.long i3), .second, .val (.int i4), .val (.int i5), .val (.long z101), .second, .val (.long z102), .second, .val (.ref b103), .val (.ref b105), .val (.ref b107), .val (.ref b228), .val (.int (0 : Int32)), .unset, .unset, .unset, .unset] [(.int (0 : Int32)), (.ref b228), (.ref b107)])) rfl (by rw [hml]; rfl) (Steps.refl _) (argsL := [(.ref b228), (.int (0 : Int32))]) (rest := []) (lenOf pd_9 rfl) rfl (by show 2 * 0 + _ ≤ _; exact Nat.le_of_eq rfl) (hb hby at_116) (fun _ _ => ⟨rfl, e242, (by decide : 5 + 0 ≤ _), (by decide : 44 + 0 ≤ _)⟩)
        dsimp only [Pt.U, Pt.locs, Pt.cells, Pt.slots] at X253 l253 y253 z253 st253 hQ253
        subst l253 y253 z253
        obtain ⟨rfl, N253q, K253, p2253, Ex253, Fs253, Fo253, Fm253, Fz253, Lb253, Fq253⟩ := hQ253
        have N253 := Fr.app N242 N253q
        have O254 : Old Z n0 T253.heap := (O245.keep K253 (allS gb107 all0))
        have f255 := ((((f232.wr W237).wr W239).wr W242).keep K253)
        have f256 := ((((f233.other W237 (Or.inl ne228_b103)).other W239 (Or.inl ne228_b103)).other W242 (Or.inl ne228_b103)).keep K253 (ninS ne107_b103 nin0))
        have f257 := ((((f234.other W237 (Or.inl ne228_b103)).other W239 (Or.inl ne228_b103)).other W242 (Or.inl ne228_b103)).keep K253 (ninS ne107_b103 nin0))
        obtain ⟨cq258, kq258, q258a, q258b, q258c⟩ := isOf hZ rfl Ex253
        obtain ⟨_, _, ⟨T258, L258, k258, n258⟩, -, X258, ⟨Lc258, hQ258, l258, y258, z258⟩, st258⟩ := X253.virtualBack hx (y := (⟨"com/example/keyfold/keyfold/KeyTable", "get", "(Lcom/example/keyfold/keyfold/Key;)J"⟩ : MethodName)) (z := (⟨"com/example/keyfold/keyfold/KeyTable", "get", "(Lcom/example/keyfold/keyfold/Key;)J"⟩ : MethodName)) hown (mvT hZ (hw _ (List.mem_of_getElem? (i := 80) rfl))) (mvT hZ (hw _ (List.mem_of_getElem? (i := 81) rfl))) (notFace_of_selects (args := #[]) (mvT hZ (hw _ (List.mem_of_getElem? (i := 83) rfl)))) (mvT hZ (hw _ (List.mem_of_getElem? (i := 83) rfl))) (mvT hZ (hw _ (List.mem_of_getElem? (i := 82) rfl))) (by decide) (backOf (W := 0) (rmG l Z a0 hw [] b107 b103 bt110 g225 (2 : Int32) (own_s i0) i0 p2253 T253.heap n0 O254 Ex253 Fs253 Fo253 Fm253 Fz253 Lb253 Fq253 f255 f256 f257 hG1) hZ (hw _ (List.mem_of_getElem? (i := 84) rfl)) (hw _ (List.mem_of_getElem? (i := 18) rfl)) (by decide) (by decide)) q258a q258c (g := (mkF m 162 #[.val (.long i0), .second, .val (.long i1), .second, .val (.long i2), .second, .val (.long i3), .second, .val (.int i4), .val (.int i5), .val (.long z101), .second, .val (.long z102), .second, .val (.ref b103), .val (.ref b105), .val (.ref b107), .val (.ref b228), .val (.int (0 : Int32)), .val (.int (0 : Int32)), .val (.long z101), .second, .val (.int (2 : Int32))] [(.ref b103), (.ref b107)])) rfl (by rw [hml]; rfl) (Steps.refl _) (argsL := [(.ref b103)]) (rest := []) (lenOf pd_10 rfl) rfl (by show 2 * 0 + _ ≤ _; exact Nat.le_of_eq rfl) (hb hby at_162) (fun _ _ => ⟨rfl, rfl, (by decide : 5 + 0 ≤ _), (by decide : 44 + 0 ≤ _)⟩)
        dsimp only [Pt.U, Pt.locs, Pt.cells, Pt.slots] at X258 l258 y258 z258 st258 hQ258
        subst l258 y258 z258
        obtain ⟨rfl, N258q, hh258⟩ := hQ258
        have N258 := Fr.app N253 N258q
        have f259 := (((((f230.ext E228).wr W237).wr W239).wr W242).keep K253)
        have f260 := ((((((f223.keep K225 (ninS ne107_b105 (ninS ne110_b105 nin0))).ext E228).other W237 (Or.inl ne228_b105)).other W239 (Or.inl ne228_b105)).other W242 (Or.inl ne228_b105)).keep K253 (ninS ne107_b105 nin0))
        have f261 := ((((((f224.keep K225 (ninS ne107_b105 (ninS ne110_b105 nin0))).ext E228).other W237 (Or.inl ne228_b105)).other W239 (Or.inl ne228_b105)).other W242 (Or.inl ne228_b105)).keep K253 (ninS ne107_b105 nin0))
        obtain ⟨cq262, kq262, q262a, q262b, q262c⟩ := isOf hZ hh258 Ex253
        obtain ⟨_, _, ⟨T262, L262, k262, n262⟩, -, X262, ⟨Lc262, hQ262, l262, y262, z262⟩, st262⟩ := X258.virtualBack hx (y := (⟨"com/example/keyfold/keyfold/KeyTable", "get", "(Lcom/example/keyfold/keyfold/Key;)J"⟩ : MethodName)) (z := (⟨"com/example/keyfold/keyfold/KeyTable", "get", "(Lcom/example/keyfold/keyfold/Key;)J"⟩ : MethodName)) hown (mvT hZ (hw _ (List.mem_of_getElem? (i := 80) rfl))) (mvT hZ (hw _ (List.mem_of_getElem? (i := 81) rfl))) (notFace_of_selects (args := #[]) (mvT hZ (hw _ (List.mem_of_getElem? (i := 83) rfl)))) (mvT hZ (hw _ (List.mem_of_getElem? (i := 83) rfl))) (mvT hZ (hw _ (List.mem_of_getElem? (i := 82) rfl))) (by decide) (backOf (W := 0) (rmG l Z a0 hw [] b107 b105 bt110 g225 (2 : Int32) (own_n (own_s i1)) i1 p2253 T253.heap n0 O254 Ex253 Fs253 Fo253 Fm253 Fz253 Lb253 Fq253 f259 f260 f261 hG2) hZ (hw _ (List.mem_of_getElem? (i := 84) rfl)) (hw _ (List.mem_of_getElem? (i := 18) rfl)) (by decide) (by decide)) q262a q262c (g := (mkF m 175 #[.val (.long i0), .second, .val (.long i1), .second, .val (.long i2), .second, .val (.long i3), .second, .val (.int i4), .val (.int i5), .val (.long z101), .second, .val (.long z102), .second, .val (.ref b103), .val (.ref b105), .val (.ref b107), .val (.ref b228), .val (.int (0 : Int32)), .val (.int (0 : Int32)), .val (.long z101), .second, .val (.int (2 : Int32))] [(.ref b105), (.ref b107)])) rfl (by rw [hml]; rfl) (Steps.refl _) (argsL := [(.ref b105)]) (rest := []) (lenOf pd_10 rfl) rfl (by show 2 * 0 + _ ≤ _; exact Nat.le_of_eq rfl) (hb hby at_175) (fun _ _ => ⟨rfl, hh258, (by decide : 5 + 0 ≤ _), (by decide : 44 + 0 ≤ _)⟩)
        dsimp only [Pt.U, Pt.locs, Pt.cells, Pt.slots] at X262 l262 y262 z262 st262 hQ262
        subst l262 y262 z262
        obtain ⟨rfl, N262q, hh262⟩ := hQ262
        have N262 := Fr.app N258 N262q
        obtain ⟨cq263, kq263, q263a, q263b, q263c⟩ := isOf hZ hh262 Ex253
        obtain ⟨_, _, ⟨T263, L263, k263, n263⟩, -, X263, ⟨Lc263, hQ263, l263, y263, z263⟩, st263⟩ := X262.virtualBack hx (y := (⟨"com/example/keyfold/keyfold/KeyTable", "size", "()I"⟩ : MethodName)) (z := (⟨"com/example/keyfold/keyfold/KeyTable", "size", "()I"⟩ : MethodName)) hown (mvT hZ (hw _ (List.mem_of_getElem? (i := 85) rfl))) (mvT hZ (hw _ (List.mem_of_getElem? (i := 86) rfl))) (notFace_of_selects (args := #[]) (mvT hZ (hw _ (List.mem_of_getElem? (i := 88) rfl)))) (mvT hZ (hw _ (List.mem_of_getElem? (i := 88) rfl))) (mvT hZ (hw _ (List.mem_of_getElem? (i := 87) rfl))) (by decide) (backOf (W := 0) (rmSz l Z a0 hw [] b107 (2 : Int32) T253.heap n0 O254 Fz253) hZ (hw _ (List.mem_of_getElem? (i := 89) rfl)) (hw _ (List.mem_of_getElem? (i := 18) rfl)) (by decide) (by decide)) q263a q263c (g := (mkF m 186 #[.val (.long i0), .second, .val (.long i1), .second, .val (.long i2), .second, .val (.long i3), .second, .val (.int i4), .val (.int i5), .val (.long z101), .second, .val (.long z102), .second, .val (.ref b103), .val (.ref b105), .val (.ref b107), .val (.ref b228), .val (.int (0 : Int32)), .val (.int (0 : Int32)), .val (.long z101), .second, .val (.int (2 : Int32))] [(.ref b107)])) rfl (by rw [hml]; rfl) (Steps.refl _) (argsL := []) (rest := []) (lenOf pd_11 rfl) rfl (by show 2 * 0 + _ ≤ _; exact Nat.le_of_eq rfl) (hb hby at_186) (fun _ _ => ⟨rfl, hh262, (by decide : 5 + 0 ≤ _), (by decide : 44 + 0 ≤ _)⟩)
        dsimp only [Pt.U, Pt.locs, Pt.cells, Pt.slots] at X263 l263 y263 z263 st263 hQ263
        subst l263 y263 z263
        obtain ⟨rfl, N263q, hh263⟩ := hQ263
        have N263 := Fr.app N262 N263q
        obtain ⟨fs, hr, hrun, hended, hW, hsame⟩ := X263.leave (v := some (.int (1 : Int32))) (fun h => by rw [Bd.returns] at h; cases h)
        refine ⟨_, _, pre243 _ ?_, hrun, hended, _, _, rfl, ?_, ⟨_, rfl⟩, hW, hsame.mono (by decide) (by decide)⟩
        · skip
          show Steps p.tables e below (T242.setTop (mkF m 108 #[.val (.long i0), .second, .val (.long i1), .second, .val (.long i2), .second, .val (.long i3), .second, .val (.int i4), .val (.int i5), .val (.long z101), .second, .val (.long z102), .second, .val (.ref b103), .val (.ref b105), .val (.ref b107), .val (.ref b228), .unset, .unset, .unset, .unset, .unset] [(.int (i5 &&& (3 : Int32)))])) _
          rw [hk244]
          show Steps p.tables e below (T242.setTop (mkF m 108 #[.val (.long i0), .second, .val (.long i1), .second, .val (.long i2), .second, .val (.long i3), .second, .val (.int i4), .val (.int i5), .val (.long z101), .second, .val (.long z102), .second, .val (.ref b103), .val (.ref b105), .val (.ref b107), .val (.ref b228), .unset, .unset, .unset, .unset, .unset] [(.int (0 : Int32))])) _
          refine XS.istore X242.here hx rfl (hb hby at_108) rfl (l' := #[.val (.long i0), .second, .val (.long i1), .second, .val (.long i2), .second, .val (.long i3), .second, .val (.int i4), .val (.int i5), .val (.long z101), .second, .val (.long z102), .second, .val (.ref b103), .val (.ref b105), .val (.ref b107), .val (.ref b228), .val (.int (0 : Int32)), .unset, .unset, .unset, .unset]) rfl ?_
          show Steps p.tables e below (T242.setTop (mkF m 110 #[.val (.long i0), .second, .val (.long i1), .second, .val (.long i2), .second, .val (.long i3), .second, .val (.int i4), .val (.int i5), .val (.long z101), .second, .val (.long z102), .second, .val (.ref b103), .val (.ref b105), .val (.ref b107), .val (.ref b228), .val (.int (0 : Int32)), .unset, .unset, .unset, .unset] [])) _
          refine XS.aload X242.here hx rfl (hb hby at_110) rfl rfl ?_
          show Steps p.tables e below (T242.setTop (mkF m 112 #[.val (.long i0), .second, .val (.long i1), .second, .val (.long i2), .second, .val (.long i3), .second, .val (.int i4), .val (.int i5), .val (.long z101), .second, .val (.long z102), .second, .val (.ref b103), .val (.ref b105), .val (.ref b107), .val (.ref b228), .val (.int (0 : Int32)), .unset, .unset, .unset, .unset] [(.ref b107)])) _
          refine XS.aload X242.here hx rfl (hb hby at_112) rfl rfl ?_
          show Steps p.tables e below (T242.setTop (mkF m 114 #[.val (.long i0), .second, .val (.long i1), .second, .val (.long i2), .second, .val (.long i3), .second, .val (.int i4), .val (.int i5), .val (.long z101), .second, .val (.long z102), .second, .val (.ref b103), .val (.ref b105), .val (.ref b107), .val (.ref b228), .val (.int (0 : Int32)), .unset, .unset, .unset, .unset] [(.ref b228), (.ref b107)])) _
          refine XS.iload X242.here hx rfl (hb hby at_114) rfl ?_
          show Steps p.tables e below (T242.setTop (mkF m 116 #[.val (.long i0), .second, .val (.long i1), .second, .val (.long i2), .second, .val (.long i3), .second, .val (.int i4), .val (.int i5), .val (.long z101), .second, .val (.long z102), .second, .val (.ref b103), .val (.ref b105), .val (.ref b107), .val (.ref b228), .val (.int (0 : Int32)), .unset, .unset, .unset, .unset] [(.int (0 : Int32)), (.ref b228), (.ref b107)])) _
          refine st253.trans ?_
          show Steps p.tables e below (T253.setTop (mkF m 119 #[.val (.long i0), .second, .val (.long i1), .second, .val (.long i2), .second, .val (.long i3), .second, .val (.int i4), .val (.int i5), .val (.long z101), .second, .val (.long z102), .second, .val (.ref b103), .val (.ref b105), .val (.ref b107), .val (.ref b228), .val (.int (0 : Int32)), .unset, .unset, .unset, .unset] [])) _
          refine XS.lloadN X253.here hx rfl (hb hby at_119) rfl ?_
          show Steps p.tables e below (T253.setTop (mkF m 120 #[.val (.long i0), .second, .val (.long i1), .second, .val (.long i2), .second, .val (.long i3), .second, .val (.int i4), .val (.int i5), .val (.long z101), .second, .val (.long z102), .second, .val (.ref b103), .val (.ref b105), .val (.ref b107), .val (.ref b228), .val (.int (0 : Int32)), .unset, .unset, .unset, .unset] [(.long i0)])) _
          refine XS.lloadN X253.here hx rfl (hb hby at_120) rfl ?_
          show Steps p.tables e below (T253.setTop (mkF m 121 #[.val (.long i0), .second, .val (.long i1), .second, .val (.long i2), .second, .val (.long i3), .second, .val (.int i4), .val (.int i5), .val (.long z101), .second, .val (.long z102), .second, .val (.ref b103), .val (.ref b105), .val (.ref b107), .val (.ref b228), .val (.int (0 : Int32)), .unset, .unset, .unset, .unset] [(.long i1), (.long i0)])) _
          refine XS.lcmp X253.here hx rfl (hb hby at_121) rfl ?_
          show Steps p.tables e below (T253.setTop (mkF m 122 #[.val (.long i0), .second, .val (.long i1), .second, .val (.long i2), .second, .val (.long i3), .second, .val (.int i4), .val (.int i5), .val (.long z101), .second, .val (.long z102), .second, .val (.ref b103), .val (.ref b105), .val (.ref b107), .val (.ref b228), .val (.int (0 : Int32)), .unset, .unset, .unset, .unset] [(.int (lcmpW i0 i1))])) _
          refine XS.ifYes X253.here hx rfl (pc0 := 122) (pc' := 129) rfl (hb hby at_122) rfl ((if0 _ _).trans (feq (mt (lw_eq _ _).mp hc119)).2) (by decide) (by decide) ?_
          show Steps p.tables e below (T253.setTop (mkF m 129 #[.val (.long i0), .second, .val (.long i1), .second, .val (.long i2), .second, .val (.long i3), .second, .val (.int i4), .val (.int i5), .val (.long z101), .second, .val (.long z102), .second, .val (.ref b103), .val (.ref b105), .val (.ref b107), .val (.ref b228), .val (.int (0 : Int32)), .unset, .unset, .unset, .unset] [])) _
          refine XS.iconst X253.here hx rfl (hb hby at_129) ?_
          show Steps p.tables e below (T253.setTop (mkF m 130 #[.val (.long i0), .second, .val (.long i1), .second, .val (.long i2), .second, .val (.long i3), .second, .val (.int i4), .val (.int i5), .val (.long z101), .second, .val (.long z102), .second, .val (.ref b103), .val (.ref b105), .val (.ref b107), .val (.ref b228), .val (.int (0 : Int32)), .unset, .unset, .unset, .unset] [(.int (0 : Int32))])) _
          refine XS.istore X253.here hx rfl (hb hby at_130) rfl (l' := #[.val (.long i0), .second, .val (.long i1), .second, .val (.long i2), .second, .val (.long i3), .second, .val (.int i4), .val (.int i5), .val (.long z101), .second, .val (.long z102), .second, .val (.ref b103), .val (.ref b105), .val (.ref b107), .val (.ref b228), .val (.int (0 : Int32)), .val (.int (0 : Int32)), .unset, .unset, .unset]) rfl ?_
          show Steps p.tables e below (T253.setTop (mkF m 132 #[.val (.long i0), .second, .val (.long i1), .second, .val (.long i2), .second, .val (.long i3), .second, .val (.int i4), .val (.int i5), .val (.long z101), .second, .val (.long z102), .second, .val (.ref b103), .val (.ref b105), .val (.ref b107), .val (.ref b228), .val (.int (0 : Int32)), .val (.int (0 : Int32)), .unset, .unset, .unset] [])) _
          refine XS.iload X253.here hx rfl (hb hby at_132) rfl ?_
          show Steps p.tables e below (T253.setTop (mkF m 134 #[.val (.long i0), .second, .val (.long i1), .second, .val (.long i2), .second, .val (.long i3), .second, .val (.int i4), .val (.int i5), .val (.long z101), .second, .val (.long z102), .second, .val (.ref b103), .val (.ref b105), .val (.ref b107), .val (.ref b228), .val (.int (0 : Int32)), .val (.int (0 : Int32)), .unset, .unset, .unset] [(.int (0 : Int32))])) _
          refine XS.ifYes X253.here hx rfl (pc0 := 134) (pc' := 142) rfl (hb hby at_134) rfl (by decide) (by decide) (by decide) ?_
          show Steps p.tables e below (T253.setTop (mkF m 142 #[.val (.long i0), .second, .val (.long i1), .second, .val (.long i2), .second, .val (.long i3), .second, .val (.int i4), .val (.int i5), .val (.long z101), .second, .val (.long z102), .second, .val (.ref b103), .val (.ref b105), .val (.ref b107), .val (.ref b228), .val (.int (0 : Int32)), .val (.int (0 : Int32)), .unset, .unset, .unset] [])) _
          refine XS.lload X253.here hx rfl (hb hby at_142) rfl ?_
          show Steps p.tables e below (T253.setTop (mkF m 144 #[.val (.long i0), .second, .val (.long i1), .second, .val (.long i2), .second, .val (.long i3), .second, .val (.int i4), .val (.int i5), .val (.long z101), .second, .val (.long z102), .second, .val (.ref b103), .val (.ref b105), .val (.ref b107), .val (.ref b228), .val (.int (0 : Int32)), .val (.int (0 : Int32)), .unset, .unset, .unset] [(.long z101)])) _
          refine XS.lstore X253.here hx rfl (hb hby at_144) rfl (l' := #[.val (.long i0), .second, .val (.long i1), .second, .val (.long i2), .second, .val (.long i3), .second, .val (.int i4), .val (.int i5), .val (.long z101), .second, .val (.long z102), .second, .val (.ref b103), .val (.ref b105), .val (.ref b107), .val (.ref b228), .val (.int (0 : Int32)), .val (.int (0 : Int32)), .val (.long z101), .second, .unset]) rfl ?_
          show Steps p.tables e below (T253.setTop (mkF m 146 #[.val (.long i0), .second, .val (.long i1), .second, .val (.long i2), .second, .val (.long i3), .second, .val (.int i4), .val (.int i5), .val (.long z101), .second, .val (.long z102), .second, .val (.ref b103), .val (.ref b105), .val (.ref b107), .val (.ref b228), .val (.int (0 : Int32)), .val (.int (0 : Int32)), .val (.long z101), .second, .unset] [])) _
          refine XS.iload X253.here hx rfl (hb hby at_146) rfl ?_
          show Steps p.tables e below (T253.setTop (mkF m 148 #[.val (.long i0), .second, .val (.long i1), .second, .val (.long i2), .second, .val (.long i3), .second, .val (.int i4), .val (.int i5), .val (.long z101), .second, .val (.long z102), .second, .val (.ref b103), .val (.ref b105), .val (.ref b107), .val (.ref b228), .val (.int (0 : Int32)), .val (.int (0 : Int32)), .val (.long z101), .second, .unset] [(.int (0 : Int32))])) _
          refine XS.ifYes X253.here hx rfl (pc0 := 148) (pc' := 155) rfl (hb hby at_148) rfl (by decide) (by decide) (by decide) ?_
          show Steps p.tables e below (T253.setTop (mkF m 155 #[.val (.long i0), .second, .val (.long i1), .second, .val (.long i2), .second, .val (.long i3), .second, .val (.int i4), .val (.int i5), .val (.long z101), .second, .val (.long z102), .second, .val (.ref b103), .val (.ref b105), .val (.ref b107), .val (.ref b228), .val (.int (0 : Int32)), .val (.int (0 : Int32)), .val (.long z101), .second, .unset] [])) _
          refine XS.iconst X253.here hx rfl (hb hby at_155) ?_
          show Steps p.tables e below (T253.setTop (mkF m 156 #[.val (.long i0), .second, .val (.long i1), .second, .val (.long i2), .second, .val (.long i3), .second, .val (.int i4), .val (.int i5), .val (.long z101), .second, .val (.long z102), .second, .val (.ref b103), .val (.ref b105), .val (.ref b107), .val (.ref b228), .val (.int (0 : Int32)), .val (.int (0 : Int32)), .val (.long z101), .second, .unset] [(.int (2 : Int32))])) _
          refine XS.istore X253.here hx rfl (hb hby at_156) rfl (l' := #[.val (.long i0), .second, .val (.long i1), .second, .val (.long i2), .second, .val (.long i3), .second, .val (.int i4), .val (.int i5), .val (.long z101), .second, .val (.long z102), .second, .val (.ref b103), .val (.ref b105), .val (.ref b107), .val (.ref b228), .val (.int (0 : Int32)), .val (.int (0 : Int32)), .val (.long z101), .second, .val (.int (2 : Int32))]) rfl ?_
          show Steps p.tables e below (T253.setTop (mkF m 158 #[.val (.long i0), .second, .val (.long i1), .second, .val (.long i2), .second, .val (.long i3), .second, .val (.int i4), .val (.int i5), .val (.long z101), .second, .val (.long z102), .second, .val (.ref b103), .val (.ref b105), .val (.ref b107), .val (.ref b228), .val (.int (0 : Int32)), .val (.int (0 : Int32)), .val (.long z101), .second, .val (.int (2 : Int32))] [])) _
          refine XS.aload X253.here hx rfl (hb hby at_158) rfl rfl ?_
          show Steps p.tables e below (T253.setTop (mkF m 160 #[.val (.long i0), .second, .val (.long i1), .second, .val (.long i2), .second, .val (.long i3), .second, .val (.int i4), .val (.int i5), .val (.long z101), .second, .val (.long z102), .second, .val (.ref b103), .val (.ref b105), .val (.ref b107), .val (.ref b228), .val (.int (0 : Int32)), .val (.int (0 : Int32)), .val (.long z101), .second, .val (.int (2 : Int32))] [(.ref b107)])) _
          refine XS.aload X253.here hx rfl (hb hby at_160) rfl rfl ?_
          show Steps p.tables e below (T253.setTop (mkF m 162 #[.val (.long i0), .second, .val (.long i1), .second, .val (.long i2), .second, .val (.long i3), .second, .val (.int i4), .val (.int i5), .val (.long z101), .second, .val (.long z102), .second, .val (.ref b103), .val (.ref b105), .val (.ref b107), .val (.ref b228), .val (.int (0 : Int32)), .val (.int (0 : Int32)), .val (.long z101), .second, .val (.int (2 : Int32))] [(.ref b103), (.ref b107)])) _
          refine st258.trans ?_
          show Steps p.tables e below (T258.setTop (mkF m 165 #[.val (.long i0), .second, .val (.long i1), .second, .val (.long i2), .second, .val (.long i3), .second, .val (.int i4), .val (.int i5), .val (.long z101), .second, .val (.long z102), .second, .val (.ref b103), .val (.ref b105), .val (.ref b107), .val (.ref b228), .val (.int (0 : Int32)), .val (.int (0 : Int32)), .val (.long z101), .second, .val (.int (2 : Int32))] [(.long (g225 (((2 : Int32) * (own_s i0)) + (1 : Int32))))])) _
          refine XS.lload X258.here hx rfl (hb hby at_165) rfl ?_
          show Steps p.tables e below (T258.setTop (mkF m 167 #[.val (.long i0), .second, .val (.long i1), .second, .val (.long i2), .second, .val (.long i3), .second, .val (.int i4), .val (.int i5), .val (.long z101), .second, .val (.long z102), .second, .val (.ref b103), .val (.ref b105), .val (.ref b107), .val (.ref b228), .val (.int (0 : Int32)), .val (.int (0 : Int32)), .val (.long z101), .second, .val (.int (2 : Int32))] [(.long z101), (.long (g225 (((2 : Int32) * (own_s i0)) + (1 : Int32))))])) _
          refine XS.lcmp X258.here hx rfl (hb hby at_167) rfl ?_
          show Steps p.tables e below (T258.setTop (mkF m 168 #[.val (.long i0), .second, .val (.long i1), .second, .val (.long i2), .second, .val (.long i3), .second, .val (.int i4), .val (.int i5), .val (.long z101), .second, .val (.long z102), .second, .val (.ref b103), .val (.ref b105), .val (.ref b107), .val (.ref b228), .val (.int (0 : Int32)), .val (.int (0 : Int32)), .val (.long z101), .second, .val (.int (2 : Int32))] [(.int (lcmpW (g225 (((2 : Int32) * (own_s i0)) + (1 : Int32))) z101))])) _
          refine XS.ifNo X258.here hx rfl (hb hby at_168) rfl ((if0 _ _).trans (teq ((lw_eq _ _).mpr qa)).2) ?_
          show Steps p.tables e below (T258.setTop (mkF m 171 #[.val (.long i0), .second, .val (.long i1), .second, .val (.long i2), .second, .val (.long i3), .second, .val (.int i4), .val (.int i5), .val (.long z101), .second, .val (.long z102), .second, .val (.ref b103), .val (.ref b105), .val (.ref b107), .val (.ref b228), .val (.int (0 : Int32)), .val (.int (0 : Int32)), .val (.long z101), .second, .val (.int (2 : Int32))] [])) _
          refine XS.aload X258.here hx rfl (hb hby at_171) rfl rfl ?_
          show Steps p.tables e below (T258.setTop (mkF m 173 #[.val (.long i0), .second, .val (.long i1), .second, .val (.long i2), .second, .val (.long i3), .second, .val (.int i4), .val (.int i5), .val (.long z101), .second, .val (.long z102), .second, .val (.ref b103), .val (.ref b105), .val (.ref b107), .val (.ref b228), .val (.int (0 : Int32)), .val (.int (0 : Int32)), .val (.long z101), .second, .val (.int (2 : Int32))] [(.ref b107)])) _
          refine XS.aload X258.here hx rfl (hb hby at_173) rfl rfl ?_
          show Steps p.tables e below (T258.setTop (mkF m 175 #[.val (.long i0), .second, .val (.long i1), .second, .val (.long i2), .second, .val (.long i3), .second, .val (.int i4), .val (.int i5), .val (.long z101), .second, .val (.long z102), .second, .val (.ref b103), .val (.ref b105), .val (.ref b107), .val (.ref b228), .val (.int (0 : Int32)), .val (.int (0 : Int32)), .val (.long z101), .second, .val (.int (2 : Int32))] [(.ref b105), (.ref b107)])) _
          refine st262.trans ?_
          show Steps p.tables e below (T262.setTop (mkF m 178 #[.val (.long i0), .second, .val (.long i1), .second, .val (.long i2), .second, .val (.long i3), .second, .val (.int i4), .val (.int i5), .val (.long z101), .second, .val (.long z102), .second, .val (.ref b103), .val (.ref b105), .val (.ref b107), .val (.ref b228), .val (.int (0 : Int32)), .val (.int (0 : Int32)), .val (.long z101), .second, .val (.int (2 : Int32))] [(.long (g225 (((2 : Int32) * (own_n (own_s i1))) + (1 : Int32))))])) _
          refine XS.lload X262.here hx rfl (hb hby at_178) rfl ?_
          show Steps p.tables e below (T262.setTop (mkF m 180 #[.val (.long i0), .second, .val (.long i1), .second, .val (.long i2), .second, .val (.long i3), .second, .val (.int i4), .val (.int i5), .val (.long z101), .second, .val (.long z102), .second, .val (.ref b103), .val (.ref b105), .val (.ref b107), .val (.ref b228), .val (.int (0 : Int32)), .val (.int (0 : Int32)), .val (.long z101), .second, .val (.int (2 : Int32))] [(.long z102), (.long (g225 (((2 : Int32) * (own_n (own_s i1))) + (1 : Int32))))])) _
          refine XS.lcmp X262.here hx rfl (hb hby at_180) rfl ?_
          show Steps p.tables e below (T262.setTop (mkF m 181 #[.val (.long i0), .second, .val (.long i1), .second, .val (.long i2), .second, .val (.long i3), .second, .val (.int i4), .val (.int i5), .val (.long z101), .second, .val (.long z102), .second, .val (.ref b103), .val (.ref b105), .val (.ref b107), .val (.ref b228), .val (.int (0 : Int32)), .val (.int (0 : Int32)), .val (.long z101), .second, .val (.int (2 : Int32))] [(.int (lcmpW (g225 (((2 : Int32) * (own_n (own_s i1))) + (1 : Int32))) z102))])) _
          refine XS.ifNo X262.here hx rfl (hb hby at_181) rfl ((if0 _ _).trans (teq ((lw_eq _ _).mpr qb)).2) ?_
          show Steps p.tables e below (T262.setTop (mkF m 184 #[.val (.long i0), .second, .val (.long i1), .second, .val (.long i2), .second, .val (.long i3), .second, .val (.int i4), .val (.int i5), .val (.long z101), .second, .val (.long z102), .second, .val (.ref b103), .val (.ref b105), .val (.ref b107), .val (.ref b228), .val (.int (0 : Int32)), .val (.int (0 : Int32)), .val (.long z101), .second, .val (.int (2 : Int32))] [])) _
          refine XS.aload X262.here hx rfl (hb hby at_184) rfl rfl ?_
          show Steps p.tables e below (T262.setTop (mkF m 186 #[.val (.long i0), .second, .val (.long i1), .second, .val (.long i2), .second, .val (.long i3), .second, .val (.int i4), .val (.int i5), .val (.long z101), .second, .val (.long z102), .second, .val (.ref b103), .val (.ref b105), .val (.ref b107), .val (.ref b228), .val (.int (0 : Int32)), .val (.int (0 : Int32)), .val (.long z101), .second, .val (.int (2 : Int32))] [(.ref b107)])) _
          refine st263.trans ?_
          show Steps p.tables e below (T263.setTop (mkF m 189 #[.val (.long i0), .second, .val (.long i1), .second, .val (.long i2), .second, .val (.long i3), .second, .val (.int i4), .val (.int i5), .val (.long z101), .second, .val (.long z102), .second, .val (.ref b103), .val (.ref b105), .val (.ref b107), .val (.ref b228), .val (.int (0 : Int32)), .val (.int (0 : Int32)), .val (.long z101), .second, .val (.int (2 : Int32))] [(.int (2 : Int32))])) _
          refine XS.iload X263.here hx rfl (hb hby at_189) rfl ?_
          show Steps p.tables e below (T263.setTop (mkF m 191 #[.val (.long i0), .second, .val (.long i1), .second, .val (.long i2), .second, .val (.long i3), .second, .val (.int i4), .val (.int i5), .val (.long z101), .second, .val (.long z102), .second, .val (.ref b103), .val (.ref b105), .val (.ref b107), .val (.ref b228), .val (.int (0 : Int32)), .val (.int (0 : Int32)), .val (.long z101), .second, .val (.int (2 : Int32))] [(.int (2 : Int32)), (.int (2 : Int32))])) _
          refine XS.icmpNo X263.here hx rfl (hb hby at_191) rfl (by decide) ?_
          show Steps p.tables e below (T263.setTop (mkF m 194 #[.val (.long i0), .second, .val (.long i1), .second, .val (.long i2), .second, .val (.long i3), .second, .val (.int i4), .val (.int i5), .val (.long z101), .second, .val (.long z102), .second, .val (.ref b103), .val (.ref b105), .val (.ref b107), .val (.ref b228), .val (.int (0 : Int32)), .val (.int (0 : Int32)), .val (.long z101), .second, .val (.int (2 : Int32))] [])) _
          refine XS.iconst X263.here hx rfl (hb hby at_194) ?_
          show Steps p.tables e below (T263.setTop (mkF m 195 #[.val (.long i0), .second, .val (.long i1), .second, .val (.long i2), .second, .val (.long i3), .second, .val (.int i4), .val (.int i5), .val (.long z101), .second, .val (.long z102), .second, .val (.ref b103), .val (.ref b105), .val (.ref b107), .val (.ref b228), .val (.int (0 : Int32)), .val (.int (0 : Int32)), .val (.long z101), .second, .val (.int (2 : Int32))] [(.int (1 : Int32))])) _
          refine XS.goto X263.here hx rfl (pc0 := 195) (pc' := 199) rfl (hb hby at_195) (by decide) (by decide) ?_
          show Steps p.tables e below (T263.setTop (mkF m 199 #[.val (.long i0), .second, .val (.long i1), .second, .val (.long i2), .second, .val (.long i3), .second, .val (.int i4), .val (.int i5), .val (.long z101), .second, .val (.long z102), .second, .val (.ref b103), .val (.ref b105), .val (.ref b107), .val (.ref b228), .val (.int (0 : Int32)), .val (.int (0 : Int32)), .val (.long z101), .second, .val (.int (2 : Int32))] [(.int (1 : Int32))])) _
          exact retN X263 hx (t := .boolean) Bd.returns (by simp) (hb hby at_199) hr
        · show QL n0 _ T263.heap _
          rw [hh263]
          exact ⟨rfl, N263⟩
      · skip
        have O264 : Old Z n0 h242 := (((O231.wr W237 gb228).wr W239 gb228).wr W242 gb228)
        have f265 := ((((Ex225.ext E228).wr W237).wr W239).wr W242)
        have f266 := ((((Fs225.ext E228).other W237 (Or.inl ne228_b107)).other W239 (Or.inl ne228_b107)).other W242 (Or.inl ne228_b107))
        have f267 := ((((Fo225.ext E228).other W237 (Or.inl ne228_b107)).other W239 (Or.inl ne228_b107)).other W242 (Or.inl ne228_b107))
        have f268 := ((((Fm225.ext E228).other W237 (Or.inl ne228_b107)).other W239 (Or.inl ne228_b107)).other W242 (Or.inl ne228_b107))
        have f269 := ((((Fz225.ext E228).other W237 (Or.inl ne228_b107)).other W239 (Or.inl ne228_b107)).other W242 (Or.inl ne228_b107))
        have f270 := ((((Lb225.ext E228).other W237 ne228_bt110).other W239 ne228_bt110).other W242 ne228_bt110)
        have f271 := ((((Fq225.ext E228).other W237 (Or.inl ne228_b107)).other W239 (Or.inl ne228_b107)).other W242 (Or.inl ne228_b107))
        obtain ⟨cq272, kq272, q272a, q272b, q272c⟩ := isOf hZ e242 f265
        obtain ⟨_, _, ⟨T272, L272, k272, n272⟩, -, X272, ⟨Lc272, hQ272, l272, y272, z272⟩, st272⟩ := X242.virtualBack hx (y := (⟨"com/example/keyfold/keyfold/KeyTable", "prefetch", "([II)V"⟩ : MethodName)) (z := (⟨"com/example/keyfold/keyfold/KeyTable", "prefetch", "([II)V"⟩ : MethodName)) hown (mvT hZ (hw _ (List.mem_of_getElem? (i := 73) rfl))) (mvT hZ (hw _ (List.mem_of_getElem? (i := 74) rfl))) (notFace_of_selects (args := #[]) (mvT hZ (hw _ (List.mem_of_getElem? (i := 76) rfl)))) (mvT hZ (hw _ (List.mem_of_getElem? (i := 76) rfl))) (mvT hZ (hw _ (List.mem_of_getElem? (i := 75) rfl))) (by decide) (backOf (W := 0) (rmPf1 l Z a0 hw [] b107 bt110 b228 k228 g225 (2 : Int32) (own_h i0) i4 (i4 ^^^ (own_h i0)) (0 : Int64) h242 n0 O264 f265 f266 f267 f268 f269 f270 f271 V242 net110 ne228_b107 gb107) hZ (hw _ (List.mem_of_getElem? (i := 77) rfl)) (hw _ (List.mem_of_getElem? (i := 18) rfl)) (by decide) (by decide)) q272a q272c (g := (mkF m 116 #[.val (.long i0), .second, .val (.long i1), .second, .val (.long i2), .second, .val (.long i3), .second, .val (.int i4), .val (.int i5), .val (.long z101), .second, .val (.long z102), .second, .val (.ref b103), .val (.ref b105), .val (.ref b107), .val (.ref b228), .val (.int (1 : Int32)), .unset, .unset, .unset, .unset] [(.int (1 : Int32)), (.ref b228), (.ref b107)])) rfl (by rw [hml]; rfl) (Steps.refl _) (argsL := [(.ref b228), (.int (1 : Int32))]) (rest := []) (lenOf pd_9 rfl) rfl (by show 2 * 0 + _ ≤ _; exact Nat.le_of_eq rfl) (hb hby at_116) (fun _ _ => ⟨rfl, e242, (by decide : 5 + 0 ≤ _), (by decide : 44 + 0 ≤ _)⟩)
        dsimp only [Pt.U, Pt.locs, Pt.cells, Pt.slots] at X272 l272 y272 z272 st272 hQ272
        subst l272 y272 z272
        obtain ⟨rfl, N272q, K272, p2272, Ex272, Fs272, Fo272, Fm272, Fz272, Lb272, Fq272⟩ := hQ272
        have N272 := Fr.app N242 N272q
        have O273 : Old Z n0 T272.heap := (O264.keep K272 (allS gb107 all0))
        have f274 := ((((f232.wr W237).wr W239).wr W242).keep K272)
        have f275 := ((((f233.other W237 (Or.inl ne228_b103)).other W239 (Or.inl ne228_b103)).other W242 (Or.inl ne228_b103)).keep K272 (ninS ne107_b103 nin0))
        have f276 := ((((f234.other W237 (Or.inl ne228_b103)).other W239 (Or.inl ne228_b103)).other W242 (Or.inl ne228_b103)).keep K272 (ninS ne107_b103 nin0))
        obtain ⟨cq277, kq277, q277a, q277b, q277c⟩ := isOf hZ rfl Ex272
        obtain ⟨_, _, ⟨T277, L277, k277, n277⟩, -, X277, ⟨Lc277, hQ277, l277, y277, z277⟩, st277⟩ := X272.virtualBack hx (y := (⟨"com/example/keyfold/keyfold/KeyTable", "get", "(Lcom/example/keyfold/keyfold/Key;)J"⟩ : MethodName)) (z := (⟨"com/example/keyfold/keyfold/KeyTable", "get", "(Lcom/example/keyfold/keyfold/Key;)J"⟩ : MethodName)) hown (mvT hZ (hw _ (List.mem_of_getElem? (i := 80) rfl))) (mvT hZ (hw _ (List.mem_of_getElem? (i := 81) rfl))) (notFace_of_selects (args := #[]) (mvT hZ (hw _ (List.mem_of_getElem? (i := 83) rfl)))) (mvT hZ (hw _ (List.mem_of_getElem? (i := 83) rfl))) (mvT hZ (hw _ (List.mem_of_getElem? (i := 82) rfl))) (by decide) (backOf (W := 0) (rmG l Z a0 hw [] b107 b103 bt110 g225 (2 : Int32) (own_s i0) i0 p2272 T272.heap n0 O273 Ex272 Fs272 Fo272 Fm272 Fz272 Lb272 Fq272 f274 f275 f276 hG1) hZ (hw _ (List.mem_of_getElem? (i := 84) rfl)) (hw _ (List.mem_of_getElem? (i := 18) rfl)) (by decide) (by decide)) q277a q277c (g := (mkF m 162 #[.val (.long i0), .second, .val (.long i1), .second, .val (.long i2), .second, .val (.long i3), .second, .val (.int i4), .val (.int i5), .val (.long z101), .second, .val (.long z102), .second, .val (.ref b103), .val (.ref b105), .val (.ref b107), .val (.ref b228), .val (.int (1 : Int32)), .val (.int (0 : Int32)), .val (.long z101), .second, .val (.int (2 : Int32))] [(.ref b103), (.ref b107)])) rfl (by rw [hml]; rfl) (Steps.refl _) (argsL := [(.ref b103)]) (rest := []) (lenOf pd_10 rfl) rfl (by show 2 * 0 + _ ≤ _; exact Nat.le_of_eq rfl) (hb hby at_162) (fun _ _ => ⟨rfl, rfl, (by decide : 5 + 0 ≤ _), (by decide : 44 + 0 ≤ _)⟩)
        dsimp only [Pt.U, Pt.locs, Pt.cells, Pt.slots] at X277 l277 y277 z277 st277 hQ277
        subst l277 y277 z277
        obtain ⟨rfl, N277q, hh277⟩ := hQ277
        have N277 := Fr.app N272 N277q
        have f278 := (((((f230.ext E228).wr W237).wr W239).wr W242).keep K272)
        have f279 := ((((((f223.keep K225 (ninS ne107_b105 (ninS ne110_b105 nin0))).ext E228).other W237 (Or.inl ne228_b105)).other W239 (Or.inl ne228_b105)).other W242 (Or.inl ne228_b105)).keep K272 (ninS ne107_b105 nin0))
        have f280 := ((((((f224.keep K225 (ninS ne107_b105 (ninS ne110_b105 nin0))).ext E228).other W237 (Or.inl ne228_b105)).other W239 (Or.inl ne228_b105)).other W242 (Or.inl ne228_b105)).keep K272 (ninS ne107_b105 nin0))
        obtain ⟨cq281, kq281, q281a, q281b, q281c⟩ := isOf hZ hh277 Ex272
        obtain ⟨_, _, ⟨T281, L281, k281, n281⟩, -, X281, ⟨Lc281, hQ281, l281, y281, z281⟩, st281⟩ := X277.virtualBack hx (y := (⟨"com/example/keyfold/keyfold/KeyTable", "get", "(Lcom/example/keyfold/keyfold/Key;)J"⟩ : MethodName)) (z := (⟨"com/example/keyfold/keyfold/KeyTable", "get", "(Lcom/example/keyfold/keyfold/Key;)J"⟩ : MethodName)) hown (mvT hZ (hw _ (List.mem_of_getElem? (i := 80) rfl))) (mvT hZ (hw _ (List.mem_of_getElem? (i := 81) rfl))) (notFace_of_selects (args := #[]) (mvT hZ (hw _ (List.mem_of_getElem? (i := 83) rfl)))) (mvT hZ (hw _ (List.mem_of_getElem? (i := 83) rfl))) (mvT hZ (hw _ (List.mem_of_getElem? (i := 82) rfl))) (by decide) (backOf (W := 0) (rmG l Z a0 hw [] b107 b105 bt110 g225 (2 : Int32) (own_n (own_s i1)) i1 p2272 T272.heap n0 O273 Ex272 Fs272 Fo272 Fm272 Fz272 Lb272 Fq272 f278 f279 f280 hG2) hZ (hw _ (List.mem_of_getElem? (i := 84) rfl)) (hw _ (List.mem_of_getElem? (i := 18) rfl)) (by decide) (by decide)) q281a q281c (g := (mkF m 175 #[.val (.long i0), .second, .val (.long i1), .second, .val (.long i2), .second, .val (.long i3), .second, .val (.int i4), .val (.int i5), .val (.long z101), .second, .val (.long z102), .second, .val (.ref b103), .val (.ref b105), .val (.ref b107), .val (.ref b228), .val (.int (1 : Int32)), .val (.int (0 : Int32)), .val (.long z101), .second, .val (.int (2 : Int32))] [(.ref b105), (.ref b107)])) rfl (by rw [hml]; rfl) (Steps.refl _) (argsL := [(.ref b105)]) (rest := []) (lenOf pd_10 rfl) rfl (by show 2 * 0 + _ ≤ _; exact Nat.le_of_eq rfl) (hb hby at_175) (fun _ _ => ⟨rfl, hh277, (by decide : 5 + 0 ≤ _), (by decide : 44 + 0 ≤ _)⟩)
        dsimp only [Pt.U, Pt.locs, Pt.cells, Pt.slots] at X281 l281 y281 z281 st281 hQ281
        subst l281 y281 z281
        obtain ⟨rfl, N281q, hh281⟩ := hQ281
        have N281 := Fr.app N277 N281q
        obtain ⟨cq282, kq282, q282a, q282b, q282c⟩ := isOf hZ hh281 Ex272
        obtain ⟨_, _, ⟨T282, L282, k282, n282⟩, -, X282, ⟨Lc282, hQ282, l282, y282, z282⟩, st282⟩ := X281.virtualBack hx (y := (⟨"com/example/keyfold/keyfold/KeyTable", "size", "()I"⟩ : MethodName)) (z := (⟨"com/example/keyfold/keyfold/KeyTable", "size", "()I"⟩ : MethodName)) hown (mvT hZ (hw _ (List.mem_of_getElem? (i := 85) rfl))) (mvT hZ (hw _ (List.mem_of_getElem? (i := 86) rfl))) (notFace_of_selects (args := #[]) (mvT hZ (hw _ (List.mem_of_getElem? (i := 88) rfl)))) (mvT hZ (hw _ (List.mem_of_getElem? (i := 88) rfl))) (mvT hZ (hw _ (List.mem_of_getElem? (i := 87) rfl))) (by decide) (backOf (W := 0) (rmSz l Z a0 hw [] b107 (2 : Int32) T272.heap n0 O273 Fz272) hZ (hw _ (List.mem_of_getElem? (i := 89) rfl)) (hw _ (List.mem_of_getElem? (i := 18) rfl)) (by decide) (by decide)) q282a q282c (g := (mkF m 186 #[.val (.long i0), .second, .val (.long i1), .second, .val (.long i2), .second, .val (.long i3), .second, .val (.int i4), .val (.int i5), .val (.long z101), .second, .val (.long z102), .second, .val (.ref b103), .val (.ref b105), .val (.ref b107), .val (.ref b228), .val (.int (1 : Int32)), .val (.int (0 : Int32)), .val (.long z101), .second, .val (.int (2 : Int32))] [(.ref b107)])) rfl (by rw [hml]; rfl) (Steps.refl _) (argsL := []) (rest := []) (lenOf pd_11 rfl) rfl (by show 2 * 0 + _ ≤ _; exact Nat.le_of_eq rfl) (hb hby at_186) (fun _ _ => ⟨rfl, hh281, (by decide : 5 + 0 ≤ _), (by decide : 44 + 0 ≤ _)⟩)
        dsimp only [Pt.U, Pt.locs, Pt.cells, Pt.slots] at X282 l282 y282 z282 st282 hQ282
        subst l282 y282 z282
        obtain ⟨rfl, N282q, hh282⟩ := hQ282
        have N282 := Fr.app N281 N282q
        obtain ⟨fs, hr, hrun, hended, hW, hsame⟩ := X282.leave (v := some (.int (1 : Int32))) (fun h => by rw [Bd.returns] at h; cases h)
        refine ⟨_, _, pre243 _ ?_, hrun, hended, _, _, rfl, ?_, ⟨_, rfl⟩, hW, hsame.mono (by decide) (by decide)⟩
        · skip
          show Steps p.tables e below (T242.setTop (mkF m 108 #[.val (.long i0), .second, .val (.long i1), .second, .val (.long i2), .second, .val (.long i3), .second, .val (.int i4), .val (.int i5), .val (.long z101), .second, .val (.long z102), .second, .val (.ref b103), .val (.ref b105), .val (.ref b107), .val (.ref b228), .unset, .unset, .unset, .unset, .unset] [(.int (i5 &&& (3 : Int32)))])) _
          rw [hk244]
          show Steps p.tables e below (T242.setTop (mkF m 108 #[.val (.long i0), .second, .val (.long i1), .second, .val (.long i2), .second, .val (.long i3), .second, .val (.int i4), .val (.int i5), .val (.long z101), .second, .val (.long z102), .second, .val (.ref b103), .val (.ref b105), .val (.ref b107), .val (.ref b228), .unset, .unset, .unset, .unset, .unset] [(.int (1 : Int32))])) _
          refine XS.istore X242.here hx rfl (hb hby at_108) rfl (l' := #[.val (.long i0), .second, .val (.long i1), .second, .val (.long i2), .second, .val (.long i3), .second, .val (.int i4), .val (.int i5), .val (.long z101), .second, .val (.long z102), .second, .val (.ref b103), .val (.ref b105), .val (.ref b107), .val (.ref b228), .val (.int (1 : Int32)), .unset, .unset, .unset, .unset]) rfl ?_
          show Steps p.tables e below (T242.setTop (mkF m 110 #[.val (.long i0), .second, .val (.long i1), .second, .val (.long i2), .second, .val (.long i3), .second, .val (.int i4), .val (.int i5), .val (.long z101), .second, .val (.long z102), .second, .val (.ref b103), .val (.ref b105), .val (.ref b107), .val (.ref b228), .val (.int (1 : Int32)), .unset, .unset, .unset, .unset] [])) _
          refine XS.aload X242.here hx rfl (hb hby at_110) rfl rfl ?_
          show Steps p.tables e below (T242.setTop (mkF m 112 #[.val (.long i0), .second, .val (.long i1), .second, .val (.long i2), .second, .val (.long i3), .second, .val (.int i4), .val (.int i5), .val (.long z101), .second, .val (.long z102), .second, .val (.ref b103), .val (.ref b105), .val (.ref b107), .val (.ref b228), .val (.int (1 : Int32)), .unset, .unset, .unset, .unset] [(.ref b107)])) _
          refine XS.aload X242.here hx rfl (hb hby at_112) rfl rfl ?_
          show Steps p.tables e below (T242.setTop (mkF m 114 #[.val (.long i0), .second, .val (.long i1), .second, .val (.long i2), .second, .val (.long i3), .second, .val (.int i4), .val (.int i5), .val (.long z101), .second, .val (.long z102), .second, .val (.ref b103), .val (.ref b105), .val (.ref b107), .val (.ref b228), .val (.int (1 : Int32)), .unset, .unset, .unset, .unset] [(.ref b228), (.ref b107)])) _
          refine XS.iload X242.here hx rfl (hb hby at_114) rfl ?_
          show Steps p.tables e below (T242.setTop (mkF m 116 #[.val (.long i0), .second, .val (.long i1), .second, .val (.long i2), .second, .val (.long i3), .second, .val (.int i4), .val (.int i5), .val (.long z101), .second, .val (.long z102), .second, .val (.ref b103), .val (.ref b105), .val (.ref b107), .val (.ref b228), .val (.int (1 : Int32)), .unset, .unset, .unset, .unset] [(.int (1 : Int32)), (.ref b228), (.ref b107)])) _
          refine st272.trans ?_
          show Steps p.tables e below (T272.setTop (mkF m 119 #[.val (.long i0), .second, .val (.long i1), .second, .val (.long i2), .second, .val (.long i3), .second, .val (.int i4), .val (.int i5), .val (.long z101), .second, .val (.long z102), .second, .val (.ref b103), .val (.ref b105), .val (.ref b107), .val (.ref b228), .val (.int (1 : Int32)), .unset, .unset, .unset, .unset] [])) _
          refine XS.lloadN X272.here hx rfl (hb hby at_119) rfl ?_
          show Steps p.tables e below (T272.setTop (mkF m 120 #[.val (.long i0), .second, .val (.long i1), .second, .val (.long i2), .second, .val (.long i3), .second, .val (.int i4), .val (.int i5), .val (.long z101), .second, .val (.long z102), .second, .val (.ref b103), .val (.ref b105), .val (.ref b107), .val (.ref b228), .val (.int (1 : Int32)), .unset, .unset, .unset, .unset] [(.long i0)])) _
          refine XS.lloadN X272.here hx rfl (hb hby at_120) rfl ?_
          show Steps p.tables e below (T272.setTop (mkF m 121 #[.val (.long i0), .second, .val (.long i1), .second, .val (.long i2), .second, .val (.long i3), .second, .val (.int i4), .val (.int i5), .val (.long z101), .second, .val (.long z102), .second, .val (.ref b103), .val (.ref b105), .val (.ref b107), .val (.ref b228), .val (.int (1 : Int32)), .unset, .unset, .unset, .unset] [(.long i1), (.long i0)])) _
          refine XS.lcmp X272.here hx rfl (hb hby at_121) rfl ?_
          show Steps p.tables e below (T272.setTop (mkF m 122 #[.val (.long i0), .second, .val (.long i1), .second, .val (.long i2), .second, .val (.long i3), .second, .val (.int i4), .val (.int i5), .val (.long z101), .second, .val (.long z102), .second, .val (.ref b103), .val (.ref b105), .val (.ref b107), .val (.ref b228), .val (.int (1 : Int32)), .unset, .unset, .unset, .unset] [(.int (lcmpW i0 i1))])) _
          refine XS.ifYes X272.here hx rfl (pc0 := 122) (pc' := 129) rfl (hb hby at_122) rfl ((if0 _ _).trans (feq (mt (lw_eq _ _).mp hc119)).2) (by decide) (by decide) ?_
          show Steps p.tables e below (T272.setTop (mkF m 129 #[.val (.long i0), .second, .val (.long i1), .second, .val (.long i2), .second, .val (.long i3), .second, .val (.int i4), .val (.int i5), .val (.long z101), .second, .val (.long z102), .second, .val (.ref b103), .val (.ref b105), .val (.ref b107), .val (.ref b228), .val (.int (1 : Int32)), .unset, .unset, .unset, .unset] [])) _
          refine XS.iconst X272.here hx rfl (hb hby at_129) ?_
          show Steps p.tables e below (T272.setTop (mkF m 130 #[.val (.long i0), .second, .val (.long i1), .second, .val (.long i2), .second, .val (.long i3), .second, .val (.int i4), .val (.int i5), .val (.long z101), .second, .val (.long z102), .second, .val (.ref b103), .val (.ref b105), .val (.ref b107), .val (.ref b228), .val (.int (1 : Int32)), .unset, .unset, .unset, .unset] [(.int (0 : Int32))])) _
          refine XS.istore X272.here hx rfl (hb hby at_130) rfl (l' := #[.val (.long i0), .second, .val (.long i1), .second, .val (.long i2), .second, .val (.long i3), .second, .val (.int i4), .val (.int i5), .val (.long z101), .second, .val (.long z102), .second, .val (.ref b103), .val (.ref b105), .val (.ref b107), .val (.ref b228), .val (.int (1 : Int32)), .val (.int (0 : Int32)), .unset, .unset, .unset]) rfl ?_
          show Steps p.tables e below (T272.setTop (mkF m 132 #[.val (.long i0), .second, .val (.long i1), .second, .val (.long i2), .second, .val (.long i3), .second, .val (.int i4), .val (.int i5), .val (.long z101), .second, .val (.long z102), .second, .val (.ref b103), .val (.ref b105), .val (.ref b107), .val (.ref b228), .val (.int (1 : Int32)), .val (.int (0 : Int32)), .unset, .unset, .unset] [])) _
          refine XS.iload X272.here hx rfl (hb hby at_132) rfl ?_
          show Steps p.tables e below (T272.setTop (mkF m 134 #[.val (.long i0), .second, .val (.long i1), .second, .val (.long i2), .second, .val (.long i3), .second, .val (.int i4), .val (.int i5), .val (.long z101), .second, .val (.long z102), .second, .val (.ref b103), .val (.ref b105), .val (.ref b107), .val (.ref b228), .val (.int (1 : Int32)), .val (.int (0 : Int32)), .unset, .unset, .unset] [(.int (0 : Int32))])) _
          refine XS.ifYes X272.here hx rfl (pc0 := 134) (pc' := 142) rfl (hb hby at_134) rfl (by decide) (by decide) (by decide) ?_
          show Steps p.tables e below (T272.setTop (mkF m 142 #[.val (.long i0), .second, .val (.long i1), .second, .val (.long i2), .second, .val (.long i3), .second, .val (.int i4), .val (.int i5), .val (.long z101), .second, .val (.long z102), .second, .val (.ref b103), .val (.ref b105), .val (.ref b107), .val (.ref b228), .val (.int (1 : Int32)), .val (.int (0 : Int32)), .unset, .unset, .unset] [])) _
          refine XS.lload X272.here hx rfl (hb hby at_142) rfl ?_
          show Steps p.tables e below (T272.setTop (mkF m 144 #[.val (.long i0), .second, .val (.long i1), .second, .val (.long i2), .second, .val (.long i3), .second, .val (.int i4), .val (.int i5), .val (.long z101), .second, .val (.long z102), .second, .val (.ref b103), .val (.ref b105), .val (.ref b107), .val (.ref b228), .val (.int (1 : Int32)), .val (.int (0 : Int32)), .unset, .unset, .unset] [(.long z101)])) _
          refine XS.lstore X272.here hx rfl (hb hby at_144) rfl (l' := #[.val (.long i0), .second, .val (.long i1), .second, .val (.long i2), .second, .val (.long i3), .second, .val (.int i4), .val (.int i5), .val (.long z101), .second, .val (.long z102), .second, .val (.ref b103), .val (.ref b105), .val (.ref b107), .val (.ref b228), .val (.int (1 : Int32)), .val (.int (0 : Int32)), .val (.long z101), .second, .unset]) rfl ?_
          show Steps p.tables e below (T272.setTop (mkF m 146 #[.val (.long i0), .second, .val (.long i1), .second, .val (.long i2), .second, .val (.long i3), .second, .val (.int i4), .val (.int i5), .val (.long z101), .second, .val (.long z102), .second, .val (.ref b103), .val (.ref b105), .val (.ref b107), .val (.ref b228), .val (.int (1 : Int32)), .val (.int (0 : Int32)), .val (.long z101), .second, .unset] [])) _
          refine XS.iload X272.here hx rfl (hb hby at_146) rfl ?_
          show Steps p.tables e below (T272.setTop (mkF m 148 #[.val (.long i0), .second, .val (.long i1), .second, .val (.long i2), .second, .val (.long i3), .second, .val (.int i4), .val (.int i5), .val (.long z101), .second, .val (.long z102), .second, .val (.ref b103), .val (.ref b105), .val (.ref b107), .val (.ref b228), .val (.int (1 : Int32)), .val (.int (0 : Int32)), .val (.long z101), .second, .unset] [(.int (0 : Int32))])) _
          refine XS.ifYes X272.here hx rfl (pc0 := 148) (pc' := 155) rfl (hb hby at_148) rfl (by decide) (by decide) (by decide) ?_
          show Steps p.tables e below (T272.setTop (mkF m 155 #[.val (.long i0), .second, .val (.long i1), .second, .val (.long i2), .second, .val (.long i3), .second, .val (.int i4), .val (.int i5), .val (.long z101), .second, .val (.long z102), .second, .val (.ref b103), .val (.ref b105), .val (.ref b107), .val (.ref b228), .val (.int (1 : Int32)), .val (.int (0 : Int32)), .val (.long z101), .second, .unset] [])) _
          refine XS.iconst X272.here hx rfl (hb hby at_155) ?_
          show Steps p.tables e below (T272.setTop (mkF m 156 #[.val (.long i0), .second, .val (.long i1), .second, .val (.long i2), .second, .val (.long i3), .second, .val (.int i4), .val (.int i5), .val (.long z101), .second, .val (.long z102), .second, .val (.ref b103), .val (.ref b105), .val (.ref b107), .val (.ref b228), .val (.int (1 : Int32)), .val (.int (0 : Int32)), .val (.long z101), .second, .unset] [(.int (2 : Int32))])) _
          refine XS.istore X272.here hx rfl (hb hby at_156) rfl (l' := #[.val (.long i0), .second, .val (.long i1), .second, .val (.long i2), .second, .val (.long i3), .second, .val (.int i4), .val (.int i5), .val (.long z101), .second, .val (.long z102), .second, .val (.ref b103), .val (.ref b105), .val (.ref b107), .val (.ref b228), .val (.int (1 : Int32)), .val (.int (0 : Int32)), .val (.long z101), .second, .val (.int (2 : Int32))]) rfl ?_
          show Steps p.tables e below (T272.setTop (mkF m 158 #[.val (.long i0), .second, .val (.long i1), .second, .val (.long i2), .second, .val (.long i3), .second, .val (.int i4), .val (.int i5), .val (.long z101), .second, .val (.long z102), .second, .val (.ref b103), .val (.ref b105), .val (.ref b107), .val (.ref b228), .val (.int (1 : Int32)), .val (.int (0 : Int32)), .val (.long z101), .second, .val (.int (2 : Int32))] [])) _
          refine XS.aload X272.here hx rfl (hb hby at_158) rfl rfl ?_
          show Steps p.tables e below (T272.setTop (mkF m 160 #[.val (.long i0), .second, .val (.long i1), .second, .val (.long i2), .second, .val (.long i3), .second, .val (.int i4), .val (.int i5), .val (.long z101), .second, .val (.long z102), .second, .val (.ref b103), .val (.ref b105), .val (.ref b107), .val (.ref b228), .val (.int (1 : Int32)), .val (.int (0 : Int32)), .val (.long z101), .second, .val (.int (2 : Int32))] [(.ref b107)])) _
          refine XS.aload X272.here hx rfl (hb hby at_160) rfl rfl ?_
          show Steps p.tables e below (T272.setTop (mkF m 162 #[.val (.long i0), .second, .val (.long i1), .second, .val (.long i2), .second, .val (.long i3), .second, .val (.int i4), .val (.int i5), .val (.long z101), .second, .val (.long z102), .second, .val (.ref b103), .val (.ref b105), .val (.ref b107), .val (.ref b228), .val (.int (1 : Int32)), .val (.int (0 : Int32)), .val (.long z101), .second, .val (.int (2 : Int32))] [(.ref b103), (.ref b107)])) _
          refine st277.trans ?_
          show Steps p.tables e below (T277.setTop (mkF m 165 #[.val (.long i0), .second, .val (.long i1), .second, .val (.long i2), .second, .val (.long i3), .second, .val (.int i4), .val (.int i5), .val (.long z101), .second, .val (.long z102), .second, .val (.ref b103), .val (.ref b105), .val (.ref b107), .val (.ref b228), .val (.int (1 : Int32)), .val (.int (0 : Int32)), .val (.long z101), .second, .val (.int (2 : Int32))] [(.long (g225 (((2 : Int32) * (own_s i0)) + (1 : Int32))))])) _
          refine XS.lload X277.here hx rfl (hb hby at_165) rfl ?_
          show Steps p.tables e below (T277.setTop (mkF m 167 #[.val (.long i0), .second, .val (.long i1), .second, .val (.long i2), .second, .val (.long i3), .second, .val (.int i4), .val (.int i5), .val (.long z101), .second, .val (.long z102), .second, .val (.ref b103), .val (.ref b105), .val (.ref b107), .val (.ref b228), .val (.int (1 : Int32)), .val (.int (0 : Int32)), .val (.long z101), .second, .val (.int (2 : Int32))] [(.long z101), (.long (g225 (((2 : Int32) * (own_s i0)) + (1 : Int32))))])) _
          refine XS.lcmp X277.here hx rfl (hb hby at_167) rfl ?_
          show Steps p.tables e below (T277.setTop (mkF m 168 #[.val (.long i0), .second, .val (.long i1), .second, .val (.long i2), .second, .val (.long i3), .second, .val (.int i4), .val (.int i5), .val (.long z101), .second, .val (.long z102), .second, .val (.ref b103), .val (.ref b105), .val (.ref b107), .val (.ref b228), .val (.int (1 : Int32)), .val (.int (0 : Int32)), .val (.long z101), .second, .val (.int (2 : Int32))] [(.int (lcmpW (g225 (((2 : Int32) * (own_s i0)) + (1 : Int32))) z101))])) _
          refine XS.ifNo X277.here hx rfl (hb hby at_168) rfl ((if0 _ _).trans (teq ((lw_eq _ _).mpr qa)).2) ?_
          show Steps p.tables e below (T277.setTop (mkF m 171 #[.val (.long i0), .second, .val (.long i1), .second, .val (.long i2), .second, .val (.long i3), .second, .val (.int i4), .val (.int i5), .val (.long z101), .second, .val (.long z102), .second, .val (.ref b103), .val (.ref b105), .val (.ref b107), .val (.ref b228), .val (.int (1 : Int32)), .val (.int (0 : Int32)), .val (.long z101), .second, .val (.int (2 : Int32))] [])) _
          refine XS.aload X277.here hx rfl (hb hby at_171) rfl rfl ?_
          show Steps p.tables e below (T277.setTop (mkF m 173 #[.val (.long i0), .second, .val (.long i1), .second, .val (.long i2), .second, .val (.long i3), .second, .val (.int i4), .val (.int i5), .val (.long z101), .second, .val (.long z102), .second, .val (.ref b103), .val (.ref b105), .val (.ref b107), .val (.ref b228), .val (.int (1 : Int32)), .val (.int (0 : Int32)), .val (.long z101), .second, .val (.int (2 : Int32))] [(.ref b107)])) _
          refine XS.aload X277.here hx rfl (hb hby at_173) rfl rfl ?_
          show Steps p.tables e below (T277.setTop (mkF m 175 #[.val (.long i0), .second, .val (.long i1), .second, .val (.long i2), .second, .val (.long i3), .second, .val (.int i4), .val (.int i5), .val (.long z101), .second, .val (.long z102), .second, .val (.ref b103), .val (.ref b105), .val (.ref b107), .val (.ref b228), .val (.int (1 : Int32)), .val (.int (0 : Int32)), .val (.long z101), .second, .val (.int (2 : Int32))] [(.ref b105), (.ref b107)])) _
          refine st281.trans ?_
          show Steps p.tables e below (T281.setTop (mkF m 178 #[.val (.long i0), .second, .val (.long i1), .second, .val (.long i2), .second, .val (.long i3), .second, .val (.int i4), .val (.int i5), .val (.long z101), .second, .val (.long z102), .second, .val (.ref b103), .val (.ref b105), .val (.ref b107), .val (.ref b228), .val (.int (1 : Int32)), .val (.int (0 : Int32)), .val (.long z101), .second, .val (.int (2 : Int32))] [(.long (g225 (((2 : Int32) * (own_n (own_s i1))) + (1 : Int32))))])) _
          refine XS.lload X281.here hx rfl (hb hby at_178) rfl ?_
          show Steps p.tables e below (T281.setTop (mkF m 180 #[.val (.long i0), .second, .val (.long i1), .second, .val (.long i2), .second, .val (.long i3), .second, .val (.int i4), .val (.int i5), .val (.long z101), .second, .val (.long z102), .second, .val (.ref b103), .val (.ref b105), .val (.ref b107), .val (.ref b228), .val (.int (1 : Int32)), .val (.int (0 : Int32)), .val (.long z101), .second, .val (.int (2 : Int32))] [(.long z102), (.long (g225 (((2 : Int32) * (own_n (own_s i1))) + (1 : Int32))))])) _
          refine XS.lcmp X281.here hx rfl (hb hby at_180) rfl ?_
          show Steps p.tables e below (T281.setTop (mkF m 181 #[.val (.long i0), .second, .val (.long i1), .second, .val (.long i2), .second, .val (.long i3), .second, .val (.int i4), .val (.int i5), .val (.long z101), .second, .val (.long z102), .second, .val (.ref b103), .val (.ref b105), .val (.ref b107), .val (.ref b228), .val (.int (1 : Int32)), .val (.int (0 : Int32)), .val (.long z101), .second, .val (.int (2 : Int32))] [(.int (lcmpW (g225 (((2 : Int32) * (own_n (own_s i1))) + (1 : Int32))) z102))])) _
          refine XS.ifNo X281.here hx rfl (hb hby at_181) rfl ((if0 _ _).trans (teq ((lw_eq _ _).mpr qb)).2) ?_
          show Steps p.tables e below (T281.setTop (mkF m 184 #[.val (.long i0), .second, .val (.long i1), .second, .val (.long i2), .second, .val (.long i3), .second, .val (.int i4), .val (.int i5), .val (.long z101), .second, .val (.long z102), .second, .val (.ref b103), .val (.ref b105), .val (.ref b107), .val (.ref b228), .val (.int (1 : Int32)), .val (.int (0 : Int32)), .val (.long z101), .second, .val (.int (2 : Int32))] [])) _
          refine XS.aload X281.here hx rfl (hb hby at_184) rfl rfl ?_
          show Steps p.tables e below (T281.setTop (mkF m 186 #[.val (.long i0), .second, .val (.long i1), .second, .val (.long i2), .second, .val (.long i3), .second, .val (.int i4), .val (.int i5), .val (.long z101), .second, .val (.long z102), .second, .val (.ref b103), .val (.ref b105), .val (.ref b107), .val (.ref b228), .val (.int (1 : Int32)), .val (.int (0 : Int32)), .val (.long z101), .second, .val (.int (2 : Int32))] [(.ref b107)])) _
          refine st282.trans ?_
          show Steps p.tables e below (T282.setTop (mkF m 189 #[.val (.long i0), .second, .val (.long i1), .second, .val (.long i2), .second, .val (.long i3), .second, .val (.int i4), .val (.int i5), .val (.long z101), .second, .val (.long z102), .second, .val (.ref b103), .val (.ref b105), .val (.ref b107), .val (.ref b228), .val (.int (1 : Int32)), .val (.int (0 : Int32)), .val (.long z101), .second, .val (.int (2 : Int32))] [(.int (2 : Int32))])) _
          refine XS.iload X282.here hx rfl (hb hby at_189) rfl ?_
          show Steps p.tables e below (T282.setTop (mkF m 191 #[.val (.long i0), .second, .val (.long i1), .second, .val (.long i2), .second, .val (.long i3), .second, .val (.int i4), .val (.int i5), .val (.long z101), .second, .val (.long z102), .second, .val (.ref b103), .val (.ref b105), .val (.ref b107), .val (.ref b228), .val (.int (1 : Int32)), .val (.int (0 : Int32)), .val (.long z101), .second, .val (.int (2 : Int32))] [(.int (2 : Int32)), (.int (2 : Int32))])) _
          refine XS.icmpNo X282.here hx rfl (hb hby at_191) rfl (by decide) ?_
          show Steps p.tables e below (T282.setTop (mkF m 194 #[.val (.long i0), .second, .val (.long i1), .second, .val (.long i2), .second, .val (.long i3), .second, .val (.int i4), .val (.int i5), .val (.long z101), .second, .val (.long z102), .second, .val (.ref b103), .val (.ref b105), .val (.ref b107), .val (.ref b228), .val (.int (1 : Int32)), .val (.int (0 : Int32)), .val (.long z101), .second, .val (.int (2 : Int32))] [])) _
          refine XS.iconst X282.here hx rfl (hb hby at_194) ?_
          show Steps p.tables e below (T282.setTop (mkF m 195 #[.val (.long i0), .second, .val (.long i1), .second, .val (.long i2), .second, .val (.long i3), .second, .val (.int i4), .val (.int i5), .val (.long z101), .second, .val (.long z102), .second, .val (.ref b103), .val (.ref b105), .val (.ref b107), .val (.ref b228), .val (.int (1 : Int32)), .val (.int (0 : Int32)), .val (.long z101), .second, .val (.int (2 : Int32))] [(.int (1 : Int32))])) _
          refine XS.goto X282.here hx rfl (pc0 := 195) (pc' := 199) rfl (hb hby at_195) (by decide) (by decide) ?_
          show Steps p.tables e below (T282.setTop (mkF m 199 #[.val (.long i0), .second, .val (.long i1), .second, .val (.long i2), .second, .val (.long i3), .second, .val (.int i4), .val (.int i5), .val (.long z101), .second, .val (.long z102), .second, .val (.ref b103), .val (.ref b105), .val (.ref b107), .val (.ref b228), .val (.int (1 : Int32)), .val (.int (0 : Int32)), .val (.long z101), .second, .val (.int (2 : Int32))] [(.int (1 : Int32))])) _
          exact retN X282 hx (t := .boolean) Bd.returns (by simp) (hb hby at_199) hr
        · show QL n0 _ T282.heap _
          rw [hh282]
          exact ⟨rfl, N282⟩
      · skip
        have O283 : Old Z n0 h242 := (((O231.wr W237 gb228).wr W239 gb228).wr W242 gb228)
        have f284 := ((((Ex225.ext E228).wr W237).wr W239).wr W242)
        have f285 := ((((Fs225.ext E228).other W237 (Or.inl ne228_b107)).other W239 (Or.inl ne228_b107)).other W242 (Or.inl ne228_b107))
        have f286 := ((((Fo225.ext E228).other W237 (Or.inl ne228_b107)).other W239 (Or.inl ne228_b107)).other W242 (Or.inl ne228_b107))
        have f287 := ((((Fm225.ext E228).other W237 (Or.inl ne228_b107)).other W239 (Or.inl ne228_b107)).other W242 (Or.inl ne228_b107))
        have f288 := ((((Fz225.ext E228).other W237 (Or.inl ne228_b107)).other W239 (Or.inl ne228_b107)).other W242 (Or.inl ne228_b107))
        have f289 := ((((Lb225.ext E228).other W237 ne228_bt110).other W239 ne228_bt110).other W242 ne228_bt110)
        have f290 := ((((Fq225.ext E228).other W237 (Or.inl ne228_b107)).other W239 (Or.inl ne228_b107)).other W242 (Or.inl ne228_b107))
        obtain ⟨cq291, kq291, q291a, q291b, q291c⟩ := isOf hZ e242 f284
        obtain ⟨_, _, ⟨T291, L291, k291, n291⟩, -, X291, ⟨Lc291, hQ291, l291, y291, z291⟩, st291⟩ := X242.virtualBack hx (y := (⟨"com/example/keyfold/keyfold/KeyTable", "prefetch", "([II)V"⟩ : MethodName)) (z := (⟨"com/example/keyfold/keyfold/KeyTable", "prefetch", "([II)V"⟩ : MethodName)) hown (mvT hZ (hw _ (List.mem_of_getElem? (i := 73) rfl))) (mvT hZ (hw _ (List.mem_of_getElem? (i := 74) rfl))) (notFace_of_selects (args := #[]) (mvT hZ (hw _ (List.mem_of_getElem? (i := 76) rfl)))) (mvT hZ (hw _ (List.mem_of_getElem? (i := 76) rfl))) (mvT hZ (hw _ (List.mem_of_getElem? (i := 75) rfl))) (by decide) (backOf (W := 0) (rmPf2 l Z a0 hw [] b107 bt110 b228 k228 g225 (2 : Int32) (own_h i0) i4 (i4 ^^^ (own_h i0)) (0 : Int64) h242 n0 O283 f284 f285 f286 f287 f288 f289 f290 V242 net110 ne228_b107 gb107) hZ (hw _ (List.mem_of_getElem? (i := 77) rfl)) (hw _ (List.mem_of_getElem? (i := 18) rfl)) (by decide) (by decide)) q291a q291c (g := (mkF m 116 #[.val (.long i0), .second, .val (.long i1), .second, .val (.long i2), .second, .val (.long i3), .second, .val (.int i4), .val (.int i5), .val (.long z101), .second, .val (.long z102), .second, .val (.ref b103), .val (.ref b105), .val (.ref b107), .val (.ref b228), .val (.int (2 : Int32)), .unset, .unset, .unset, .unset] [(.int (2 : Int32)), (.ref b228), (.ref b107)])) rfl (by rw [hml]; rfl) (Steps.refl _) (argsL := [(.ref b228), (.int (2 : Int32))]) (rest := []) (lenOf pd_9 rfl) rfl (by show 2 * 0 + _ ≤ _; exact Nat.le_of_eq rfl) (hb hby at_116) (fun _ _ => ⟨rfl, e242, (by decide : 5 + 0 ≤ _), (by decide : 44 + 0 ≤ _)⟩)
        dsimp only [Pt.U, Pt.locs, Pt.cells, Pt.slots] at X291 l291 y291 z291 st291 hQ291
        subst l291 y291 z291
        obtain ⟨rfl, N291q, K291, p2291, Ex291, Fs291, Fo291, Fm291, Fz291, Lb291, Fq291⟩ := hQ291
        have N291 := Fr.app N242 N291q
        have O292 : Old Z n0 T291.heap := (O283.keep K291 (allS gb107 all0))
        have f293 := ((((f232.wr W237).wr W239).wr W242).keep K291)
        have f294 := ((((f233.other W237 (Or.inl ne228_b103)).other W239 (Or.inl ne228_b103)).other W242 (Or.inl ne228_b103)).keep K291 (ninS ne107_b103 nin0))
        have f295 := ((((f234.other W237 (Or.inl ne228_b103)).other W239 (Or.inl ne228_b103)).other W242 (Or.inl ne228_b103)).keep K291 (ninS ne107_b103 nin0))
        obtain ⟨cq296, kq296, q296a, q296b, q296c⟩ := isOf hZ rfl Ex291
        obtain ⟨_, _, ⟨T296, L296, k296, n296⟩, -, X296, ⟨Lc296, hQ296, l296, y296, z296⟩, st296⟩ := X291.virtualBack hx (y := (⟨"com/example/keyfold/keyfold/KeyTable", "get", "(Lcom/example/keyfold/keyfold/Key;)J"⟩ : MethodName)) (z := (⟨"com/example/keyfold/keyfold/KeyTable", "get", "(Lcom/example/keyfold/keyfold/Key;)J"⟩ : MethodName)) hown (mvT hZ (hw _ (List.mem_of_getElem? (i := 80) rfl))) (mvT hZ (hw _ (List.mem_of_getElem? (i := 81) rfl))) (notFace_of_selects (args := #[]) (mvT hZ (hw _ (List.mem_of_getElem? (i := 83) rfl)))) (mvT hZ (hw _ (List.mem_of_getElem? (i := 83) rfl))) (mvT hZ (hw _ (List.mem_of_getElem? (i := 82) rfl))) (by decide) (backOf (W := 0) (rmG l Z a0 hw [] b107 b103 bt110 g225 (2 : Int32) (own_s i0) i0 p2291 T291.heap n0 O292 Ex291 Fs291 Fo291 Fm291 Fz291 Lb291 Fq291 f293 f294 f295 hG1) hZ (hw _ (List.mem_of_getElem? (i := 84) rfl)) (hw _ (List.mem_of_getElem? (i := 18) rfl)) (by decide) (by decide)) q296a q296c (g := (mkF m 162 #[.val (.long i0), .second, .val (.long i1), .second, .val (.long i2), .second, .val (.long i3), .second, .val (.int i4), .val (.int i5), .val (.long z101), .second, .val (.long z102), .second, .val (.ref b103), .val (.ref b105), .val (.ref b107), .val (.ref b228), .val (.int (2 : Int32)), .val (.int (0 : Int32)), .val (.long z101), .second, .val (.int (2 : Int32))] [(.ref b103), (.ref b107)])) rfl (by rw [hml]; rfl) (Steps.refl _) (argsL := [(.ref b103)]) (rest := []) (lenOf pd_10 rfl) rfl (by show 2 * 0 + _ ≤ _; exact Nat.le_of_eq rfl) (hb hby at_162) (fun _ _ => ⟨rfl, rfl, (by decide : 5 + 0 ≤ _), (by decide : 44 + 0 ≤ _)⟩)
        dsimp only [Pt.U, Pt.locs, Pt.cells, Pt.slots] at X296 l296 y296 z296 st296 hQ296
        subst l296 y296 z296
        obtain ⟨rfl, N296q, hh296⟩ := hQ296
        have N296 := Fr.app N291 N296q
        have f297 := (((((f230.ext E228).wr W237).wr W239).wr W242).keep K291)
        have f298 := ((((((f223.keep K225 (ninS ne107_b105 (ninS ne110_b105 nin0))).ext E228).other W237 (Or.inl ne228_b105)).other W239 (Or.inl ne228_b105)).other W242 (Or.inl ne228_b105)).keep K291 (ninS ne107_b105 nin0))
        have f299 := ((((((f224.keep K225 (ninS ne107_b105 (ninS ne110_b105 nin0))).ext E228).other W237 (Or.inl ne228_b105)).other W239 (Or.inl ne228_b105)).other W242 (Or.inl ne228_b105)).keep K291 (ninS ne107_b105 nin0))
        obtain ⟨cq300, kq300, q300a, q300b, q300c⟩ := isOf hZ hh296 Ex291
        obtain ⟨_, _, ⟨T300, L300, k300, n300⟩, -, X300, ⟨Lc300, hQ300, l300, y300, z300⟩, st300⟩ := X296.virtualBack hx (y := (⟨"com/example/keyfold/keyfold/KeyTable", "get", "(Lcom/example/keyfold/keyfold/Key;)J"⟩ : MethodName)) (z := (⟨"com/example/keyfold/keyfold/KeyTable", "get", "(Lcom/example/keyfold/keyfold/Key;)J"⟩ : MethodName)) hown (mvT hZ (hw _ (List.mem_of_getElem? (i := 80) rfl))) (mvT hZ (hw _ (List.mem_of_getElem? (i := 81) rfl))) (notFace_of_selects (args := #[]) (mvT hZ (hw _ (List.mem_of_getElem? (i := 83) rfl)))) (mvT hZ (hw _ (List.mem_of_getElem? (i := 83) rfl))) (mvT hZ (hw _ (List.mem_of_getElem? (i := 82) rfl))) (by decide) (backOf (W := 0) (rmG l Z a0 hw [] b107 b105 bt110 g225 (2 : Int32) (own_n (own_s i1)) i1 p2291 T291.heap n0 O292 Ex291 Fs291 Fo291 Fm291 Fz291 Lb291 Fq291 f297 f298 f299 hG2) hZ (hw _ (List.mem_of_getElem? (i := 84) rfl)) (hw _ (List.mem_of_getElem? (i := 18) rfl)) (by decide) (by decide)) q300a q300c (g := (mkF m 175 #[.val (.long i0), .second, .val (.long i1), .second, .val (.long i2), .second, .val (.long i3), .second, .val (.int i4), .val (.int i5), .val (.long z101), .second, .val (.long z102), .second, .val (.ref b103), .val (.ref b105), .val (.ref b107), .val (.ref b228), .val (.int (2 : Int32)), .val (.int (0 : Int32)), .val (.long z101), .second, .val (.int (2 : Int32))] [(.ref b105), (.ref b107)])) rfl (by rw [hml]; rfl) (Steps.refl _) (argsL := [(.ref b105)]) (rest := []) (lenOf pd_10 rfl) rfl (by show 2 * 0 + _ ≤ _; exact Nat.le_of_eq rfl) (hb hby at_175) (fun _ _ => ⟨rfl, hh296, (by decide : 5 + 0 ≤ _), (by decide : 44 + 0 ≤ _)⟩)
        dsimp only [Pt.U, Pt.locs, Pt.cells, Pt.slots] at X300 l300 y300 z300 st300 hQ300
        subst l300 y300 z300
        obtain ⟨rfl, N300q, hh300⟩ := hQ300
        have N300 := Fr.app N296 N300q
        obtain ⟨cq301, kq301, q301a, q301b, q301c⟩ := isOf hZ hh300 Ex291
        obtain ⟨_, _, ⟨T301, L301, k301, n301⟩, -, X301, ⟨Lc301, hQ301, l301, y301, z301⟩, st301⟩ := X300.virtualBack hx (y := (⟨"com/example/keyfold/keyfold/KeyTable", "size", "()I"⟩ : MethodName)) (z := (⟨"com/example/keyfold/keyfold/KeyTable", "size", "()I"⟩ : MethodName)) hown (mvT hZ (hw _ (List.mem_of_getElem? (i := 85) rfl))) (mvT hZ (hw _ (List.mem_of_getElem? (i := 86) rfl))) (notFace_of_selects (args := #[]) (mvT hZ (hw _ (List.mem_of_getElem? (i := 88) rfl)))) (mvT hZ (hw _ (List.mem_of_getElem? (i := 88) rfl))) (mvT hZ (hw _ (List.mem_of_getElem? (i := 87) rfl))) (by decide) (backOf (W := 0) (rmSz l Z a0 hw [] b107 (2 : Int32) T291.heap n0 O292 Fz291) hZ (hw _ (List.mem_of_getElem? (i := 89) rfl)) (hw _ (List.mem_of_getElem? (i := 18) rfl)) (by decide) (by decide)) q301a q301c (g := (mkF m 186 #[.val (.long i0), .second, .val (.long i1), .second, .val (.long i2), .second, .val (.long i3), .second, .val (.int i4), .val (.int i5), .val (.long z101), .second, .val (.long z102), .second, .val (.ref b103), .val (.ref b105), .val (.ref b107), .val (.ref b228), .val (.int (2 : Int32)), .val (.int (0 : Int32)), .val (.long z101), .second, .val (.int (2 : Int32))] [(.ref b107)])) rfl (by rw [hml]; rfl) (Steps.refl _) (argsL := []) (rest := []) (lenOf pd_11 rfl) rfl (by show 2 * 0 + _ ≤ _; exact Nat.le_of_eq rfl) (hb hby at_186) (fun _ _ => ⟨rfl, hh300, (by decide : 5 + 0 ≤ _), (by decide : 44 + 0 ≤ _)⟩)
        dsimp only [Pt.U, Pt.locs, Pt.cells, Pt.slots] at X301 l301 y301 z301 st301 hQ301
        subst l301 y301 z301
        obtain ⟨rfl, N301q, hh301⟩ := hQ301
        have N301 := Fr.app N300 N301q
        obtain ⟨fs, hr, hrun, hended, hW, hsame⟩ := X301.leave (v := some (.int (1 : Int32))) (fun h => by rw [Bd.returns] at h; cases h)
        refine ⟨_, _, pre243 _ ?_, hrun, hended, _, _, rfl, ?_, ⟨_, rfl⟩, hW, hsame.mono (by decide) (by decide)⟩
        · skip
          show Steps p.tables e below (T242.setTop (mkF m 108 #[.val (.long i0), .second, .val (.long i1), .second, .val (.long i2), .second, .val (.long i3), .second, .val (.int i4), .val (.int i5), .val (.long z101), .second, .val (.long z102), .second, .val (.ref b103), .val (.ref b105), .val (.ref b107), .val (.ref b228), .unset, .unset, .unset, .unset, .unset] [(.int (i5 &&& (3 : Int32)))])) _
          rw [hk244]
          show Steps p.tables e below (T242.setTop (mkF m 108 #[.val (.long i0), .second, .val (.long i1), .second, .val (.long i2), .second, .val (.long i3), .second, .val (.int i4), .val (.int i5), .val (.long z101), .second, .val (.long z102), .second, .val (.ref b103), .val (.ref b105), .val (.ref b107), .val (.ref b228), .unset, .unset, .unset, .unset, .unset] [(.int (2 : Int32))])) _
          refine XS.istore X242.here hx rfl (hb hby at_108) rfl (l' := #[.val (.long i0), .second, .val (.long i1), .second, .val (.long i2), .second, .val (.long i3), .second, .val (.int i4), .val (.int i5), .val (.long z101), .second, .val (.long z102), .second, .val (.ref b103), .val (.ref b105), .val (.ref b107), .val (.ref b228), .val (.int (2 : Int32)), .unset, .unset, .unset, .unset]) rfl ?_
          show Steps p.tables e below (T242.setTop (mkF m 110 #[.val (.long i0), .second, .val (.long i1), .second, .val (.long i2), .second, .val (.long i3), .second, .val (.int i4), .val (.int i5), .val (.long z101), .second, .val (.long z102), .second, .val (.ref b103), .val (.ref b105), .val (.ref b107), .val (.ref b228), .val (.int (2 : Int32)), .unset, .unset, .unset, .unset] [])) _
          refine XS.aload X242.here hx rfl (hb hby at_110) rfl rfl ?_
          show Steps p.tables e below (T242.setTop (mkF m 112 #[.val (.long i0), .second, .val (.long i1), .second, .val (.long i2), .second, .val (.long i3), .second, .val (.int i4), .val (.int i5), .val (.long z101), .second, .val (.long z102), .second, .val (.ref b103), .val (.ref b105), .val (.ref b107), .val (.ref b228), .val (.int (2 : Int32)), .unset, .unset, .unset, .unset] [(.ref b107)])) _
          refine XS.aload X242.here hx rfl (hb hby at_112) rfl rfl ?_
          show Steps p.tables e below (T242.setTop (mkF m 114 #[.val (.long i0), .second, .val (.long i1), .second, .val (.long i2), .second, .val (.long i3), .second, .val (.int i4), .val (.int i5), .val (.long z101), .second, .val (.long z102), .second, .val (.ref b103), .val (.ref b105), .val (.ref b107), .val (.ref b228), .val (.int (2 : Int32)), .unset, .unset, .unset, .unset] [(.ref b228), (.ref b107)])) _
          refine XS.iload X242.here hx rfl (hb hby at_114) rfl ?_
          show Steps p.tables e below (T242.setTop (mkF m 116 #[.val (.long i0), .second, .val (.long i1), .second, .val (.long i2), .second, .val (.long i3), .second, .val (.int i4), .val (.int i5), .val (.long z101), .second, .val (.long z102), .second, .val (.ref b103), .val (.ref b105), .val (.ref b107), .val (.ref b228), .val (.int (2 : Int32)), .unset, .unset, .unset, .unset] [(.int (2 : Int32)), (.ref b228), (.ref b107)])) _
          refine st291.trans ?_
          show Steps p.tables e below (T291.setTop (mkF m 119 #[.val (.long i0), .second, .val (.long i1), .second, .val (.long i2), .second, .val (.long i3), .second, .val (.int i4), .val (.int i5), .val (.long z101), .second, .val (.long z102), .second, .val (.ref b103), .val (.ref b105), .val (.ref b107), .val (.ref b228), .val (.int (2 : Int32)), .unset, .unset, .unset, .unset] [])) _
          refine XS.lloadN X291.here hx rfl (hb hby at_119) rfl ?_
          show Steps p.tables e below (T291.setTop (mkF m 120 #[.val (.long i0), .second, .val (.long i1), .second, .val (.long i2), .second, .val (.long i3), .second, .val (.int i4), .val (.int i5), .val (.long z101), .second, .val (.long z102), .second, .val (.ref b103), .val (.ref b105), .val (.ref b107), .val (.ref b228), .val (.int (2 : Int32)), .unset, .unset, .unset, .unset] [(.long i0)])) _
          refine XS.lloadN X291.here hx rfl (hb hby at_120) rfl ?_
          show Steps p.tables e below (T291.setTop (mkF m 121 #[.val (.long i0), .second, .val (.long i1), .second, .val (.long i2), .second, .val (.long i3), .second, .val (.int i4), .val (.int i5), .val (.long z101), .second, .val (.long z102), .second, .val (.ref b103), .val (.ref b105), .val (.ref b107), .val (.ref b228), .val (.int (2 : Int32)), .unset, .unset, .unset, .unset] [(.long i1), (.long i0)])) _
          refine XS.lcmp X291.here hx rfl (hb hby at_121) rfl ?_
          show Steps p.tables e below (T291.setTop (mkF m 122 #[.val (.long i0), .second, .val (.long i1), .second, .val (.long i2), .second, .val (.long i3), .second, .val (.int i4), .val (.int i5), .val (.long z101), .second, .val (.long z102), .second, .val (.ref b103), .val (.ref b105), .val (.ref b107), .val (.ref b228), .val (.int (2 : Int32)), .unset, .unset, .unset, .unset] [(.int (lcmpW i0 i1))])) _
          refine XS.ifYes X291.here hx rfl (pc0 := 122) (pc' := 129) rfl (hb hby at_122) rfl ((if0 _ _).trans (feq (mt (lw_eq _ _).mp hc119)).2) (by decide) (by decide) ?_
          show Steps p.tables e below (T291.setTop (mkF m 129 #[.val (.long i0), .second, .val (.long i1), .second, .val (.long i2), .second, .val (.long i3), .second, .val (.int i4), .val (.int i5), .val (.long z101), .second, .val (.long z102), .second, .val (.ref b103), .val (.ref b105), .val (.ref b107), .val (.ref b228), .val (.int (2 : Int32)), .unset, .unset, .unset, .unset] [])) _
          refine XS.iconst X291.here hx rfl (hb hby at_129) ?_
          show Steps p.tables e below (T291.setTop (mkF m 130 #[.val (.long i0), .second, .val (.long i1), .second, .val (.long i2), .second, .val (.long i3), .second, .val (.int i4), .val (.int i5), .val (.long z101), .second, .val (.long z102), .second, .val (.ref b103), .val (.ref b105), .val (.ref b107), .val (.ref b228), .val (.int (2 : Int32)), .unset, .unset, .unset, .unset] [(.int (0 : Int32))])) _
          refine XS.istore X291.here hx rfl (hb hby at_130) rfl (l' := #[.val (.long i0), .second, .val (.long i1), .second, .val (.long i2), .second, .val (.long i3), .second, .val (.int i4), .val (.int i5), .val (.long z101), .second, .val (.long z102), .second, .val (.ref b103), .val (.ref b105), .val (.ref b107), .val (.ref b228), .val (.int (2 : Int32)), .val (.int (0 : Int32)), .unset, .unset, .unset]) rfl ?_
          show Steps p.tables e below (T291.setTop (mkF m 132 #[.val (.long i0), .second, .val (.long i1), .second, .val (.long i2), .second, .val (.long i3), .second, .val (.int i4), .val (.int i5), .val (.long z101), .second, .val (.long z102), .second, .val (.ref b103), .val (.ref b105), .val (.ref b107), .val (.ref b228), .val (.int (2 : Int32)), .val (.int (0 : Int32)), .unset, .unset, .unset] [])) _
          refine XS.iload X291.here hx rfl (hb hby at_132) rfl ?_
          show Steps p.tables e below (T291.setTop (mkF m 134 #[.val (.long i0), .second, .val (.long i1), .second, .val (.long i2), .second, .val (.long i3), .second, .val (.int i4), .val (.int i5), .val (.long z101), .second, .val (.long z102), .second, .val (.ref b103), .val (.ref b105), .val (.ref b107), .val (.ref b228), .val (.int (2 : Int32)), .val (.int (0 : Int32)), .unset, .unset, .unset] [(.int (0 : Int32))])) _
          refine XS.ifYes X291.here hx rfl (pc0 := 134) (pc' := 142) rfl (hb hby at_134) rfl (by decide) (by decide) (by decide) ?_
          show Steps p.tables e below (T291.setTop (mkF m 142 #[.val (.long i0), .second, .val (.long i1), .second, .val (.long i2), .second, .val (.long i3), .second, .val (.int i4), .val (.int i5), .val (.long z101), .second, .val (.long z102), .second, .val (.ref b103), .val (.ref b105), .val (.ref b107), .val (.ref b228), .val (.int (2 : Int32)), .val (.int (0 : Int32)), .unset, .unset, .unset] [])) _
          refine XS.lload X291.here hx rfl (hb hby at_142) rfl ?_
          show Steps p.tables e below (T291.setTop (mkF m 144 #[.val (.long i0), .second, .val (.long i1), .second, .val (.long i2), .second, .val (.long i3), .second, .val (.int i4), .val (.int i5), .val (.long z101), .second, .val (.long z102), .second, .val (.ref b103), .val (.ref b105), .val (.ref b107), .val (.ref b228), .val (.int (2 : Int32)), .val (.int (0 : Int32)), .unset, .unset, .unset] [(.long z101)])) _
          refine XS.lstore X291.here hx rfl (hb hby at_144) rfl (l' := #[.val (.long i0), .second, .val (.long i1), .second, .val (.long i2), .second, .val (.long i3), .second, .val (.int i4), .val (.int i5), .val (.long z101), .second, .val (.long z102), .second, .val (.ref b103), .val (.ref b105), .val (.ref b107), .val (.ref b228), .val (.int (2 : Int32)), .val (.int (0 : Int32)), .val (.long z101), .second, .unset]) rfl ?_
          show Steps p.tables e below (T291.setTop (mkF m 146 #[.val (.long i0), .second, .val (.long i1), .second, .val (.long i2), .second, .val (.long i3), .second, .val (.int i4), .val (.int i5), .val (.long z101), .second, .val (.long z102), .second, .val (.ref b103), .val (.ref b105), .val (.ref b107), .val (.ref b228), .val (.int (2 : Int32)), .val (.int (0 : Int32)), .val (.long z101), .second, .unset] [])) _
          refine XS.iload X291.here hx rfl (hb hby at_146) rfl ?_
          show Steps p.tables e below (T291.setTop (mkF m 148 #[.val (.long i0), .second, .val (.long i1), .second, .val (.long i2), .second, .val (.long i3), .second, .val (.int i4), .val (.int i5), .val (.long z101), .second, .val (.long z102), .second, .val (.ref b103), .val (.ref b105), .val (.ref b107), .val (.ref b228), .val (.int (2 : Int32)), .val (.int (0 : Int32)), .val (.long z101), .second, .unset] [(.int (0 : Int32))])) _
          refine XS.ifYes X291.here hx rfl (pc0 := 148) (pc' := 155) rfl (hb hby at_148) rfl (by decide) (by decide) (by decide) ?_
          show Steps p.tables e below (T291.setTop (mkF m 155 #[.val (.long i0), .second, .val (.long i1), .second, .val (.long i2), .second, .val (.long i3), .second, .val (.int i4), .val (.int i5), .val (.long z101), .second, .val (.long z102), .second, .val (.ref b103), .val (.ref b105), .val (.ref b107), .val (.ref b228), .val (.int (2 : Int32)), .val (.int (0 : Int32)), .val (.long z101), .second, .unset] [])) _
          refine XS.iconst X291.here hx rfl (hb hby at_155) ?_
          show Steps p.tables e below (T291.setTop (mkF m 156 #[.val (.long i0), .second, .val (.long i1), .second, .val (.long i2), .second, .val (.long i3), .second, .val (.int i4), .val (.int i5), .val (.long z101), .second, .val (.long z102), .second, .val (.ref b103), .val (.ref b105), .val (.ref b107), .val (.ref b228), .val (.int (2 : Int32)), .val (.int (0 : Int32)), .val (.long z101), .second, .unset] [(.int (2 : Int32))])) _
          refine XS.istore X291.here hx rfl (hb hby at_156) rfl (l' := #[.val (.long i0), .second, .val (.long i1), .second, .val (.long i2), .second, .val (.long i3), .second, .val (.int i4), .val (.int i5), .val (.long z101), .second, .val (.long z102), .second, .val (.ref b103), .val (.ref b105), .val (.ref b107), .val (.ref b228), .val (.int (2 : Int32)), .val (.int (0 : Int32)), .val (.long z101), .second, .val (.int (2 : Int32))]) rfl ?_
          show Steps p.tables e below (T291.setTop (mkF m 158 #[.val (.long i0), .second, .val (.long i1), .second, .val (.long i2), .second, .val (.long i3), .second, .val (.int i4), .val (.int i5), .val (.long z101), .second, .val (.long z102), .second, .val (.ref b103), .val (.ref b105), .val (.ref b107), .val (.ref b228), .val (.int (2 : Int32)), .val (.int (0 : Int32)), .val (.long z101), .second, .val (.int (2 : Int32))] [])) _
          refine XS.aload X291.here hx rfl (hb hby at_158) rfl rfl ?_
          show Steps p.tables e below (T291.setTop (mkF m 160 #[.val (.long i0), .second, .val (.long i1), .second, .val (.long i2), .second, .val (.long i3), .second, .val (.int i4), .val (.int i5), .val (.long z101), .second, .val (.long z102), .second, .val (.ref b103), .val (.ref b105), .val (.ref b107), .val (.ref b228), .val (.int (2 : Int32)), .val (.int (0 : Int32)), .val (.long z101), .second, .val (.int (2 : Int32))] [(.ref b107)])) _
          refine XS.aload X291.here hx rfl (hb hby at_160) rfl rfl ?_
          show Steps p.tables e below (T291.setTop (mkF m 162 #[.val (.long i0), .second, .val (.long i1), .second, .val (.long i2), .second, .val (.long i3), .second, .val (.int i4), .val (.int i5), .val (.long z101), .second, .val (.long z102), .second, .val (.ref b103), .val (.ref b105), .val (.ref b107), .val (.ref b228), .val (.int (2 : Int32)), .val (.int (0 : Int32)), .val (.long z101), .second, .val (.int (2 : Int32))] [(.ref b103), (.ref b107)])) _
          refine st296.trans ?_
          show Steps p.tables e below (T296.setTop (mkF m 165 #[.val (.long i0), .second, .val (.long i1), .second, .val (.long i2), .second, .val (.long i3), .second, .val (.int i4), .val (.int i5), .val (.long z101), .second, .val (.long z102), .second, .val (.ref b103), .val (.ref b105), .val (.ref b107), .val (.ref b228), .val (.int (2 : Int32)), .val (.int (0 : Int32)), .val (.long z101), .second, .val (.int (2 : Int32))] [(.long (g225 (((2 : Int32) * (own_s i0)) + (1 : Int32))))])) _
          refine XS.lload X296.here hx rfl (hb hby at_165) rfl ?_
          show Steps p.tables e below (T296.setTop (mkF m 167 #[.val (.long i0), .second, .val (.long i1), .second, .val (.long i2), .second, .val (.long i3), .second, .val (.int i4), .val (.int i5), .val (.long z101), .second, .val (.long z102), .second, .val (.ref b103), .val (.ref b105), .val (.ref b107), .val (.ref b228), .val (.int (2 : Int32)), .val (.int (0 : Int32)), .val (.long z101), .second, .val (.int (2 : Int32))] [(.long z101), (.long (g225 (((2 : Int32) * (own_s i0)) + (1 : Int32))))])) _
          refine XS.lcmp X296.here hx rfl (hb hby at_167) rfl ?_
          show Steps p.tables e below (T296.setTop (mkF m 168 #[.val (.long i0), .second, .val (.long i1), .second, .val (.long i2), .second, .val (.long i3), .second, .val (.int i4), .val (.int i5), .val (.long z101), .second, .val (.long z102), .second, .val (.ref b103), .val (.ref b105), .val (.ref b107), .val (.ref b228), .val (.int (2 : Int32)), .val (.int (0 : Int32)), .val (.long z101), .second, .val (.int (2 : Int32))] [(.int (lcmpW (g225 (((2 : Int32) * (own_s i0)) + (1 : Int32))) z101))])) _
          refine XS.ifNo X296.here hx rfl (hb hby at_168) rfl ((if0 _ _).trans (teq ((lw_eq _ _).mpr qa)).2) ?_
          show Steps p.tables e below (T296.setTop (mkF m 171 #[.val (.long i0), .second, .val (.long i1), .second, .val (.long i2), .second, .val (.long i3), .second, .val (.int i4), .val (.int i5), .val (.long z101), .second, .val (.long z102), .second, .val (.ref b103), .val (.ref b105), .val (.ref b107), .val (.ref b228), .val (.int (2 : Int32)), .val (.int (0 : Int32)), .val (.long z101), .second, .val (.int (2 : Int32))] [])) _
          refine XS.aload X296.here hx rfl (hb hby at_171) rfl rfl ?_
          show Steps p.tables e below (T296.setTop (mkF m 173 #[.val (.long i0), .second, .val (.long i1), .second, .val (.long i2), .second, .val (.long i3), .second, .val (.int i4), .val (.int i5), .val (.long z101), .second, .val (.long z102), .second, .val (.ref b103), .val (.ref b105), .val (.ref b107), .val (.ref b228), .val (.int (2 : Int32)), .val (.int (0 : Int32)), .val (.long z101), .second, .val (.int (2 : Int32))] [(.ref b107)])) _
          refine XS.aload X296.here hx rfl (hb hby at_173) rfl rfl ?_
          show Steps p.tables e below (T296.setTop (mkF m 175 #[.val (.long i0), .second, .val (.long i1), .second, .val (.long i2), .second, .val (.long i3), .second, .val (.int i4), .val (.int i5), .val (.long z101), .second, .val (.long z102), .second, .val (.ref b103), .val (.ref b105), .val (.ref b107), .val (.ref b228), .val (.int (2 : Int32)), .val (.int (0 : Int32)), .val (.long z101), .second, .val (.int (2 : Int32))] [(.ref b105), (.ref b107)])) _
          refine st300.trans ?_
          show Steps p.tables e below (T300.setTop (mkF m 178 #[.val (.long i0), .second, .val (.long i1), .second, .val (.long i2), .second, .val (.long i3), .second, .val (.int i4), .val (.int i5), .val (.long z101), .second, .val (.long z102), .second, .val (.ref b103), .val (.ref b105), .val (.ref b107), .val (.ref b228), .val (.int (2 : Int32)), .val (.int (0 : Int32)), .val (.long z101), .second, .val (.int (2 : Int32))] [(.long (g225 (((2 : Int32) * (own_n (own_s i1))) + (1 : Int32))))])) _
          refine XS.lload X300.here hx rfl (hb hby at_178) rfl ?_
          show Steps p.tables e below (T300.setTop (mkF m 180 #[.val (.long i0), .second, .val (.long i1), .second, .val (.long i2), .second, .val (.long i3), .second, .val (.int i4), .val (.int i5), .val (.long z101), .second, .val (.long z102), .second, .val (.ref b103), .val (.ref b105), .val (.ref b107), .val (.ref b228), .val (.int (2 : Int32)), .val (.int (0 : Int32)), .val (.long z101), .second, .val (.int (2 : Int32))] [(.long z102), (.long (g225 (((2 : Int32) * (own_n (own_s i1))) + (1 : Int32))))])) _
          refine XS.lcmp X300.here hx rfl (hb hby at_180) rfl ?_
          show Steps p.tables e below (T300.setTop (mkF m 181 #[.val (.long i0), .second, .val (.long i1), .second, .val (.long i2), .second, .val (.long i3), .second, .val (.int i4), .val (.int i5), .val (.long z101), .second, .val (.long z102), .second, .val (.ref b103), .val (.ref b105), .val (.ref b107), .val (.ref b228), .val (.int (2 : Int32)), .val (.int (0 : Int32)), .val (.long z101), .second, .val (.int (2 : Int32))] [(.int (lcmpW (g225 (((2 : Int32) * (own_n (own_s i1))) + (1 : Int32))) z102))])) _
          refine XS.ifNo X300.here hx rfl (hb hby at_181) rfl ((if0 _ _).trans (teq ((lw_eq _ _).mpr qb)).2) ?_
          show Steps p.tables e below (T300.setTop (mkF m 184 #[.val (.long i0), .second, .val (.long i1), .second, .val (.long i2), .second, .val (.long i3), .second, .val (.int i4), .val (.int i5), .val (.long z101), .second, .val (.long z102), .second, .val (.ref b103), .val (.ref b105), .val (.ref b107), .val (.ref b228), .val (.int (2 : Int32)), .val (.int (0 : Int32)), .val (.long z101), .second, .val (.int (2 : Int32))] [])) _
          refine XS.aload X300.here hx rfl (hb hby at_184) rfl rfl ?_
          show Steps p.tables e below (T300.setTop (mkF m 186 #[.val (.long i0), .second, .val (.long i1), .second, .val (.long i2), .second, .val (.long i3), .second, .val (.int i4), .val (.int i5), .val (.long z101), .second, .val (.long z102), .second, .val (.ref b103), .val (.ref b105), .val (.ref b107), .val (.ref b228), .val (.int (2 : Int32)), .val (.int (0 : Int32)), .val (.long z101), .second, .val (.int (2 : Int32))] [(.ref b107)])) _
          refine st301.trans ?_
          show Steps p.tables e below (T301.setTop (mkF m 189 #[.val (.long i0), .second, .val (.long i1), .second, .val (.long i2), .second, .val (.long i3), .second, .val (.int i4), .val (.int i5), .val (.long z101), .second, .val (.long z102), .second, .val (.ref b103), .val (.ref b105), .val (.ref b107), .val (.ref b228), .val (.int (2 : Int32)), .val (.int (0 : Int32)), .val (.long z101), .second, .val (.int (2 : Int32))] [(.int (2 : Int32))])) _
          refine XS.iload X301.here hx rfl (hb hby at_189) rfl ?_
          show Steps p.tables e below (T301.setTop (mkF m 191 #[.val (.long i0), .second, .val (.long i1), .second, .val (.long i2), .second, .val (.long i3), .second, .val (.int i4), .val (.int i5), .val (.long z101), .second, .val (.long z102), .second, .val (.ref b103), .val (.ref b105), .val (.ref b107), .val (.ref b228), .val (.int (2 : Int32)), .val (.int (0 : Int32)), .val (.long z101), .second, .val (.int (2 : Int32))] [(.int (2 : Int32)), (.int (2 : Int32))])) _
          refine XS.icmpNo X301.here hx rfl (hb hby at_191) rfl (by decide) ?_
          show Steps p.tables e below (T301.setTop (mkF m 194 #[.val (.long i0), .second, .val (.long i1), .second, .val (.long i2), .second, .val (.long i3), .second, .val (.int i4), .val (.int i5), .val (.long z101), .second, .val (.long z102), .second, .val (.ref b103), .val (.ref b105), .val (.ref b107), .val (.ref b228), .val (.int (2 : Int32)), .val (.int (0 : Int32)), .val (.long z101), .second, .val (.int (2 : Int32))] [])) _
          refine XS.iconst X301.here hx rfl (hb hby at_194) ?_
          show Steps p.tables e below (T301.setTop (mkF m 195 #[.val (.long i0), .second, .val (.long i1), .second, .val (.long i2), .second, .val (.long i3), .second, .val (.int i4), .val (.int i5), .val (.long z101), .second, .val (.long z102), .second, .val (.ref b103), .val (.ref b105), .val (.ref b107), .val (.ref b228), .val (.int (2 : Int32)), .val (.int (0 : Int32)), .val (.long z101), .second, .val (.int (2 : Int32))] [(.int (1 : Int32))])) _
          refine XS.goto X301.here hx rfl (pc0 := 195) (pc' := 199) rfl (hb hby at_195) (by decide) (by decide) ?_
          show Steps p.tables e below (T301.setTop (mkF m 199 #[.val (.long i0), .second, .val (.long i1), .second, .val (.long i2), .second, .val (.long i3), .second, .val (.int i4), .val (.int i5), .val (.long z101), .second, .val (.long z102), .second, .val (.ref b103), .val (.ref b105), .val (.ref b107), .val (.ref b228), .val (.int (2 : Int32)), .val (.int (0 : Int32)), .val (.long z101), .second, .val (.int (2 : Int32))] [(.int (1 : Int32))])) _
          exact retN X301 hx (t := .boolean) Bd.returns (by simp) (hb hby at_199) hr
        · show QL n0 _ T301.heap _
          rw [hh301]
          exact ⟨rfl, N301⟩
      · skip
        have O302 : Old Z n0 h242 := (((O231.wr W237 gb228).wr W239 gb228).wr W242 gb228)
        have f303 := ((((Ex225.ext E228).wr W237).wr W239).wr W242)
        have f304 := ((((Fs225.ext E228).other W237 (Or.inl ne228_b107)).other W239 (Or.inl ne228_b107)).other W242 (Or.inl ne228_b107))
        have f305 := ((((Fo225.ext E228).other W237 (Or.inl ne228_b107)).other W239 (Or.inl ne228_b107)).other W242 (Or.inl ne228_b107))
        have f306 := ((((Fm225.ext E228).other W237 (Or.inl ne228_b107)).other W239 (Or.inl ne228_b107)).other W242 (Or.inl ne228_b107))
        have f307 := ((((Fz225.ext E228).other W237 (Or.inl ne228_b107)).other W239 (Or.inl ne228_b107)).other W242 (Or.inl ne228_b107))
        have f308 := ((((Lb225.ext E228).other W237 ne228_bt110).other W239 ne228_bt110).other W242 ne228_bt110)
        have f309 := ((((Fq225.ext E228).other W237 (Or.inl ne228_b107)).other W239 (Or.inl ne228_b107)).other W242 (Or.inl ne228_b107))
        obtain ⟨cq310, kq310, q310a, q310b, q310c⟩ := isOf hZ e242 f303
        obtain ⟨_, _, ⟨T310, L310, k310, n310⟩, -, X310, ⟨Lc310, hQ310, l310, y310, z310⟩, st310⟩ := X242.virtualBack hx (y := (⟨"com/example/keyfold/keyfold/KeyTable", "prefetch", "([II)V"⟩ : MethodName)) (z := (⟨"com/example/keyfold/keyfold/KeyTable", "prefetch", "([II)V"⟩ : MethodName)) hown (mvT hZ (hw _ (List.mem_of_getElem? (i := 73) rfl))) (mvT hZ (hw _ (List.mem_of_getElem? (i := 74) rfl))) (notFace_of_selects (args := #[]) (mvT hZ (hw _ (List.mem_of_getElem? (i := 76) rfl)))) (mvT hZ (hw _ (List.mem_of_getElem? (i := 76) rfl))) (mvT hZ (hw _ (List.mem_of_getElem? (i := 75) rfl))) (by decide) (backOf (W := 0) (rmPf3 l Z a0 hw [] b107 bt110 b228 k228 g225 (2 : Int32) (own_h i0) i4 (i4 ^^^ (own_h i0)) (0 : Int64) h242 n0 O302 f303 f304 f305 f306 f307 f308 f309 V242 net110 ne228_b107 gb107) hZ (hw _ (List.mem_of_getElem? (i := 77) rfl)) (hw _ (List.mem_of_getElem? (i := 18) rfl)) (by decide) (by decide)) q310a q310c (g := (mkF m 116 #[.val (.long i0), .second, .val (.long i1), .second, .val (.long i2), .second, .val (.long i3), .second, .val (.int i4), .val (.int i5), .val (.long z101), .second, .val (.long z102), .second, .val (.ref b103), .val (.ref b105), .val (.ref b107), .val (.ref b228), .val (.int (3 : Int32)), .unset, .unset, .unset, .unset] [(.int (3 : Int32)), (.ref b228), (.ref b107)])) rfl (by rw [hml]; rfl) (Steps.refl _) (argsL := [(.ref b228), (.int (3 : Int32))]) (rest := []) (lenOf pd_9 rfl) rfl (by show 2 * 0 + _ ≤ _; exact Nat.le_of_eq rfl) (hb hby at_116) (fun _ _ => ⟨rfl, e242, (by decide : 5 + 0 ≤ _), (by decide : 44 + 0 ≤ _)⟩)
        dsimp only [Pt.U, Pt.locs, Pt.cells, Pt.slots] at X310 l310 y310 z310 st310 hQ310
        subst l310 y310 z310
        obtain ⟨rfl, N310q, K310, p2310, Ex310, Fs310, Fo310, Fm310, Fz310, Lb310, Fq310⟩ := hQ310
        have N310 := Fr.app N242 N310q
        have O311 : Old Z n0 T310.heap := (O302.keep K310 (allS gb107 all0))
        have f312 := ((((f232.wr W237).wr W239).wr W242).keep K310)
        have f313 := ((((f233.other W237 (Or.inl ne228_b103)).other W239 (Or.inl ne228_b103)).other W242 (Or.inl ne228_b103)).keep K310 (ninS ne107_b103 nin0))
        have f314 := ((((f234.other W237 (Or.inl ne228_b103)).other W239 (Or.inl ne228_b103)).other W242 (Or.inl ne228_b103)).keep K310 (ninS ne107_b103 nin0))
        obtain ⟨cq315, kq315, q315a, q315b, q315c⟩ := isOf hZ rfl Ex310
        obtain ⟨_, _, ⟨T315, L315, k315, n315⟩, -, X315, ⟨Lc315, hQ315, l315, y315, z315⟩, st315⟩ := X310.virtualBack hx (y := (⟨"com/example/keyfold/keyfold/KeyTable", "get", "(Lcom/example/keyfold/keyfold/Key;)J"⟩ : MethodName)) (z := (⟨"com/example/keyfold/keyfold/KeyTable", "get", "(Lcom/example/keyfold/keyfold/Key;)J"⟩ : MethodName)) hown (mvT hZ (hw _ (List.mem_of_getElem? (i := 80) rfl))) (mvT hZ (hw _ (List.mem_of_getElem? (i := 81) rfl))) (notFace_of_selects (args := #[]) (mvT hZ (hw _ (List.mem_of_getElem? (i := 83) rfl)))) (mvT hZ (hw _ (List.mem_of_getElem? (i := 83) rfl))) (mvT hZ (hw _ (List.mem_of_getElem? (i := 82) rfl))) (by decide) (backOf (W := 0) (rmG l Z a0 hw [] b107 b103 bt110 g225 (2 : Int32) (own_s i0) i0 p2310 T310.heap n0 O311 Ex310 Fs310 Fo310 Fm310 Fz310 Lb310 Fq310 f312 f313 f314 hG1) hZ (hw _ (List.mem_of_getElem? (i := 84) rfl)) (hw _ (List.mem_of_getElem? (i := 18) rfl)) (by decide) (by decide)) q315a q315c (g := (mkF m 162 #[.val (.long i0), .second, .val (.long i1), .second, .val (.long i2), .second, .val (.long i3), .second, .val (.int i4), .val (.int i5), .val (.long z101), .second, .val (.long z102), .second, .val (.ref b103), .val (.ref b105), .val (.ref b107), .val (.ref b228), .val (.int (3 : Int32)), .val (.int (0 : Int32)), .val (.long z101), .second, .val (.int (2 : Int32))] [(.ref b103), (.ref b107)])) rfl (by rw [hml]; rfl) (Steps.refl _) (argsL := [(.ref b103)]) (rest := []) (lenOf pd_10 rfl) rfl (by show 2 * 0 + _ ≤ _; exact Nat.le_of_eq rfl) (hb hby at_162) (fun _ _ => ⟨rfl, rfl, (by decide : 5 + 0 ≤ _), (by decide : 44 + 0 ≤ _)⟩)
        dsimp only [Pt.U, Pt.locs, Pt.cells, Pt.slots] at X315 l315 y315 z315 st315 hQ315
        subst l315 y315 z315
        obtain ⟨rfl, N315q, hh315⟩ := hQ315
        have N315 := Fr.app N310 N315q
        have f316 := (((((f230.ext E228).wr W237).wr W239).wr W242).keep K310)
        have f317 := ((((((f223.keep K225 (ninS ne107_b105 (ninS ne110_b105 nin0))).ext E228).other W237 (Or.inl ne228_b105)).other W239 (Or.inl ne228_b105)).other W242 (Or.inl ne228_b105)).keep K310 (ninS ne107_b105 nin0))
        have f318 := ((((((f224.keep K225 (ninS ne107_b105 (ninS ne110_b105 nin0))).ext E228).other W237 (Or.inl ne228_b105)).other W239 (Or.inl ne228_b105)).other W242 (Or.inl ne228_b105)).keep K310 (ninS ne107_b105 nin0))
        obtain ⟨cq319, kq319, q319a, q319b, q319c⟩ := isOf hZ hh315 Ex310
        obtain ⟨_, _, ⟨T319, L319, k319, n319⟩, -, X319, ⟨Lc319, hQ319, l319, y319, z319⟩, st319⟩ := X315.virtualBack hx (y := (⟨"com/example/keyfold/keyfold/KeyTable", "get", "(Lcom/example/keyfold/keyfold/Key;)J"⟩ : MethodName)) (z := (⟨"com/example/keyfold/keyfold/KeyTable", "get", "(Lcom/example/keyfold/keyfold/Key;)J"⟩ : MethodName)) hown (mvT hZ (hw _ (List.mem_of_getElem? (i := 80) rfl))) (mvT hZ (hw _ (List.mem_of_getElem? (i := 81) rfl))) (notFace_of_selects (args := #[]) (mvT hZ (hw _ (List.mem_of_getElem? (i := 83) rfl)))) (mvT hZ (hw _ (List.mem_of_getElem? (i := 83) rfl))) (mvT hZ (hw _ (List.mem_of_getElem? (i := 82) rfl))) (by decide) (backOf (W := 0) (rmG l Z a0 hw [] b107 b105 bt110 g225 (2 : Int32) (own_n (own_s i1)) i1 p2310 T310.heap n0 O311 Ex310 Fs310 Fo310 Fm310 Fz310 Lb310 Fq310 f316 f317 f318 hG2) hZ (hw _ (List.mem_of_getElem? (i := 84) rfl)) (hw _ (List.mem_of_getElem? (i := 18) rfl)) (by decide) (by decide)) q319a q319c (g := (mkF m 175 #[.val (.long i0), .second, .val (.long i1), .second, .val (.long i2), .second, .val (.long i3), .second, .val (.int i4), .val (.int i5), .val (.long z101), .second, .val (.long z102), .second, .val (.ref b103), .val (.ref b105), .val (.ref b107), .val (.ref b228), .val (.int (3 : Int32)), .val (.int (0 : Int32)), .val (.long z101), .second, .val (.int (2 : Int32))] [(.ref b105), (.ref b107)])) rfl (by rw [hml]; rfl) (Steps.refl _) (argsL := [(.ref b105)]) (rest := []) (lenOf pd_10 rfl) rfl (by show 2 * 0 + _ ≤ _; exact Nat.le_of_eq rfl) (hb hby at_175) (fun _ _ => ⟨rfl, hh315, (by decide : 5 + 0 ≤ _), (by decide : 44 + 0 ≤ _)⟩)
        dsimp only [Pt.U, Pt.locs, Pt.cells, Pt.slots] at X319 l319 y319 z319 st319 hQ319
        subst l319 y319 z319
        obtain ⟨rfl, N319q, hh319⟩ := hQ319
        have N319 := Fr.app N315 N319q
        obtain ⟨cq320, kq320, q320a, q320b, q320c⟩ := isOf hZ hh319 Ex310
        obtain ⟨_, _, ⟨T320, L320, k320, n320⟩, -, X320, ⟨Lc320, hQ320, l320, y320, z320⟩, st320⟩ := X319.virtualBack hx (y := (⟨"com/example/keyfold/keyfold/KeyTable", "size", "()I"⟩ : MethodName)) (z := (⟨"com/example/keyfold/keyfold/KeyTable", "size", "()I"⟩ : MethodName)) hown (mvT hZ (hw _ (List.mem_of_getElem? (i := 85) rfl))) (mvT hZ (hw _ (List.mem_of_getElem? (i := 86) rfl))) (notFace_of_selects (args := #[]) (mvT hZ (hw _ (List.mem_of_getElem? (i := 88) rfl)))) (mvT hZ (hw _ (List.mem_of_getElem? (i := 88) rfl))) (mvT hZ (hw _ (List.mem_of_getElem? (i := 87) rfl))) (by decide) (backOf (W := 0) (rmSz l Z a0 hw [] b107 (2 : Int32) T310.heap n0 O311 Fz310) hZ (hw _ (List.mem_of_getElem? (i := 89) rfl)) (hw _ (List.mem_of_getElem? (i := 18) rfl)) (by decide) (by decide)) q320a q320c (g := (mkF m 186 #[.val (.long i0), .second, .val (.long i1), .second, .val (.long i2), .second, .val (.long i3), .second, .val (.int i4), .val (.int i5), .val (.long z101), .second, .val (.long z102), .second, .val (.ref b103), .val (.ref b105), .val (.ref b107), .val (.ref b228), .val (.int (3 : Int32)), .val (.int (0 : Int32)), .val (.long z101), .second, .val (.int (2 : Int32))] [(.ref b107)])) rfl (by rw [hml]; rfl) (Steps.refl _) (argsL := []) (rest := []) (lenOf pd_11 rfl) rfl (by show 2 * 0 + _ ≤ _; exact Nat.le_of_eq rfl) (hb hby at_186) (fun _ _ => ⟨rfl, hh319, (by decide : 5 + 0 ≤ _), (by decide : 44 + 0 ≤ _)⟩)
        dsimp only [Pt.U, Pt.locs, Pt.cells, Pt.slots] at X320 l320 y320 z320 st320 hQ320
        subst l320 y320 z320
        obtain ⟨rfl, N320q, hh320⟩ := hQ320
        have N320 := Fr.app N319 N320q
        obtain ⟨fs, hr, hrun, hended, hW, hsame⟩ := X320.leave (v := some (.int (1 : Int32))) (fun h => by rw [Bd.returns] at h; cases h)
        refine ⟨_, _, pre243 _ ?_, hrun, hended, _, _, rfl, ?_, ⟨_, rfl⟩, hW, hsame.mono (by decide) (by decide)⟩
        · skip
          show Steps p.tables e below (T242.setTop (mkF m 108 #[.val (.long i0), .second, .val (.long i1), .second, .val (.long i2), .second, .val (.long i3), .second, .val (.int i4), .val (.int i5), .val (.long z101), .second, .val (.long z102), .second, .val (.ref b103), .val (.ref b105), .val (.ref b107), .val (.ref b228), .unset, .unset, .unset, .unset, .unset] [(.int (i5 &&& (3 : Int32)))])) _
          rw [hk244]
          show Steps p.tables e below (T242.setTop (mkF m 108 #[.val (.long i0), .second, .val (.long i1), .second, .val (.long i2), .second, .val (.long i3), .second, .val (.int i4), .val (.int i5), .val (.long z101), .second, .val (.long z102), .second, .val (.ref b103), .val (.ref b105), .val (.ref b107), .val (.ref b228), .unset, .unset, .unset, .unset, .unset] [(.int (3 : Int32))])) _
          refine XS.istore X242.here hx rfl (hb hby at_108) rfl (l' := #[.val (.long i0), .second, .val (.long i1), .second, .val (.long i2), .second, .val (.long i3), .second, .val (.int i4), .val (.int i5), .val (.long z101), .second, .val (.long z102), .second, .val (.ref b103), .val (.ref b105), .val (.ref b107), .val (.ref b228), .val (.int (3 : Int32)), .unset, .unset, .unset, .unset]) rfl ?_
          show Steps p.tables e below (T242.setTop (mkF m 110 #[.val (.long i0), .second, .val (.long i1), .second, .val (.long i2), .second, .val (.long i3), .second, .val (.int i4), .val (.int i5), .val (.long z101), .second, .val (.long z102), .second, .val (.ref b103), .val (.ref b105), .val (.ref b107), .val (.ref b228), .val (.int (3 : Int32)), .unset, .unset, .unset, .unset] [])) _
          refine XS.aload X242.here hx rfl (hb hby at_110) rfl rfl ?_
          show Steps p.tables e below (T242.setTop (mkF m 112 #[.val (.long i0), .second, .val (.long i1), .second, .val (.long i2), .second, .val (.long i3), .second, .val (.int i4), .val (.int i5), .val (.long z101), .second, .val (.long z102), .second, .val (.ref b103), .val (.ref b105), .val (.ref b107), .val (.ref b228), .val (.int (3 : Int32)), .unset, .unset, .unset, .unset] [(.ref b107)])) _
          refine XS.aload X242.here hx rfl (hb hby at_112) rfl rfl ?_
          show Steps p.tables e below (T242.setTop (mkF m 114 #[.val (.long i0), .second, .val (.long i1), .second, .val (.long i2), .second, .val (.long i3), .second, .val (.int i4), .val (.int i5), .val (.long z101), .second, .val (.long z102), .second, .val (.ref b103), .val (.ref b105), .val (.ref b107), .val (.ref b228), .val (.int (3 : Int32)), .unset, .unset, .unset, .unset] [(.ref b228), (.ref b107)])) _
          refine XS.iload X242.here hx rfl (hb hby at_114) rfl ?_
          show Steps p.tables e below (T242.setTop (mkF m 116 #[.val (.long i0), .second, .val (.long i1), .second, .val (.long i2), .second, .val (.long i3), .second, .val (.int i4), .val (.int i5), .val (.long z101), .second, .val (.long z102), .second, .val (.ref b103), .val (.ref b105), .val (.ref b107), .val (.ref b228), .val (.int (3 : Int32)), .unset, .unset, .unset, .unset] [(.int (3 : Int32)), (.ref b228), (.ref b107)])) _
          refine st310.trans ?_
          show Steps p.tables e below (T310.setTop (mkF m 119 #[.val (.long i0), .second, .val (.long i1), .second, .val (.long i2), .second, .val (.long i3), .second, .val (.int i4), .val (.int i5), .val (.long z101), .second, .val (.long z102), .second, .val (.ref b103), .val (.ref b105), .val (.ref b107), .val (.ref b228), .val (.int (3 : Int32)), .unset, .unset, .unset, .unset] [])) _
          refine XS.lloadN X310.here hx rfl (hb hby at_119) rfl ?_
          show Steps p.tables e below (T310.setTop (mkF m 120 #[.val (.long i0), .second, .val (.long i1), .second, .val (.long i2), .second, .val (.long i3), .second, .val (.int i4), .val (.int i5), .val (.long z101), .second, .val (.long z102), .second, .val (.ref b103), .val (.ref b105), .val (.ref b107), .val (.ref b228), .val (.int (3 : Int32)), .unset, .unset, .unset, .unset] [(.long i0)])) _
          refine XS.lloadN X310.here hx rfl (hb hby at_120) rfl ?_
          show Steps p.tables e below (T310.setTop (mkF m 121 #[.val (.long i0), .second, .val (.long i1), .second, .val (.long i2), .second, .val (.long i3), .second, .val (.int i4), .val (.int i5), .val (.long z101), .second, .val (.long z102), .second, .val (.ref b103), .val (.ref b105), .val (.ref b107), .val (.ref b228), .val (.int (3 : Int32)), .unset, .unset, .unset, .unset] [(.long i1), (.long i0)])) _
          refine XS.lcmp X310.here hx rfl (hb hby at_121) rfl ?_
          show Steps p.tables e below (T310.setTop (mkF m 122 #[.val (.long i0), .second, .val (.long i1), .second, .val (.long i2), .second, .val (.long i3), .second, .val (.int i4), .val (.int i5), .val (.long z101), .second, .val (.long z102), .second, .val (.ref b103), .val (.ref b105), .val (.ref b107), .val (.ref b228), .val (.int (3 : Int32)), .unset, .unset, .unset, .unset] [(.int (lcmpW i0 i1))])) _
          refine XS.ifYes X310.here hx rfl (pc0 := 122) (pc' := 129) rfl (hb hby at_122) rfl ((if0 _ _).trans (feq (mt (lw_eq _ _).mp hc119)).2) (by decide) (by decide) ?_
          show Steps p.tables e below (T310.setTop (mkF m 129 #[.val (.long i0), .second, .val (.long i1), .second, .val (.long i2), .second, .val (.long i3), .second, .val (.int i4), .val (.int i5), .val (.long z101), .second, .val (.long z102), .second, .val (.ref b103), .val (.ref b105), .val (.ref b107), .val (.ref b228), .val (.int (3 : Int32)), .unset, .unset, .unset, .unset] [])) _
          refine XS.iconst X310.here hx rfl (hb hby at_129) ?_
          show Steps p.tables e below (T310.setTop (mkF m 130 #[.val (.long i0), .second, .val (.long i1), .second, .val (.long i2), .second, .val (.long i3), .second, .val (.int i4), .val (.int i5), .val (.long z101), .second, .val (.long z102), .second, .val (.ref b103), .val (.ref b105), .val (.ref b107), .val (.ref b228), .val (.int (3 : Int32)), .unset, .unset, .unset, .unset] [(.int (0 : Int32))])) _
          refine XS.istore X310.here hx rfl (hb hby at_130) rfl (l' := #[.val (.long i0), .second, .val (.long i1), .second, .val (.long i2), .second, .val (.long i3), .second, .val (.int i4), .val (.int i5), .val (.long z101), .second, .val (.long z102), .second, .val (.ref b103), .val (.ref b105), .val (.ref b107), .val (.ref b228), .val (.int (3 : Int32)), .val (.int (0 : Int32)), .unset, .unset, .unset]) rfl ?_
          show Steps p.tables e below (T310.setTop (mkF m 132 #[.val (.long i0), .second, .val (.long i1), .second, .val (.long i2), .second, .val (.long i3), .second, .val (.int i4), .val (.int i5), .val (.long z101), .second, .val (.long z102), .second, .val (.ref b103), .val (.ref b105), .val (.ref b107), .val (.ref b228), .val (.int (3 : Int32)), .val (.int (0 : Int32)), .unset, .unset, .unset] [])) _
          refine XS.iload X310.here hx rfl (hb hby at_132) rfl ?_
          show Steps p.tables e below (T310.setTop (mkF m 134 #[.val (.long i0), .second, .val (.long i1), .second, .val (.long i2), .second, .val (.long i3), .second, .val (.int i4), .val (.int i5), .val (.long z101), .second, .val (.long z102), .second, .val (.ref b103), .val (.ref b105), .val (.ref b107), .val (.ref b228), .val (.int (3 : Int32)), .val (.int (0 : Int32)), .unset, .unset, .unset] [(.int (0 : Int32))])) _
          refine XS.ifYes X310.here hx rfl (pc0 := 134) (pc' := 142) rfl (hb hby at_134) rfl (by decide) (by decide) (by decide) ?_
          show Steps p.tables e below (T310.setTop (mkF m 142 #[.val (.long i0), .second, .val (.long i1), .second, .val (.long i2), .second, .val (.long i3), .second, .val (.int i4), .val (.int i5), .val (.long z101), .second, .val (.long z102), .second, .val (.ref b103), .val (.ref b105), .val (.ref b107), .val (.ref b228), .val (.int (3 : Int32)), .val (.int (0 : Int32)), .unset, .unset, .unset] [])) _
          refine XS.lload X310.here hx rfl (hb hby at_142) rfl ?_
          show Steps p.tables e below (T310.setTop (mkF m 144 #[.val (.long i0), .second, .val (.long i1), .second, .val (.long i2), .second, .val (.long i3), .second, .val (.int i4), .val (.int i5), .val (.long z101), .second, .val (.long z102), .second, .val (.ref b103), .val (.ref b105), .val (.ref b107), .val (.ref b228), .val (.int (3 : Int32)), .val (.int (0 : Int32)), .unset, .unset, .unset] [(.long z101)])) _
          refine XS.lstore X310.here hx rfl (hb hby at_144) rfl (l' := #[.val (.long i0), .second, .val (.long i1), .second, .val (.long i2), .second, .val (.long i3), .second, .val (.int i4), .val (.int i5), .val (.long z101), .second, .val (.long z102), .second, .val (.ref b103), .val (.ref b105), .val (.ref b107), .val (.ref b228), .val (.int (3 : Int32)), .val (.int (0 : Int32)), .val (.long z101), .second, .unset]) rfl ?_
          show Steps p.tables e below (T310.setTop (mkF m 146 #[.val (.long i0), .second, .val (.long i1), .second, .val (.long i2), .second, .val (.long i3), .second, .val (.int i4), .val (.int i5), .val (.long z101), .second, .val (.long z102), .second, .val (.ref b103), .val (.ref b105), .val (.ref b107), .val (.ref b228), .val (.int (3 : Int32)), .val (.int (0 : Int32)), .val (.long z101), .second, .unset] [])) _
          refine XS.iload X310.here hx rfl (hb hby at_146) rfl ?_
          show Steps p.tables e below (T310.setTop (mkF m 148 #[.val (.long i0), .second, .val (.long i1), .second, .val (.long i2), .second, .val (.long i3), .second, .val (.int i4), .val (.int i5), .val (.long z101), .second, .val (.long z102), .second, .val (.ref b103), .val (.ref b105), .val (.ref b107), .val (.ref b228), .val (.int (3 : Int32)), .val (.int (0 : Int32)), .val (.long z101), .second, .unset] [(.int (0 : Int32))])) _
          refine XS.ifYes X310.here hx rfl (pc0 := 148) (pc' := 155) rfl (hb hby at_148) rfl (by decide) (by decide) (by decide) ?_
          show Steps p.tables e below (T310.setTop (mkF m 155 #[.val (.long i0), .second, .val (.long i1), .second, .val (.long i2), .second, .val (.long i3), .second, .val (.int i4), .val (.int i5), .val (.long z101), .second, .val (.long z102), .second, .val (.ref b103), .val (.ref b105), .val (.ref b107), .val (.ref b228), .val (.int (3 : Int32)), .val (.int (0 : Int32)), .val (.long z101), .second, .unset] [])) _
          refine XS.iconst X310.here hx rfl (hb hby at_155) ?_
          show Steps p.tables e below (T310.setTop (mkF m 156 #[.val (.long i0), .second, .val (.long i1), .second, .val (.long i2), .second, .val (.long i3), .second, .val (.int i4), .val (.int i5), .val (.long z101), .second, .val (.long z102), .second, .val (.ref b103), .val (.ref b105), .val (.ref b107), .val (.ref b228), .val (.int (3 : Int32)), .val (.int (0 : Int32)), .val (.long z101), .second, .unset] [(.int (2 : Int32))])) _
          refine XS.istore X310.here hx rfl (hb hby at_156) rfl (l' := #[.val (.long i0), .second, .val (.long i1), .second, .val (.long i2), .second, .val (.long i3), .second, .val (.int i4), .val (.int i5), .val (.long z101), .second, .val (.long z102), .second, .val (.ref b103), .val (.ref b105), .val (.ref b107), .val (.ref b228), .val (.int (3 : Int32)), .val (.int (0 : Int32)), .val (.long z101), .second, .val (.int (2 : Int32))]) rfl ?_
          show Steps p.tables e below (T310.setTop (mkF m 158 #[.val (.long i0), .second, .val (.long i1), .second, .val (.long i2), .second, .val (.long i3), .second, .val (.int i4), .val (.int i5), .val (.long z101), .second, .val (.long z102), .second, .val (.ref b103), .val (.ref b105), .val (.ref b107), .val (.ref b228), .val (.int (3 : Int32)), .val (.int (0 : Int32)), .val (.long z101), .second, .val (.int (2 : Int32))] [])) _
          refine XS.aload X310.here hx rfl (hb hby at_158) rfl rfl ?_
          show Steps p.tables e below (T310.setTop (mkF m 160 #[.val (.long i0), .second, .val (.long i1), .second, .val (.long i2), .second, .val (.long i3), .second, .val (.int i4), .val (.int i5), .val (.long z101), .second, .val (.long z102), .second, .val (.ref b103), .val (.ref b105), .val (.ref b107), .val (.ref b228), .val (.int (3 : Int32)), .val (.int (0 : Int32)), .val (.long z101), .second, .val (.int (2 : Int32))] [(.ref b107)])) _
          refine XS.aload X310.here hx rfl (hb hby at_160) rfl rfl ?_
          show Steps p.tables e below (T310.setTop (mkF m 162 #[.val (.long i0), .second, .val (.long i1), .second, .val (.long i2), .second, .val (.long i3), .second, .val (.int i4), .val (.int i5), .val (.long z101), .second, .val (.long z102), .second, .val (.ref b103), .val (.ref b105), .val (.ref b107), .val (.ref b228), .val (.int (3 : Int32)), .val (.int (0 : Int32)), .val (.long z101), .second, .val (.int (2 : Int32))] [(.ref b103), (.ref b107)])) _
          refine st315.trans ?_
          show Steps p.tables e below (T315.setTop (mkF m 165 #[.val (.long i0), .second, .val (.long i1), .second, .val (.long i2), .second, .val (.long i3), .second, .val (.int i4), .val (.int i5), .val (.long z101), .second, .val (.long z102), .second, .val (.ref b103), .val (.ref b105), .val (.ref b107), .val (.ref b228), .val (.int (3 : Int32)), .val (.int (0 : Int32)), .val (.long z101), .second, .val (.int (2 : Int32))] [(.long (g225 (((2 : Int32) * (own_s i0)) + (1 : Int32))))])) _
          refine XS.lload X315.here hx rfl (hb hby at_165) rfl ?_
          show Steps p.tables e below (T315.setTop (mkF m 167 #[.val (.long i0), .second, .val (.long i1), .second, .val (.long i2), .second, .val (.long i3), .second, .val (.int i4), .val (.int i5), .val (.long z101), .second, .val (.long z102), .second, .val (.ref b103), .val (.ref b105), .val (.ref b107), .val (.ref b228), .val (.int (3 : Int32)), .val (.int (0 : Int32)), .val (.long z101), .second, .val (.int (2 : Int32))] [(.long z101), (.long (g225 (((2 : Int32) * (own_s i0)) + (1 : Int32))))])) _
          refine XS.lcmp X315.here hx rfl (hb hby at_167) rfl ?_
          show Steps p.tables e below (T315.setTop (mkF m 168 #[.val (.long i0), .second, .val (.long i1), .second, .val (.long i2), .second, .val (.long i3), .second, .val (.int i4), .val (.int i5), .val (.long z101), .second, .val (.long z102), .second, .val (.ref b103), .val (.ref b105), .val (.ref b107), .val (.ref b228), .val (.int (3 : Int32)), .val (.int (0 : Int32)), .val (.long z101), .second, .val (.int (2 : Int32))] [(.int (lcmpW (g225 (((2 : Int32) * (own_s i0)) + (1 : Int32))) z101))])) _
          refine XS.ifNo X315.here hx rfl (hb hby at_168) rfl ((if0 _ _).trans (teq ((lw_eq _ _).mpr qa)).2) ?_
          show Steps p.tables e below (T315.setTop (mkF m 171 #[.val (.long i0), .second, .val (.long i1), .second, .val (.long i2), .second, .val (.long i3), .second, .val (.int i4), .val (.int i5), .val (.long z101), .second, .val (.long z102), .second, .val (.ref b103), .val (.ref b105), .val (.ref b107), .val (.ref b228), .val (.int (3 : Int32)), .val (.int (0 : Int32)), .val (.long z101), .second, .val (.int (2 : Int32))] [])) _
          refine XS.aload X315.here hx rfl (hb hby at_171) rfl rfl ?_
          show Steps p.tables e below (T315.setTop (mkF m 173 #[.val (.long i0), .second, .val (.long i1), .second, .val (.long i2), .second, .val (.long i3), .second, .val (.int i4), .val (.int i5), .val (.long z101), .second, .val (.long z102), .second, .val (.ref b103), .val (.ref b105), .val (.ref b107), .val (.ref b228), .val (.int (3 : Int32)), .val (.int (0 : Int32)), .val (.long z101), .second, .val (.int (2 : Int32))] [(.ref b107)])) _
          refine XS.aload X315.here hx rfl (hb hby at_173) rfl rfl ?_
          show Steps p.tables e below (T315.setTop (mkF m 175 #[.val (.long i0), .second, .val (.long i1), .second, .val (.long i2), .second, .val (.long i3), .second, .val (.int i4), .val (.int i5), .val (.long z101), .second, .val (.long z102), .second, .val (.ref b103), .val (.ref b105), .val (.ref b107), .val (.ref b228), .val (.int (3 : Int32)), .val (.int (0 : Int32)), .val (.long z101), .second, .val (.int (2 : Int32))] [(.ref b105), (.ref b107)])) _
          refine st319.trans ?_
          show Steps p.tables e below (T319.setTop (mkF m 178 #[.val (.long i0), .second, .val (.long i1), .second, .val (.long i2), .second, .val (.long i3), .second, .val (.int i4), .val (.int i5), .val (.long z101), .second, .val (.long z102), .second, .val (.ref b103), .val (.ref b105), .val (.ref b107), .val (.ref b228), .val (.int (3 : Int32)), .val (.int (0 : Int32)), .val (.long z101), .second, .val (.int (2 : Int32))] [(.long (g225 (((2 : Int32) * (own_n (own_s i1))) + (1 : Int32))))])) _
          refine XS.lload X319.here hx rfl (hb hby at_178) rfl ?_
          show Steps p.tables e below (T319.setTop (mkF m 180 #[.val (.long i0), .second, .val (.long i1), .second, .val (.long i2), .second, .val (.long i3), .second, .val (.int i4), .val (.int i5), .val (.long z101), .second, .val (.long z102), .second, .val (.ref b103), .val (.ref b105), .val (.ref b107), .val (.ref b228), .val (.int (3 : Int32)), .val (.int (0 : Int32)), .val (.long z101), .second, .val (.int (2 : Int32))] [(.long z102), (.long (g225 (((2 : Int32) * (own_n (own_s i1))) + (1 : Int32))))])) _
          refine XS.lcmp X319.here hx rfl (hb hby at_180) rfl ?_
          show Steps p.tables e below (T319.setTop (mkF m 181 #[.val (.long i0), .second, .val (.long i1), .second, .val (.long i2), .second, .val (.long i3), .second, .val (.int i4), .val (.int i5), .val (.long z101), .second, .val (.long z102), .second, .val (.ref b103), .val (.ref b105), .val (.ref b107), .val (.ref b228), .val (.int (3 : Int32)), .val (.int (0 : Int32)), .val (.long z101), .second, .val (.int (2 : Int32))] [(.int (lcmpW (g225 (((2 : Int32) * (own_n (own_s i1))) + (1 : Int32))) z102))])) _
          refine XS.ifNo X319.here hx rfl (hb hby at_181) rfl ((if0 _ _).trans (teq ((lw_eq _ _).mpr qb)).2) ?_
          show Steps p.tables e below (T319.setTop (mkF m 184 #[.val (.long i0), .second, .val (.long i1), .second, .val (.long i2), .second, .val (.long i3), .second, .val (.int i4), .val (.int i5), .val (.long z101), .second, .val (.long z102), .second, .val (.ref b103), .val (.ref b105), .val (.ref b107), .val (.ref b228), .val (.int (3 : Int32)), .val (.int (0 : Int32)), .val (.long z101), .second, .val (.int (2 : Int32))] [])) _
          refine XS.aload X319.here hx rfl (hb hby at_184) rfl rfl ?_
          show Steps p.tables e below (T319.setTop (mkF m 186 #[.val (.long i0), .second, .val (.long i1), .second, .val (.long i2), .second, .val (.long i3), .second, .val (.int i4), .val (.int i5), .val (.long z101), .second, .val (.long z102), .second, .val (.ref b103), .val (.ref b105), .val (.ref b107), .val (.ref b228), .val (.int (3 : Int32)), .val (.int (0 : Int32)), .val (.long z101), .second, .val (.int (2 : Int32))] [(.ref b107)])) _
          refine st320.trans ?_
          show Steps p.tables e below (T320.setTop (mkF m 189 #[.val (.long i0), .second, .val (.long i1), .second, .val (.long i2), .second, .val (.long i3), .second, .val (.int i4), .val (.int i5), .val (.long z101), .second, .val (.long z102), .second, .val (.ref b103), .val (.ref b105), .val (.ref b107), .val (.ref b228), .val (.int (3 : Int32)), .val (.int (0 : Int32)), .val (.long z101), .second, .val (.int (2 : Int32))] [(.int (2 : Int32))])) _
          refine XS.iload X320.here hx rfl (hb hby at_189) rfl ?_
          show Steps p.tables e below (T320.setTop (mkF m 191 #[.val (.long i0), .second, .val (.long i1), .second, .val (.long i2), .second, .val (.long i3), .second, .val (.int i4), .val (.int i5), .val (.long z101), .second, .val (.long z102), .second, .val (.ref b103), .val (.ref b105), .val (.ref b107), .val (.ref b228), .val (.int (3 : Int32)), .val (.int (0 : Int32)), .val (.long z101), .second, .val (.int (2 : Int32))] [(.int (2 : Int32)), (.int (2 : Int32))])) _
          refine XS.icmpNo X320.here hx rfl (hb hby at_191) rfl (by decide) ?_
          show Steps p.tables e below (T320.setTop (mkF m 194 #[.val (.long i0), .second, .val (.long i1), .second, .val (.long i2), .second, .val (.long i3), .second, .val (.int i4), .val (.int i5), .val (.long z101), .second, .val (.long z102), .second, .val (.ref b103), .val (.ref b105), .val (.ref b107), .val (.ref b228), .val (.int (3 : Int32)), .val (.int (0 : Int32)), .val (.long z101), .second, .val (.int (2 : Int32))] [])) _
          refine XS.iconst X320.here hx rfl (hb hby at_194) ?_
          show Steps p.tables e below (T320.setTop (mkF m 195 #[.val (.long i0), .second, .val (.long i1), .second, .val (.long i2), .second, .val (.long i3), .second, .val (.int i4), .val (.int i5), .val (.long z101), .second, .val (.long z102), .second, .val (.ref b103), .val (.ref b105), .val (.ref b107), .val (.ref b228), .val (.int (3 : Int32)), .val (.int (0 : Int32)), .val (.long z101), .second, .val (.int (2 : Int32))] [(.int (1 : Int32))])) _
          refine XS.goto X320.here hx rfl (pc0 := 195) (pc' := 199) rfl (hb hby at_195) (by decide) (by decide) ?_
          show Steps p.tables e below (T320.setTop (mkF m 199 #[.val (.long i0), .second, .val (.long i1), .second, .val (.long i2), .second, .val (.long i3), .second, .val (.int i4), .val (.int i5), .val (.long z101), .second, .val (.long z102), .second, .val (.ref b103), .val (.ref b105), .val (.ref b107), .val (.ref b228), .val (.int (3 : Int32)), .val (.int (0 : Int32)), .val (.long z101), .second, .val (.int (2 : Int32))] [(.int (1 : Int32))])) _
          exact retN X320 hx (t := .boolean) Bd.returns (by simp) (hb hby at_199) hr
        · show QL n0 _ T320.heap _
          rw [hh320]
          exact ⟨rfl, N320⟩
    · skip
      have hv2 : (g117 (((2 : Int32) * (own_s i1)) + (1 : Int32))) = (0 : Int64) := by rw [hp1, own_pv' (own_s16 _) (own_s16 _) hc220]
      have hF2 : Fnd g117 i1 (own_s i1) := Or.inl ⟨hv2, rfl⟩
      have O321 : Old Z n0 T117.heap := (O113.keep K117 (allS gb107 (allS gbt110 all0)))
      have f322 := ((f112.keep K110).keep K117)
      have f323 := (((F105_parts.ext E107).keep K110 (ninS ne107_b105 nin0)).keep K117 (ninS ne107_b105 (ninS ne110_b105 nin0)))
      have f324 := (((F105_integer.ext E107).keep K110 (ninS ne107_b105 nin0)).keep K117 (ninS ne107_b105 (ninS ne110_b105 nin0)))
      obtain ⟨cq325, kq325, q325a, q325b, q325c⟩ := isOf hZ rfl Ex117
      obtain ⟨_, _, ⟨T325, L325, k325, n325⟩, -, X325, ⟨Lc325, hQ325, l325, y325, z325⟩, st325⟩ := X117.virtualBack hx (y := (⟨"com/example/keyfold/keyfold/KeyTable", "put", "(Lcom/example/keyfold/keyfold/Key;J)J"⟩ : MethodName)) (z := (⟨"com/example/keyfold/keyfold/KeyTable", "put", "(Lcom/example/keyfold/keyfold/Key;J)J"⟩ : MethodName)) hown (mvT hZ (hw _ (List.mem_of_getElem? (i := 37) rfl))) (mvT hZ (hw _ (List.mem_of_getElem? (i := 38) rfl))) (notFace_of_selects (args := #[]) (mvT hZ (hw _ (List.mem_of_getElem? (i := 40) rfl)))) (mvT hZ (hw _ (List.mem_of_getElem? (i := 40) rfl))) (mvT hZ (hw _ (List.mem_of_getElem? (i := 39) rfl))) (by decide) (backOf (W := 0) (rmPB l Z a0 hw [] b107 b105 bt110 g117 (1 : Int32) (own_s i1) i1 (0 : Int64) z102 T117.heap n0 O321 Ex117 Fs117 Fo117 Fm117 Fz117 Lb117 Fq117 f322 f323 f324 net110 ne110_b105 ne107_b105 gb107 gbt110 hF2 hv2 (by decide)) hZ (hw _ (List.mem_of_getElem? (i := 41) rfl)) (hw _ (List.mem_of_getElem? (i := 18) rfl)) (by decide) (by decide)) q325a q325c (g := (mkF m 69 #[.val (.long i0), .second, .val (.long i1), .second, .val (.long i2), .second, .val (.long i3), .second, .val (.int i4), .val (.int i5), .val (.long z101), .second, .val (.long z102), .second, .val (.ref b103), .val (.ref b105), .val (.ref b107), .unset, .unset, .unset, .unset, .unset, .unset] [(.long z102), (.ref b105), (.ref b107)])) rfl (by rw [hml]; rfl) (Steps.refl _) (argsL := [(.ref b105), (.long z102)]) (rest := []) (lenOf pd_8 rfl) rfl (by show 2 * 0 + _ ≤ _; exact Nat.le_of_eq rfl) (hb hby at_69) (fun _ _ => ⟨rfl, rfl, (by decide : 4 + 0 ≤ _), (by decide : 41 + 0 ≤ _)⟩)
      dsimp only [Pt.U, Pt.locs, Pt.cells, Pt.slots] at X325 l325 y325 z325 st325 hQ325
      subst l325 y325 z325
      obtain ⟨rfl, N325q, K325, Ex325, Fs325, Fo325, Fm325, Fz325, Lb325, Fq325⟩ := hQ325
      have N325 := Fr.app N117 N325q
      obtain ⟨g325, hf325⟩ : ∃ g : Int32 → Int64, g = (upd (upd g117 ((2 : Int32) * (own_s i1)) i1) (((2 : Int32) * (own_s i1)) + (1 : Int32)) z102) := ⟨_, rfl⟩
      rw [← hf325] at Lb325
      have pre326 : ∀ t, Steps p.tables e below (T325.setTop (mkF m 73 #[.val (.long i0), .second, .val (.long i1), .second, .val (.long i2), .second, .val (.long i3), .second, .val (.int i4), .val (.int i5), .val (.long z101), .second, .val (.long z102), .second, .val (.ref b103), .val (.ref b105), .val (.ref b107), .unset, .unset, .unset, .unset, .unset, .unset] [])) t → Steps p.tables e below (s₁.setTop (entryFrame m #[(.long i0), (.long i1), (.long i2), (.long i3), (.int i4), (.int i5)] maxLocals)) t := fun t kt => pre118 t (by
          show Steps p.tables e below (T117.setTop (mkF m 63 #[.val (.long i0), .second, .val (.long i1), .second, .val (.long i2), .second, .val (.long i3), .second, .val (.int i4), .val (.int i5), .val (.long z101), .second, .val (.long z102), .second, .val (.ref b103), .val (.ref b105), .val (.ref b107), .unset, .unset, .unset, .unset, .unset, .unset] [])) _
          refine XS.aload X117.here hx rfl (hb hby at_63) rfl rfl ?_
          show Steps p.tables e below (T117.setTop (mkF m 65 #[.val (.long i0), .second, .val (.long i1), .second, .val (.long i2), .second, .val (.long i3), .second, .val (.int i4), .val (.int i5), .val (.long z101), .second, .val (.long z102), .second, .val (.ref b103), .val (.ref b105), .val (.ref b107), .unset, .unset, .unset, .unset, .unset, .unset] [(.ref b107)])) _
          refine XS.aload X117.here hx rfl (hb hby at_65) rfl rfl ?_
          show Steps p.tables e below (T117.setTop (mkF m 67 #[.val (.long i0), .second, .val (.long i1), .second, .val (.long i2), .second, .val (.long i3), .second, .val (.int i4), .val (.int i5), .val (.long z101), .second, .val (.long z102), .second, .val (.ref b103), .val (.ref b105), .val (.ref b107), .unset, .unset, .unset, .unset, .unset, .unset] [(.ref b105), (.ref b107)])) _
          refine XS.lload X117.here hx rfl (hb hby at_67) rfl ?_
          show Steps p.tables e below (T117.setTop (mkF m 69 #[.val (.long i0), .second, .val (.long i1), .second, .val (.long i2), .second, .val (.long i3), .second, .val (.int i4), .val (.int i5), .val (.long z101), .second, .val (.long z102), .second, .val (.ref b103), .val (.ref b105), .val (.ref b107), .unset, .unset, .unset, .unset, .unset, .unset] [(.long z102), (.ref b105), (.ref b107)])) _
          refine st325.trans ?_
          show Steps p.tables e below (T325.setTop (mkF m 72 #[.val (.long i0), .second, .val (.long i1), .second, .val (.long i2), .second, .val (.long i3), .second, .val (.int i4), .val (.int i5), .val (.long z101), .second, .val (.long z102), .second, .val (.ref b103), .val (.ref b105), .val (.ref b107), .unset, .unset, .unset, .unset, .unset, .unset] [(.long ((upd g117 ((2 : Int32) * (own_s i1)) i1) (((2 : Int32) * (own_s i1)) + (1 : Int32))))])) _
          jvm_step X325.here [X325.here.top, hx, (hb hby at_72), Value.category]
          exact kt)
      have hp2 : g325 = own_p g117 (own_s i1) i1 z102 := hf325
      have hne : ¬ (own_s i0) = (own_s i1) := fun q => hc220 q.symm
      have qa : (g325 (((2 : Int32) * (own_s i0)) + (1 : Int32))) = z101 := by rw [hp2, own_pv' (own_s16 i1) (own_s16 _) hne, hp1, own_pv]
      have qk : (g325 ((2 : Int32) * (own_s i0))) = i0 := by rw [hp2, own_pk' (own_s16 i1) (own_s16 _) hne, hp1, own_pk (own_s16 _)]
      have qb : (g325 (((2 : Int32) * (own_s i1)) + (1 : Int32))) = z102 := by rw [hp2, own_pv]
      have qc : (g325 ((2 : Int32) * (own_s i1))) = i1 := by rw [hp2, own_pk (own_s16 i1)]
      have hG1 : Fnd g325 i0 (own_s i0) := Or.inr (Or.inl ⟨by rw [qa]; exact (own_nz hz101 (by decide) id), qk, rfl⟩)
      have hG2 : Fnd g325 i1 (own_s i1) := Or.inr (Or.inl ⟨by rw [qb]; exact (own_nz hz102 (by decide) id), qc, rfl⟩)
      have O327 : Old Z n0 T325.heap := (O321.keep K325 (allS gb107 (allS gbt110 all0)))
      obtain ⟨T328, h328, k328, X328, e328, E328, A328, st328⟩ := newP X325 hx hZ (hw _ (List.mem_of_getElem? (i := 69) rfl)) rfl (g := (mkF m 74 #[.val (.long i0), .second, .val (.long i1), .second, .val (.long i2), .second, .val (.long i3), .second, .val (.int i4), .val (.int i5), .val (.long z101), .second, .val (.long z102), .second, .val (.ref b103), .val (.ref b105), .val (.ref b107), .unset, .unset, .unset, .unset, .unset, .unset] [(.int (3 : Int32))])) rfl (hb hby at_74) rfl (by decide) (cap := 3) (by decide) (by decide) (by decide) (by decide)
      obtain ⟨b328, g328⟩ : ∃ z, z = T325.heap.size := ⟨_, rfl⟩
      rw [← g328] at A328 st328
      have gb328 : n0 ≤ b328 := by rw [g328, ← O327.1]; exact O327.2.1
      have f329 := ((f114.keep K117).keep K325)
      have ne328_b103 : b103 ≠ b328 := by rw [g328]; exact Nat.ne_of_lt (f329).lt
      have f330 := (f322.keep K325)
      have ne328_b105 : b105 ≠ b328 := by rw [g328]; exact Nat.ne_of_lt (f330).lt
      have ne328_b107 : b107 ≠ b328 := by rw [g328]; exact Nat.ne_of_lt (Ex325).lt
      have ne328_bt110 : bt110 ≠ b328 := by rw [g328]; exact Nat.ne_of_lt (Lb325).lt
      have V328 : Arv Z h328 b328 k328 .int (3 : Int32) [(.int (0 : Int32)), (.int (0 : Int32)), (.int (0 : Int32))] (.int (0 : Int32)) := (Arv.new A328 (by decide)).pad (pad_rep [] (.int (0 : Int32)) 3)
      have O331 : Old Z n0 h328 := (O327.ext E328)
      have f332 := (f329.ext E328)
      have f333 := (((f115.keep K117 (ninS ne107_b103 (ninS ne110_b103 nin0))).keep K325 (ninS ne107_b103 (ninS ne110_b103 nin0))).ext E328)
      have f334 := (((f116.keep K117 (ninS ne107_b103 (ninS ne110_b103 nin0))).keep K325 (ninS ne107_b103 (ninS ne110_b103 nin0))).ext E328)
      obtain ⟨_, _, ⟨T335, L335, k335, n335⟩, -, X335, ⟨Lc335, hQ335, l335, y335, z335⟩, st335⟩ := Jvm.LawKit.callS X328 hx (y := (⟨"com/example/keyfold/keyfold/KeyTable", "hash", "(Lcom/example/keyfold/keyfold/Key;)I"⟩ : MethodName)) hown (mvT hZ (hw _ (List.mem_of_getElem? (i := 70) rfl))) (mvT hZ (hw _ (List.mem_of_getElem? (i := 71) rfl))) (mvT hZ (hw _ (List.mem_of_getElem? (i := 18) rfl))) (mvT hZ (hw _ (List.mem_of_getElem? (i := 72) rfl))) (by decide) (backOf (W := 2) (rmHk l Z a0 hw [] b103 i0 h328 n0 O331 f332 f333 f334) hZ (hw _ (List.mem_of_getElem? (i := 72) rfl)) (hw _ (List.mem_of_getElem? (i := 18) rfl)) (by decide) (by decide)) (g := (mkF m 83 #[.val (.long i0), .second, .val (.long i1), .second, .val (.long i2), .second, .val (.long i3), .second, .val (.int i4), .val (.int i5), .val (.long z101), .second, .val (.long z102), .second, .val (.ref b103), .val (.ref b105), .val (.ref b107), .val (.ref b328), .unset, .unset, .unset, .unset, .unset] [(.ref b103), (.int (0 : Int32)), (.ref b328)])) rfl (by rw [hml]; rfl) (argsL := [(.ref b103)]) (rest := [(.int (0 : Int32)), (.ref b328)]) (lenOf pd_5 rfl) rfl (by show 2 * 0 + _ ≤ _; exact Nat.le_of_eq rfl) (hb hby at_83) (fun _ _ => ⟨rfl, e328, (by decide : 5 + 0 ≤ _), (by decide : 44 + 0 ≤ _)⟩)
      dsimp only [Pt.U, Pt.locs, Pt.cells, Pt.slots] at X335 l335 y335 z335 st335 hQ335
      subst l335 y335 z335
      obtain ⟨rfl, N335q, hh335⟩ := hQ335
      have N335 := Fr.app N325 N335q
      obtain ⟨cl336, Ar336, q336, S336, N336_, H336, G336⟩ := id V328
      have hin336 : ¬ ((0 : Int32) < 0 ∨ cl336.slots.size ≤ ((0 : Int32)).toNatClampNeg) := inb_of S336 ⟨by decide, by decide⟩
      obtain ⟨T337, h337, X337, e337, W337, st337⟩ := stI X335 hx hZ hh335 Ar336 (j := (0 : Int32)) hin336 (g := (mkF m 86 #[.val (.long i0), .second, .val (.long i1), .second, .val (.long i2), .second, .val (.long i3), .second, .val (.int i4), .val (.int i5), .val (.long z101), .second, .val (.long z102), .second, .val (.ref b103), .val (.ref b105), .val (.ref b107), .val (.ref b328), .unset, .unset, .unset, .unset, .unset] [(.int (own_h i0)), (.int (0 : Int32)), (.ref b328)])) rfl rfl (hb hby at_86)
      have V337 : Arv Z h337 b328 k328 .int (3 : Int32) [(.int (own_h i0)), (.int (0 : Int32)), (.int (0 : Int32))] (.int (0 : Int32)) := Arv.set Ar336 q336 S336 N336_ H336 G336 rfl W337 0 rfl (Nat.le_of_ble_eq_true rfl)
      have N337 := Fr.snoc X337 N335 gb328
      obtain ⟨cl338, Ar338, q338, S338, N338_, H338, G338⟩ := id V337
      have hin338 : ¬ ((1 : Int32) < 0 ∨ cl338.slots.size ≤ ((1 : Int32)).toNatClampNeg) := inb_of S338 ⟨by decide, by decide⟩
      obtain ⟨T339, h339, X339, e339, W339, st339⟩ := stI X337 hx hZ e337 Ar338 (j := (1 : Int32)) hin338 (g := (mkF m 92 #[.val (.long i0), .second, .val (.long i1), .second, .val (.long i2), .second, .val (.long i3), .second, .val (.int i4), .val (.int i5), .val (.long z101), .second, .val (.long z102), .second, .val (.ref b103), .val (.ref b105), .val (.ref b107), .val (.ref b328), .unset, .unset, .unset, .unset, .unset] [(.int i4), (.int (1 : Int32)), (.ref b328)])) rfl rfl (hb hby at_92)
      have V339 : Arv Z h339 b328 k328 .int (3 : Int32) [(.int (own_h i0)), (.int i4), (.int (0 : Int32))] (.int (0 : Int32)) := Arv.set Ar338 q338 S338 N338_ H338 G338 rfl W339 1 rfl (Nat.le_of_ble_eq_true rfl)
      have N339 := Fr.snoc X339 N337 gb328
      obtain ⟨cl340, Ar340, q340, S340, N340_, H340, G340⟩ := id V339
      have hin340 : ¬ ((0 : Int32) < 0 ∨ cl340.slots.size ≤ ((0 : Int32)).toNatClampNeg) := inb_of S340 ⟨by decide, by decide⟩
      have hat340 : cl340.slots[((0 : Int32)).toNatClampNeg]? = some (.int (own_h i0)) := H340.at hin340 rfl
      obtain ⟨cl341, Ar341, q341, S341, N341_, H341, G341⟩ := id V339
      have hin341 : ¬ ((2 : Int32) < 0 ∨ cl341.slots.size ≤ ((2 : Int32)).toNatClampNeg) := inb_of S341 ⟨by decide, by decide⟩
      obtain ⟨T342, h342, X342, e342, W342, st342⟩ := stI X339 hx hZ e339 Ar341 (j := (2 : Int32)) hin341 (g := (mkF m 103 #[.val (.long i0), .second, .val (.long i1), .second, .val (.long i2), .second, .val (.long i3), .second, .val (.int i4), .val (.int i5), .val (.long z101), .second, .val (.long z102), .second, .val (.ref b103), .val (.ref b105), .val (.ref b107), .val (.ref b328), .unset, .unset, .unset, .unset, .unset] [(.int (i4 ^^^ (own_h i0))), (.int (2 : Int32)), (.ref b328)])) rfl rfl (hb hby at_103)
      have V342 : Arv Z h342 b328 k328 .int (3 : Int32) [(.int (own_h i0)), (.int i4), (.int (i4 ^^^ (own_h i0)))] (.int (0 : Int32)) := Arv.set Ar341 q341 S341 N341_ H341 G341 rfl W342 2 rfl (Nat.le_of_ble_eq_true rfl)
      have N342 := Fr.snoc X342 N339 gb328
      have pre343 : ∀ t, Steps p.tables e below (T342.setTop (mkF m 108 #[.val (.long i0), .second, .val (.long i1), .second, .val (.long i2), .second, .val (.long i3), .second, .val (.int i4), .val (.int i5), .val (.long z101), .second, .val (.long z102), .second, .val (.ref b103), .val (.ref b105), .val (.ref b107), .val (.ref b328), .unset, .unset, .unset, .unset, .unset] [(.int (i5 &&& (3 : Int32)))])) t → Steps p.tables e below (s₁.setTop (entryFrame m #[(.long i0), (.long i1), (.long i2), (.long i3), (.int i4), (.int i5)] maxLocals)) t := fun t kt => pre326 t (by
          show Steps p.tables e below (T325.setTop (mkF m 73 #[.val (.long i0), .second, .val (.long i1), .second, .val (.long i2), .second, .val (.long i3), .second, .val (.int i4), .val (.int i5), .val (.long z101), .second, .val (.long z102), .second, .val (.ref b103), .val (.ref b105), .val (.ref b107), .unset, .unset, .unset, .unset, .unset, .unset] [])) _
          refine XS.iconst X325.here hx rfl (hb hby at_73) ?_
          show Steps p.tables e below (T325.setTop (mkF m 74 #[.val (.long i0), .second, .val (.long i1), .second, .val (.long i2), .second, .val (.long i3), .second, .val (.int i4), .val (.int i5), .val (.long z101), .second, .val (.long z102), .second, .val (.ref b103), .val (.ref b105), .val (.ref b107), .unset, .unset, .unset, .unset, .unset, .unset] [(.int (3 : Int32))])) _
          refine st328 _ ?_
          show Steps p.tables e below (T328.setTop (mkF m 76 #[.val (.long i0), .second, .val (.long i1), .second, .val (.long i2), .second, .val (.long i3), .second, .val (.int i4), .val (.int i5), .val (.long z101), .second, .val (.long z102), .second, .val (.ref b103), .val (.ref b105), .val (.ref b107), .unset, .unset, .unset, .unset, .unset, .unset] [(.ref b328)])) _
          refine XS.astore X328.here hx rfl (hb hby at_76) rfl rfl (l' := #[.val (.long i0), .second, .val (.long i1), .second, .val (.long i2), .second, .val (.long i3), .second, .val (.int i4), .val (.int i5), .val (.long z101), .second, .val (.long z102), .second, .val (.ref b103), .val (.ref b105), .val (.ref b107), .val (.ref b328), .unset, .unset, .unset, .unset, .unset]) rfl ?_
          show Steps p.tables e below (T328.setTop (mkF m 78 #[.val (.long i0), .second, .val (.long i1), .second, .val (.long i2), .second, .val (.long i3), .second, .val (.int i4), .val (.int i5), .val (.long z101), .second, .val (.long z102), .second, .val (.ref b103), .val (.ref b105), .val (.ref b107), .val (.ref b328), .unset, .unset, .unset, .unset, .unset] [])) _
          refine XS.aload X328.here hx rfl (hb hby at_78) rfl rfl ?_
          show Steps p.tables e below (T328.setTop (mkF m 80 #[.val (.long i0), .second, .val (.long i1), .second, .val (.long i2), .second, .val (.long i3), .second, .val (.int i4), .val (.int i5), .val (.long z101), .second, .val (.long z102), .second, .val (.ref b103), .val (.ref b105), .val (.ref b107), .val (.ref b328), .unset, .unset, .unset, .unset, .unset] [(.ref b328)])) _
          refine XS.iconst X328.here hx rfl (hb hby at_80) ?_
          show Steps p.tables e below (T328.setTop (mkF m 81 #[.val (.long i0), .second, .val (.long i1), .second, .val (.long i2), .second, .val (.long i3), .second, .val (.int i4), .val (.int i5), .val (.long z101), .second, .val (.long z102), .second, .val (.ref b103), .val (.ref b105), .val (.ref b107), .val (.ref b328), .unset, .unset, .unset, .unset, .unset] [(.int (0 : Int32)), (.ref b328)])) _
          refine XS.aload X328.here hx rfl (hb hby at_81) rfl rfl ?_
          show Steps p.tables e below (T328.setTop (mkF m 83 #[.val (.long i0), .second, .val (.long i1), .second, .val (.long i2), .second, .val (.long i3), .second, .val (.int i4), .val (.int i5), .val (.long z101), .second, .val (.long z102), .second, .val (.ref b103), .val (.ref b105), .val (.ref b107), .val (.ref b328), .unset, .unset, .unset, .unset, .unset] [(.ref b103), (.int (0 : Int32)), (.ref b328)])) _
          refine st335 _ ?_
          show Steps p.tables e below (T335.setTop (mkF m 86 #[.val (.long i0), .second, .val (.long i1), .second, .val (.long i2), .second, .val (.long i3), .second, .val (.int i4), .val (.int i5), .val (.long z101), .second, .val (.long z102), .second, .val (.ref b103), .val (.ref b105), .val (.ref b107), .val (.ref b328), .unset, .unset, .unset, .unset, .unset] [(.int (own_h i0)), (.int (0 : Int32)), (.ref b328)])) _
          refine st337 _ ?_
          show Steps p.tables e below (T337.setTop (mkF m 87 #[.val (.long i0), .second, .val (.long i1), .second, .val (.long i2), .second, .val (.long i3), .second, .val (.int i4), .val (.int i5), .val (.long z101), .second, .val (.long z102), .second, .val (.ref b103), .val (.ref b105), .val (.ref b107), .val (.ref b328), .unset, .unset, .unset, .unset, .unset] [])) _
          refine XS.aload X337.here hx rfl (hb hby at_87) rfl rfl ?_
          show Steps p.tables e below (T337.setTop (mkF m 89 #[.val (.long i0), .second, .val (.long i1), .second, .val (.long i2), .second, .val (.long i3), .second, .val (.int i4), .val (.int i5), .val (.long z101), .second, .val (.long z102), .second, .val (.ref b103), .val (.ref b105), .val (.ref b107), .val (.ref b328), .unset, .unset, .unset, .unset, .unset] [(.ref b328)])) _
          refine XS.iconst X337.here hx rfl (hb hby at_89) ?_
          show Steps p.tables e below (T337.setTop (mkF m 90 #[.val (.long i0), .second, .val (.long i1), .second, .val (.long i2), .second, .val (.long i3), .second, .val (.int i4), .val (.int i5), .val (.long z101), .second, .val (.long z102), .second, .val (.ref b103), .val (.ref b105), .val (.ref b107), .val (.ref b328), .unset, .unset, .unset, .unset, .unset] [(.int (1 : Int32)), (.ref b328)])) _
          refine XS.iload X337.here hx rfl (hb hby at_90) rfl ?_
          show Steps p.tables e below (T337.setTop (mkF m 92 #[.val (.long i0), .second, .val (.long i1), .second, .val (.long i2), .second, .val (.long i3), .second, .val (.int i4), .val (.int i5), .val (.long z101), .second, .val (.long z102), .second, .val (.ref b103), .val (.ref b105), .val (.ref b107), .val (.ref b328), .unset, .unset, .unset, .unset, .unset] [(.int i4), (.int (1 : Int32)), (.ref b328)])) _
          refine st339 _ ?_
          show Steps p.tables e below (T339.setTop (mkF m 93 #[.val (.long i0), .second, .val (.long i1), .second, .val (.long i2), .second, .val (.long i3), .second, .val (.int i4), .val (.int i5), .val (.long z101), .second, .val (.long z102), .second, .val (.ref b103), .val (.ref b105), .val (.ref b107), .val (.ref b328), .unset, .unset, .unset, .unset, .unset] [])) _
          refine XS.aload X339.here hx rfl (hb hby at_93) rfl rfl ?_
          show Steps p.tables e below (T339.setTop (mkF m 95 #[.val (.long i0), .second, .val (.long i1), .second, .val (.long i2), .second, .val (.long i3), .second, .val (.int i4), .val (.int i5), .val (.long z101), .second, .val (.long z102), .second, .val (.ref b103), .val (.ref b105), .val (.ref b107), .val (.ref b328), .unset, .unset, .unset, .unset, .unset] [(.ref b328)])) _
          refine XS.iconst X339.here hx rfl (hb hby at_95) ?_
          show Steps p.tables e below (T339.setTop (mkF m 96 #[.val (.long i0), .second, .val (.long i1), .second, .val (.long i2), .second, .val (.long i3), .second, .val (.int i4), .val (.int i5), .val (.long z101), .second, .val (.long z102), .second, .val (.ref b103), .val (.ref b105), .val (.ref b107), .val (.ref b328), .unset, .unset, .unset, .unset, .unset] [(.int (2 : Int32)), (.ref b328)])) _
          refine XS.iload X339.here hx rfl (hb hby at_96) rfl ?_
          show Steps p.tables e below (T339.setTop (mkF m 98 #[.val (.long i0), .second, .val (.long i1), .second, .val (.long i2), .second, .val (.long i3), .second, .val (.int i4), .val (.int i5), .val (.long z101), .second, .val (.long z102), .second, .val (.ref b103), .val (.ref b105), .val (.ref b107), .val (.ref b328), .unset, .unset, .unset, .unset, .unset] [(.int i4), (.int (2 : Int32)), (.ref b328)])) _
          refine XS.aload X339.here hx rfl (hb hby at_98) rfl rfl ?_
          show Steps p.tables e below (T339.setTop (mkF m 100 #[.val (.long i0), .second, .val (.long i1), .second, .val (.long i2), .second, .val (.long i3), .second, .val (.int i4), .val (.int i5), .val (.long z101), .second, .val (.long z102), .second, .val (.ref b103), .val (.ref b105), .val (.ref b107), .val (.ref b328), .unset, .unset, .unset, .unset, .unset] [(.ref b328), (.int i4), (.int (2 : Int32)), (.ref b328)])) _
          refine XS.iconst X339.here hx rfl (hb hby at_100) ?_
          show Steps p.tables e below (T339.setTop (mkF m 101 #[.val (.long i0), .second, .val (.long i1), .second, .val (.long i2), .second, .val (.long i3), .second, .val (.int i4), .val (.int i5), .val (.long z101), .second, .val (.long z102), .second, .val (.ref b103), .val (.ref b105), .val (.ref b107), .val (.ref b328), .unset, .unset, .unset, .unset, .unset] [(.int (0 : Int32)), (.ref b328), (.int i4), (.int (2 : Int32)), (.ref b328)])) _
          refine X339.iaload hx (j := (0 : Int32)) (v := (.int (own_h i0))) (by rw [e339]; exact Ar340.1) (State.isArrayOf_alike hZ.alike Ar340.2.1) Ar340.2.2 hin340 hat340 (g := (mkF m 101 #[.val (.long i0), .second, .val (.long i1), .second, .val (.long i2), .second, .val (.long i3), .second, .val (.int i4), .val (.int i5), .val (.long z101), .second, .val (.long z102), .second, .val (.ref b103), .val (.ref b105), .val (.ref b107), .val (.ref b328), .unset, .unset, .unset, .unset, .unset] [(.int (0 : Int32)), (.ref b328), (.int i4), (.int (2 : Int32)), (.ref b328)])) rfl rfl (hb hby at_101) _ ?_
          show Steps p.tables e below (T339.setTop (mkF m 102 #[.val (.long i0), .second, .val (.long i1), .second, .val (.long i2), .second, .val (.long i3), .second, .val (.int i4), .val (.int i5), .val (.long z101), .second, .val (.long z102), .second, .val (.ref b103), .val (.ref b105), .val (.ref b107), .val (.ref b328), .unset, .unset, .unset, .unset, .unset] [(.int (own_h i0)), (.int i4), (.int (2 : Int32)), (.ref b328)])) _
          refine XS.ixor X339.here hx rfl (hb hby at_102) rfl ?_
          show Steps p.tables e below (T339.setTop (mkF m 103 #[.val (.long i0), .second, .val (.long i1), .second, .val (.long i2), .second, .val (.long i3), .second, .val (.int i4), .val (.int i5), .val (.long z101), .second, .val (.long z102), .second, .val (.ref b103), .val (.ref b105), .val (.ref b107), .val (.ref b328), .unset, .unset, .unset, .unset, .unset] [(.int (i4 ^^^ (own_h i0))), (.int (2 : Int32)), (.ref b328)])) _
          refine st342 _ ?_
          show Steps p.tables e below (T342.setTop (mkF m 104 #[.val (.long i0), .second, .val (.long i1), .second, .val (.long i2), .second, .val (.long i3), .second, .val (.int i4), .val (.int i5), .val (.long z101), .second, .val (.long z102), .second, .val (.ref b103), .val (.ref b105), .val (.ref b107), .val (.ref b328), .unset, .unset, .unset, .unset, .unset] [])) _
          refine XS.iload X342.here hx rfl (hb hby at_104) rfl ?_
          show Steps p.tables e below (T342.setTop (mkF m 106 #[.val (.long i0), .second, .val (.long i1), .second, .val (.long i2), .second, .val (.long i3), .second, .val (.int i4), .val (.int i5), .val (.long z101), .second, .val (.long z102), .second, .val (.ref b103), .val (.ref b105), .val (.ref b107), .val (.ref b328), .unset, .unset, .unset, .unset, .unset] [(.int i5)])) _
          refine XS.iconst X342.here hx rfl (hb hby at_106) ?_
          show Steps p.tables e below (T342.setTop (mkF m 107 #[.val (.long i0), .second, .val (.long i1), .second, .val (.long i2), .second, .val (.long i3), .second, .val (.int i4), .val (.int i5), .val (.long z101), .second, .val (.long z102), .second, .val (.ref b103), .val (.ref b105), .val (.ref b107), .val (.ref b328), .unset, .unset, .unset, .unset, .unset] [(.int (3 : Int32)), (.int i5)])) _
          refine XS.iand X342.here hx rfl (hb hby at_107) rfl ?_
          exact kt)
      rcases own_k i5 with hk344 | hk344 | hk344 | hk344
      · skip
        have O345 : Old Z n0 h342 := (((O331.wr W337 gb328).wr W339 gb328).wr W342 gb328)
        have f346 := ((((Ex325.ext E328).wr W337).wr W339).wr W342)
        have f347 := ((((Fs325.ext E328).other W337 (Or.inl ne328_b107)).other W339 (Or.inl ne328_b107)).other W342 (Or.inl ne328_b107))
        have f348 := ((((Fo325.ext E328).other W337 (Or.inl ne328_b107)).other W339 (Or.inl ne328_b107)).other W342 (Or.inl ne328_b107))
        have f349 := ((((Fm325.ext E328).other W337 (Or.inl ne328_b107)).other W339 (Or.inl ne328_b107)).other W342 (Or.inl ne328_b107))
        have f350 := ((((Fz325.ext E328).other W337 (Or.inl ne328_b107)).other W339 (Or.inl ne328_b107)).other W342 (Or.inl ne328_b107))
        have f351 := ((((Lb325.ext E328).other W337 ne328_bt110).other W339 ne328_bt110).other W342 ne328_bt110)
        have f352 := ((((Fq325.ext E328).other W337 (Or.inl ne328_b107)).other W339 (Or.inl ne328_b107)).other W342 (Or.inl ne328_b107))
        obtain ⟨cq353, kq353, q353a, q353b, q353c⟩ := isOf hZ e342 f346
        obtain ⟨_, _, ⟨T353, L353, k353, n353⟩, -, X353, ⟨Lc353, hQ353, l353, y353, z353⟩, st353⟩ := X342.virtualBack hx (y := (⟨"com/example/keyfold/keyfold/KeyTable", "prefetch", "([II)V"⟩ : MethodName)) (z := (⟨"com/example/keyfold/keyfold/KeyTable", "prefetch", "([II)V"⟩ : MethodName)) hown (mvT hZ (hw _ (List.mem_of_getElem? (i := 73) rfl))) (mvT hZ (hw _ (List.mem_of_getElem? (i := 74) rfl))) (notFace_of_selects (args := #[]) (mvT hZ (hw _ (List.mem_of_getElem? (i := 76) rfl)))) (mvT hZ (hw _ (List.mem_of_getElem? (i := 76) rfl))) (mvT hZ (hw _ (List.mem_of_getElem? (i := 75) rfl))) (by decide) (backOf (W := 0) (rmPf0 l Z a0 hw [] b107 bt110 b328 k328 g325 (2 : Int32) (own_h i0) i4 (i4 ^^^ (own_h i0)) (0 : Int64) h342 n0 O345 f346 f347 f348 f349 f350 f351 f352 V342 net110 ne328_b107 gb107) hZ (hw _ (List.mem_of_getElem? (i := 77) rfl)) (hw _ (List.mem_of_getElem? (i := 18) rfl)) (by decide) (by decide)) q353a q353c (g := (mkF m 116 #[.val (.long i0), .second, .val (.long i1), .second, .val (.long i2), .second, .val (.long i3), .second, .val (.int i4), .val (.int i5), .val (.long z101), .second, .val (.long z102), .second, .val (.ref b103), .val (.ref b105), .val (.ref b107), .val (.ref b328), .val (.int (0 : Int32)), .unset, .unset, .unset, .unset] [(.int (0 : Int32)), (.ref b328), (.ref b107)])) rfl (by rw [hml]; rfl) (Steps.refl _) (argsL := [(.ref b328), (.int (0 : Int32))]) (rest := []) (lenOf pd_9 rfl) rfl (by show 2 * 0 + _ ≤ _; exact Nat.le_of_eq rfl) (hb hby at_116) (fun _ _ => ⟨rfl, e342, (by decide : 5 + 0 ≤ _), (by decide : 44 + 0 ≤ _)⟩)
        dsimp only [Pt.U, Pt.locs, Pt.cells, Pt.slots] at X353 l353 y353 z353 st353 hQ353
        subst l353 y353 z353
        obtain ⟨rfl, N353q, K353, p2353, Ex353, Fs353, Fo353, Fm353, Fz353, Lb353, Fq353⟩ := hQ353
        have N353 := Fr.app N342 N353q
        have O354 : Old Z n0 T353.heap := (O345.keep K353 (allS gb107 all0))
        have f355 := ((((f332.wr W337).wr W339).wr W342).keep K353)
        have f356 := ((((f333.other W337 (Or.inl ne328_b103)).other W339 (Or.inl ne328_b103)).other W342 (Or.inl ne328_b103)).keep K353 (ninS ne107_b103 nin0))
        have f357 := ((((f334.other W337 (Or.inl ne328_b103)).other W339 (Or.inl ne328_b103)).other W342 (Or.inl ne328_b103)).keep K353 (ninS ne107_b103 nin0))
        obtain ⟨cq358, kq358, q358a, q358b, q358c⟩ := isOf hZ rfl Ex353
        obtain ⟨_, _, ⟨T358, L358, k358, n358⟩, -, X358, ⟨Lc358, hQ358, l358, y358, z358⟩, st358⟩ := X353.virtualBack hx (y := (⟨"com/example/keyfold/keyfold/KeyTable", "get", "(Lcom/example/keyfold/keyfold/Key;)J"⟩ : MethodName)) (z := (⟨"com/example/keyfold/keyfold/KeyTable", "get", "(Lcom/example/keyfold/keyfold/Key;)J"⟩ : MethodName)) hown (mvT hZ (hw _ (List.mem_of_getElem? (i := 80) rfl))) (mvT hZ (hw _ (List.mem_of_getElem? (i := 81) rfl))) (notFace_of_selects (args := #[]) (mvT hZ (hw _ (List.mem_of_getElem? (i := 83) rfl)))) (mvT hZ (hw _ (List.mem_of_getElem? (i := 83) rfl))) (mvT hZ (hw _ (List.mem_of_getElem? (i := 82) rfl))) (by decide) (backOf (W := 0) (rmG l Z a0 hw [] b107 b103 bt110 g325 (2 : Int32) (own_s i0) i0 p2353 T353.heap n0 O354 Ex353 Fs353 Fo353 Fm353 Fz353 Lb353 Fq353 f355 f356 f357 hG1) hZ (hw _ (List.mem_of_getElem? (i := 84) rfl)) (hw _ (List.mem_of_getElem? (i := 18) rfl)) (by decide) (by decide)) q358a q358c (g := (mkF m 162 #[.val (.long i0), .second, .val (.long i1), .second, .val (.long i2), .second, .val (.long i3), .second, .val (.int i4), .val (.int i5), .val (.long z101), .second, .val (.long z102), .second, .val (.ref b103), .val (.ref b105), .val (.ref b107), .val (.ref b328), .val (.int (0 : Int32)), .val (.int (0 : Int32)), .val (.long z101), .second, .val (.int (2 : Int32))] [(.ref b103), (.ref b107)])) rfl (by rw [hml]; rfl) (Steps.refl _) (argsL := [(.ref b103)]) (rest := []) (lenOf pd_10 rfl) rfl (by show 2 * 0 + _ ≤ _; exact Nat.le_of_eq rfl) (hb hby at_162) (fun _ _ => ⟨rfl, rfl, (by decide : 5 + 0 ≤ _), (by decide : 44 + 0 ≤ _)⟩)
        dsimp only [Pt.U, Pt.locs, Pt.cells, Pt.slots] at X358 l358 y358 z358 st358 hQ358
        subst l358 y358 z358
        obtain ⟨rfl, N358q, hh358⟩ := hQ358
        have N358 := Fr.app N353 N358q
        have f359 := (((((f330.ext E328).wr W337).wr W339).wr W342).keep K353)
        have f360 := ((((((f323.keep K325 (ninS ne107_b105 (ninS ne110_b105 nin0))).ext E328).other W337 (Or.inl ne328_b105)).other W339 (Or.inl ne328_b105)).other W342 (Or.inl ne328_b105)).keep K353 (ninS ne107_b105 nin0))
        have f361 := ((((((f324.keep K325 (ninS ne107_b105 (ninS ne110_b105 nin0))).ext E328).other W337 (Or.inl ne328_b105)).other W339 (Or.inl ne328_b105)).other W342 (Or.inl ne328_b105)).keep K353 (ninS ne107_b105 nin0))
        obtain ⟨cq362, kq362, q362a, q362b, q362c⟩ := isOf hZ hh358 Ex353
        obtain ⟨_, _, ⟨T362, L362, k362, n362⟩, -, X362, ⟨Lc362, hQ362, l362, y362, z362⟩, st362⟩ := X358.virtualBack hx (y := (⟨"com/example/keyfold/keyfold/KeyTable", "get", "(Lcom/example/keyfold/keyfold/Key;)J"⟩ : MethodName)) (z := (⟨"com/example/keyfold/keyfold/KeyTable", "get", "(Lcom/example/keyfold/keyfold/Key;)J"⟩ : MethodName)) hown (mvT hZ (hw _ (List.mem_of_getElem? (i := 80) rfl))) (mvT hZ (hw _ (List.mem_of_getElem? (i := 81) rfl))) (notFace_of_selects (args := #[]) (mvT hZ (hw _ (List.mem_of_getElem? (i := 83) rfl)))) (mvT hZ (hw _ (List.mem_of_getElem? (i := 83) rfl))) (mvT hZ (hw _ (List.mem_of_getElem? (i := 82) rfl))) (by decide) (backOf (W := 0) (rmG l Z a0 hw [] b107 b105 bt110 g325 (2 : Int32) (own_s i1) i1 p2353 T353.heap n0 O354 Ex353 Fs353 Fo353 Fm353 Fz353 Lb353 Fq353 f359 f360 f361 hG2) hZ (hw _ (List.mem_of_getElem? (i := 84) rfl)) (hw _ (List.mem_of_getElem? (i := 18) rfl)) (by decide) (by decide)) q362a q362c (g := (mkF m 175 #[.val (.long i0), .second, .val (.long i1), .second, .val (.long i2), .second, .val (.long i3), .second, .val (.int i4), .val (.int i5), .val (.long z101), .second, .val (.long z102), .second, .val (.ref b103), .val (.ref b105), .val (.ref b107), .val (.ref b328), .val (.int (0 : Int32)), .val (.int (0 : Int32)), .val (.long z101), .second, .val (.int (2 : Int32))] [(.ref b105), (.ref b107)])) rfl (by rw [hml]; rfl) (Steps.refl _) (argsL := [(.ref b105)]) (rest := []) (lenOf pd_10 rfl) rfl (by show 2 * 0 + _ ≤ _; exact Nat.le_of_eq rfl) (hb hby at_175) (fun _ _ => ⟨rfl, hh358, (by decide : 5 + 0 ≤ _), (by decide : 44 + 0 ≤ _)⟩)
        dsimp only [Pt.U, Pt.locs, Pt.cells, Pt.slots] at X362 l362 y362 z362 st362 hQ362
        subst l362 y362 z362
        obtain ⟨rfl, N362q, hh362⟩ := hQ362
        have N362 := Fr.app N358 N362q
        obtain ⟨cq363, kq363, q363a, q363b, q363c⟩ := isOf hZ hh362 Ex353
        obtain ⟨_, _, ⟨T363, L363, k363, n363⟩, -, X363, ⟨Lc363, hQ363, l363, y363, z363⟩, st363⟩ := X362.virtualBack hx (y := (⟨"com/example/keyfold/keyfold/KeyTable", "size", "()I"⟩ : MethodName)) (z := (⟨"com/example/keyfold/keyfold/KeyTable", "size", "()I"⟩ : MethodName)) hown (mvT hZ (hw _ (List.mem_of_getElem? (i := 85) rfl))) (mvT hZ (hw _ (List.mem_of_getElem? (i := 86) rfl))) (notFace_of_selects (args := #[]) (mvT hZ (hw _ (List.mem_of_getElem? (i := 88) rfl)))) (mvT hZ (hw _ (List.mem_of_getElem? (i := 88) rfl))) (mvT hZ (hw _ (List.mem_of_getElem? (i := 87) rfl))) (by decide) (backOf (W := 0) (rmSz l Z a0 hw [] b107 (2 : Int32) T353.heap n0 O354 Fz353) hZ (hw _ (List.mem_of_getElem? (i := 89) rfl)) (hw _ (List.mem_of_getElem? (i := 18) rfl)) (by decide) (by decide)) q363a q363c (g := (mkF m 186 #[.val (.long i0), .second, .val (.long i1), .second, .val (.long i2), .second, .val (.long i3), .second, .val (.int i4), .val (.int i5), .val (.long z101), .second, .val (.long z102), .second, .val (.ref b103), .val (.ref b105), .val (.ref b107), .val (.ref b328), .val (.int (0 : Int32)), .val (.int (0 : Int32)), .val (.long z101), .second, .val (.int (2 : Int32))] [(.ref b107)])) rfl (by rw [hml]; rfl) (Steps.refl _) (argsL := []) (rest := []) (lenOf pd_11 rfl) rfl (by show 2 * 0 + _ ≤ _; exact Nat.le_of_eq rfl) (hb hby at_186) (fun _ _ => ⟨rfl, hh362, (by decide : 5 + 0 ≤ _), (by decide : 44 + 0 ≤ _)⟩)
        dsimp only [Pt.U, Pt.locs, Pt.cells, Pt.slots] at X363 l363 y363 z363 st363 hQ363
        subst l363 y363 z363
        obtain ⟨rfl, N363q, hh363⟩ := hQ363
        have N363 := Fr.app N362 N363q
        obtain ⟨fs, hr, hrun, hended, hW, hsame⟩ := X363.leave (v := some (.int (1 : Int32))) (fun h => by rw [Bd.returns] at h; cases h)
        refine ⟨_, _, pre343 _ ?_, hrun, hended, _, _, rfl, ?_, ⟨_, rfl⟩, hW, hsame.mono (by decide) (by decide)⟩
        · skip
          show Steps p.tables e below (T342.setTop (mkF m 108 #[.val (.long i0), .second, .val (.long i1), .second, .val (.long i2), .second, .val (.long i3), .second, .val (.int i4), .val (.int i5), .val (.long z101), .second, .val (.long z102), .second, .val (.ref b103), .val (.ref b105), .val (.ref b107), .val (.ref b328), .unset, .unset, .unset, .unset, .unset] [(.int (i5 &&& (3 : Int32)))])) _
          rw [hk344]
          show Steps p.tables e below (T342.setTop (mkF m 108 #[.val (.long i0), .second, .val (.long i1), .second, .val (.long i2), .second, .val (.long i3), .second, .val (.int i4), .val (.int i5), .val (.long z101), .second, .val (.long z102), .second, .val (.ref b103), .val (.ref b105), .val (.ref b107), .val (.ref b328), .unset, .unset, .unset, .unset, .unset] [(.int (0 : Int32))])) _
          refine XS.istore X342.here hx rfl (hb hby at_108) rfl (l' := #[.val (.long i0), .second, .val (.long i1), .second, .val (.long i2), .second, .val (.long i3), .second, .val (.int i4), .val (.int i5), .val (.long z101), .second, .val (.long z102), .second, .val (.ref b103), .val (.ref b105), .val (.ref b107), .val (.ref b328), .val (.int (0 : Int32)), .unset, .unset, .unset, .unset]) rfl ?_
          show Steps p.tables e below (T342.setTop (mkF m 110 #[.val (.long i0), .second, .val (.long i1), .second, .val (.long i2), .second, .val (.long i3), .second, .val (.int i4), .val (.int i5), .val (.long z101), .second, .val (.long z102), .second, .val (.ref b103), .val (.ref b105), .val (.ref b107), .val (.ref b328), .val (.int (0 : Int32)), .unset, .unset, .unset, .unset] [])) _
          refine XS.aload X342.here hx rfl (hb hby at_110) rfl rfl ?_
          show Steps p.tables e below (T342.setTop (mkF m 112 #[.val (.long i0), .second, .val (.long i1), .second, .val (.long i2), .second, .val (.long i3), .second, .val (.int i4), .val (.int i5), .val (.long z101), .second, .val (.long z102), .second, .val (.ref b103), .val (.ref b105), .val (.ref b107), .val (.ref b328), .val (.int (0 : Int32)), .unset, .unset, .unset, .unset] [(.ref b107)])) _
          refine XS.aload X342.here hx rfl (hb hby at_112) rfl rfl ?_
          show Steps p.tables e below (T342.setTop (mkF m 114 #[.val (.long i0), .second, .val (.long i1), .second, .val (.long i2), .second, .val (.long i3), .second, .val (.int i4), .val (.int i5), .val (.long z101), .second, .val (.long z102), .second, .val (.ref b103), .val (.ref b105), .val (.ref b107), .val (.ref b328), .val (.int (0 : Int32)), .unset, .unset, .unset, .unset] [(.ref b328), (.ref b107)])) _
          refine XS.iload X342.here hx rfl (hb hby at_114) rfl ?_
          show Steps p.tables e below (T342.setTop (mkF m 116 #[.val (.long i0), .second, .val (.long i1), .second, .val (.long i2), .second, .val (.long i3), .second, .val (.int i4), .val (.int i5), .val (.long z101), .second, .val (.long z102), .second, .val (.ref b103), .val (.ref b105), .val (.ref b107), .val (.ref b328), .val (.int (0 : Int32)), .unset, .unset, .unset, .unset] [(.int (0 : Int32)), (.ref b328), (.ref b107)])) _
          refine st353.trans ?_
          show Steps p.tables e below (T353.setTop (mkF m 119 #[.val (.long i0), .second, .val (.long i1), .second, .val (.long i2), .second, .val (.long i3), .second, .val (.int i4), .val (.int i5), .val (.long z101), .second, .val (.long z102), .second, .val (.ref b103), .val (.ref b105), .val (.ref b107), .val (.ref b328), .val (.int (0 : Int32)), .unset, .unset, .unset, .unset] [])) _
          refine XS.lloadN X353.here hx rfl (hb hby at_119) rfl ?_
          show Steps p.tables e below (T353.setTop (mkF m 120 #[.val (.long i0), .second, .val (.long i1), .second, .val (.long i2), .second, .val (.long i3), .second, .val (.int i4), .val (.int i5), .val (.long z101), .second, .val (.long z102), .second, .val (.ref b103), .val (.ref b105), .val (.ref b107), .val (.ref b328), .val (.int (0 : Int32)), .unset, .unset, .unset, .unset] [(.long i0)])) _
          refine XS.lloadN X353.here hx rfl (hb hby at_120) rfl ?_
          show Steps p.tables e below (T353.setTop (mkF m 121 #[.val (.long i0), .second, .val (.long i1), .second, .val (.long i2), .second, .val (.long i3), .second, .val (.int i4), .val (.int i5), .val (.long z101), .second, .val (.long z102), .second, .val (.ref b103), .val (.ref b105), .val (.ref b107), .val (.ref b328), .val (.int (0 : Int32)), .unset, .unset, .unset, .unset] [(.long i1), (.long i0)])) _
          refine XS.lcmp X353.here hx rfl (hb hby at_121) rfl ?_
          show Steps p.tables e below (T353.setTop (mkF m 122 #[.val (.long i0), .second, .val (.long i1), .second, .val (.long i2), .second, .val (.long i3), .second, .val (.int i4), .val (.int i5), .val (.long z101), .second, .val (.long z102), .second, .val (.ref b103), .val (.ref b105), .val (.ref b107), .val (.ref b328), .val (.int (0 : Int32)), .unset, .unset, .unset, .unset] [(.int (lcmpW i0 i1))])) _
          refine XS.ifYes X353.here hx rfl (pc0 := 122) (pc' := 129) rfl (hb hby at_122) rfl ((if0 _ _).trans (feq (mt (lw_eq _ _).mp hc119)).2) (by decide) (by decide) ?_
          show Steps p.tables e below (T353.setTop (mkF m 129 #[.val (.long i0), .second, .val (.long i1), .second, .val (.long i2), .second, .val (.long i3), .second, .val (.int i4), .val (.int i5), .val (.long z101), .second, .val (.long z102), .second, .val (.ref b103), .val (.ref b105), .val (.ref b107), .val (.ref b328), .val (.int (0 : Int32)), .unset, .unset, .unset, .unset] [])) _
          refine XS.iconst X353.here hx rfl (hb hby at_129) ?_
          show Steps p.tables e below (T353.setTop (mkF m 130 #[.val (.long i0), .second, .val (.long i1), .second, .val (.long i2), .second, .val (.long i3), .second, .val (.int i4), .val (.int i5), .val (.long z101), .second, .val (.long z102), .second, .val (.ref b103), .val (.ref b105), .val (.ref b107), .val (.ref b328), .val (.int (0 : Int32)), .unset, .unset, .unset, .unset] [(.int (0 : Int32))])) _
          refine XS.istore X353.here hx rfl (hb hby at_130) rfl (l' := #[.val (.long i0), .second, .val (.long i1), .second, .val (.long i2), .second, .val (.long i3), .second, .val (.int i4), .val (.int i5), .val (.long z101), .second, .val (.long z102), .second, .val (.ref b103), .val (.ref b105), .val (.ref b107), .val (.ref b328), .val (.int (0 : Int32)), .val (.int (0 : Int32)), .unset, .unset, .unset]) rfl ?_
          show Steps p.tables e below (T353.setTop (mkF m 132 #[.val (.long i0), .second, .val (.long i1), .second, .val (.long i2), .second, .val (.long i3), .second, .val (.int i4), .val (.int i5), .val (.long z101), .second, .val (.long z102), .second, .val (.ref b103), .val (.ref b105), .val (.ref b107), .val (.ref b328), .val (.int (0 : Int32)), .val (.int (0 : Int32)), .unset, .unset, .unset] [])) _
          refine XS.iload X353.here hx rfl (hb hby at_132) rfl ?_
          show Steps p.tables e below (T353.setTop (mkF m 134 #[.val (.long i0), .second, .val (.long i1), .second, .val (.long i2), .second, .val (.long i3), .second, .val (.int i4), .val (.int i5), .val (.long z101), .second, .val (.long z102), .second, .val (.ref b103), .val (.ref b105), .val (.ref b107), .val (.ref b328), .val (.int (0 : Int32)), .val (.int (0 : Int32)), .unset, .unset, .unset] [(.int (0 : Int32))])) _
          refine XS.ifYes X353.here hx rfl (pc0 := 134) (pc' := 142) rfl (hb hby at_134) rfl (by decide) (by decide) (by decide) ?_
          show Steps p.tables e below (T353.setTop (mkF m 142 #[.val (.long i0), .second, .val (.long i1), .second, .val (.long i2), .second, .val (.long i3), .second, .val (.int i4), .val (.int i5), .val (.long z101), .second, .val (.long z102), .second, .val (.ref b103), .val (.ref b105), .val (.ref b107), .val (.ref b328), .val (.int (0 : Int32)), .val (.int (0 : Int32)), .unset, .unset, .unset] [])) _
          refine XS.lload X353.here hx rfl (hb hby at_142) rfl ?_
          show Steps p.tables e below (T353.setTop (mkF m 144 #[.val (.long i0), .second, .val (.long i1), .second, .val (.long i2), .second, .val (.long i3), .second, .val (.int i4), .val (.int i5), .val (.long z101), .second, .val (.long z102), .second, .val (.ref b103), .val (.ref b105), .val (.ref b107), .val (.ref b328), .val (.int (0 : Int32)), .val (.int (0 : Int32)), .unset, .unset, .unset] [(.long z101)])) _
          refine XS.lstore X353.here hx rfl (hb hby at_144) rfl (l' := #[.val (.long i0), .second, .val (.long i1), .second, .val (.long i2), .second, .val (.long i3), .second, .val (.int i4), .val (.int i5), .val (.long z101), .second, .val (.long z102), .second, .val (.ref b103), .val (.ref b105), .val (.ref b107), .val (.ref b328), .val (.int (0 : Int32)), .val (.int (0 : Int32)), .val (.long z101), .second, .unset]) rfl ?_
          show Steps p.tables e below (T353.setTop (mkF m 146 #[.val (.long i0), .second, .val (.long i1), .second, .val (.long i2), .second, .val (.long i3), .second, .val (.int i4), .val (.int i5), .val (.long z101), .second, .val (.long z102), .second, .val (.ref b103), .val (.ref b105), .val (.ref b107), .val (.ref b328), .val (.int (0 : Int32)), .val (.int (0 : Int32)), .val (.long z101), .second, .unset] [])) _
          refine XS.iload X353.here hx rfl (hb hby at_146) rfl ?_
          show Steps p.tables e below (T353.setTop (mkF m 148 #[.val (.long i0), .second, .val (.long i1), .second, .val (.long i2), .second, .val (.long i3), .second, .val (.int i4), .val (.int i5), .val (.long z101), .second, .val (.long z102), .second, .val (.ref b103), .val (.ref b105), .val (.ref b107), .val (.ref b328), .val (.int (0 : Int32)), .val (.int (0 : Int32)), .val (.long z101), .second, .unset] [(.int (0 : Int32))])) _
          refine XS.ifYes X353.here hx rfl (pc0 := 148) (pc' := 155) rfl (hb hby at_148) rfl (by decide) (by decide) (by decide) ?_
          show Steps p.tables e below (T353.setTop (mkF m 155 #[.val (.long i0), .second, .val (.long i1), .second, .val (.long i2), .second, .val (.long i3), .second, .val (.int i4), .val (.int i5), .val (.long z101), .second, .val (.long z102), .second, .val (.ref b103), .val (.ref b105), .val (.ref b107), .val (.ref b328), .val (.int (0 : Int32)), .val (.int (0 : Int32)), .val (.long z101), .second, .unset] [])) _
          refine XS.iconst X353.here hx rfl (hb hby at_155) ?_
          show Steps p.tables e below (T353.setTop (mkF m 156 #[.val (.long i0), .second, .val (.long i1), .second, .val (.long i2), .second, .val (.long i3), .second, .val (.int i4), .val (.int i5), .val (.long z101), .second, .val (.long z102), .second, .val (.ref b103), .val (.ref b105), .val (.ref b107), .val (.ref b328), .val (.int (0 : Int32)), .val (.int (0 : Int32)), .val (.long z101), .second, .unset] [(.int (2 : Int32))])) _
          refine XS.istore X353.here hx rfl (hb hby at_156) rfl (l' := #[.val (.long i0), .second, .val (.long i1), .second, .val (.long i2), .second, .val (.long i3), .second, .val (.int i4), .val (.int i5), .val (.long z101), .second, .val (.long z102), .second, .val (.ref b103), .val (.ref b105), .val (.ref b107), .val (.ref b328), .val (.int (0 : Int32)), .val (.int (0 : Int32)), .val (.long z101), .second, .val (.int (2 : Int32))]) rfl ?_
          show Steps p.tables e below (T353.setTop (mkF m 158 #[.val (.long i0), .second, .val (.long i1), .second, .val (.long i2), .second, .val (.long i3), .second, .val (.int i4), .val (.int i5), .val (.long z101), .second, .val (.long z102), .second, .val (.ref b103), .val (.ref b105), .val (.ref b107), .val (.ref b328), .val (.int (0 : Int32)), .val (.int (0 : Int32)), .val (.long z101), .second, .val (.int (2 : Int32))] [])) _
          refine XS.aload X353.here hx rfl (hb hby at_158) rfl rfl ?_
          show Steps p.tables e below (T353.setTop (mkF m 160 #[.val (.long i0), .second, .val (.long i1), .second, .val (.long i2), .second, .val (.long i3), .second, .val (.int i4), .val (.int i5), .val (.long z101), .second, .val (.long z102), .second, .val (.ref b103), .val (.ref b105), .val (.ref b107), .val (.ref b328), .val (.int (0 : Int32)), .val (.int (0 : Int32)), .val (.long z101), .second, .val (.int (2 : Int32))] [(.ref b107)])) _
          refine XS.aload X353.here hx rfl (hb hby at_160) rfl rfl ?_
          show Steps p.tables e below (T353.setTop (mkF m 162 #[.val (.long i0), .second, .val (.long i1), .second, .val (.long i2), .second, .val (.long i3), .second, .val (.int i4), .val (.int i5), .val (.long z101), .second, .val (.long z102), .second, .val (.ref b103), .val (.ref b105), .val (.ref b107), .val (.ref b328), .val (.int (0 : Int32)), .val (.int (0 : Int32)), .val (.long z101), .second, .val (.int (2 : Int32))] [(.ref b103), (.ref b107)])) _
          refine st358.trans ?_
          show Steps p.tables e below (T358.setTop (mkF m 165 #[.val (.long i0), .second, .val (.long i1), .second, .val (.long i2), .second, .val (.long i3), .second, .val (.int i4), .val (.int i5), .val (.long z101), .second, .val (.long z102), .second, .val (.ref b103), .val (.ref b105), .val (.ref b107), .val (.ref b328), .val (.int (0 : Int32)), .val (.int (0 : Int32)), .val (.long z101), .second, .val (.int (2 : Int32))] [(.long (g325 (((2 : Int32) * (own_s i0)) + (1 : Int32))))])) _
          refine XS.lload X358.here hx rfl (hb hby at_165) rfl ?_
          show Steps p.tables e below (T358.setTop (mkF m 167 #[.val (.long i0), .second, .val (.long i1), .second, .val (.long i2), .second, .val (.long i3), .second, .val (.int i4), .val (.int i5), .val (.long z101), .second, .val (.long z102), .second, .val (.ref b103), .val (.ref b105), .val (.ref b107), .val (.ref b328), .val (.int (0 : Int32)), .val (.int (0 : Int32)), .val (.long z101), .second, .val (.int (2 : Int32))] [(.long z101), (.long (g325 (((2 : Int32) * (own_s i0)) + (1 : Int32))))])) _
          refine XS.lcmp X358.here hx rfl (hb hby at_167) rfl ?_
          show Steps p.tables e below (T358.setTop (mkF m 168 #[.val (.long i0), .second, .val (.long i1), .second, .val (.long i2), .second, .val (.long i3), .second, .val (.int i4), .val (.int i5), .val (.long z101), .second, .val (.long z102), .second, .val (.ref b103), .val (.ref b105), .val (.ref b107), .val (.ref b328), .val (.int (0 : Int32)), .val (.int (0 : Int32)), .val (.long z101), .second, .val (.int (2 : Int32))] [(.int (lcmpW (g325 (((2 : Int32) * (own_s i0)) + (1 : Int32))) z101))])) _
          refine XS.ifNo X358.here hx rfl (hb hby at_168) rfl ((if0 _ _).trans (teq ((lw_eq _ _).mpr qa)).2) ?_
          show Steps p.tables e below (T358.setTop (mkF m 171 #[.val (.long i0), .second, .val (.long i1), .second, .val (.long i2), .second, .val (.long i3), .second, .val (.int i4), .val (.int i5), .val (.long z101), .second, .val (.long z102), .second, .val (.ref b103), .val (.ref b105), .val (.ref b107), .val (.ref b328), .val (.int (0 : Int32)), .val (.int (0 : Int32)), .val (.long z101), .second, .val (.int (2 : Int32))] [])) _
          refine XS.aload X358.here hx rfl (hb hby at_171) rfl rfl ?_
          show Steps p.tables e below (T358.setTop (mkF m 173 #[.val (.long i0), .second, .val (.long i1), .second, .val (.long i2), .second, .val (.long i3), .second, .val (.int i4), .val (.int i5), .val (.long z101), .second, .val (.long z102), .second, .val (.ref b103), .val (.ref b105), .val (.ref b107), .val (.ref b328), .val (.int (0 : Int32)), .val (.int (0 : Int32)), .val (.long z101), .second, .val (.int (2 : Int32))] [(.ref b107)])) _
          refine XS.aload X358.here hx rfl (hb hby at_173) rfl rfl ?_
          show Steps p.tables e below (T358.setTop (mkF m 175 #[.val (.long i0), .second, .val (.long i1), .second, .val (.long i2), .second, .val (.long i3), .second, .val (.int i4), .val (.int i5), .val (.long z101), .second, .val (.long z102), .second, .val (.ref b103), .val (.ref b105), .val (.ref b107), .val (.ref b328), .val (.int (0 : Int32)), .val (.int (0 : Int32)), .val (.long z101), .second, .val (.int (2 : Int32))] [(.ref b105), (.ref b107)])) _
          refine st362.trans ?_
          show Steps p.tables e below (T362.setTop (mkF m 178 #[.val (.long i0), .second, .val (.long i1), .second, .val (.long i2), .second, .val (.long i3), .second, .val (.int i4), .val (.int i5), .val (.long z101), .second, .val (.long z102), .second, .val (.ref b103), .val (.ref b105), .val (.ref b107), .val (.ref b328), .val (.int (0 : Int32)), .val (.int (0 : Int32)), .val (.long z101), .second, .val (.int (2 : Int32))] [(.long (g325 (((2 : Int32) * (own_s i1)) + (1 : Int32))))])) _
          refine XS.lload X362.here hx rfl (hb hby at_178) rfl ?_
          show Steps p.tables e below (T362.setTop (mkF m 180 #[.val (.long i0), .second, .val (.long i1), .second, .val (.long i2), .second, .val (.long i3), .second, .val (.int i4), .val (.int i5), .val (.long z101), .second, .val (.long z102), .second, .val (.ref b103), .val (.ref b105), .val (.ref b107), .val (.ref b328), .val (.int (0 : Int32)), .val (.int (0 : Int32)), .val (.long z101), .second, .val (.int (2 : Int32))] [(.long z102), (.long (g325 (((2 : Int32) * (own_s i1)) + (1 : Int32))))])) _
          refine XS.lcmp X362.here hx rfl (hb hby at_180) rfl ?_
          show Steps p.tables e below (T362.setTop (mkF m 181 #[.val (.long i0), .second, .val (.long i1), .second, .val (.long i2), .second, .val (.long i3), .second, .val (.int i4), .val (.int i5), .val (.long z101), .second, .val (.long z102), .second, .val (.ref b103), .val (.ref b105), .val (.ref b107), .val (.ref b328), .val (.int (0 : Int32)), .val (.int (0 : Int32)), .val (.long z101), .second, .val (.int (2 : Int32))] [(.int (lcmpW (g325 (((2 : Int32) * (own_s i1)) + (1 : Int32))) z102))])) _
          refine XS.ifNo X362.here hx rfl (hb hby at_181) rfl ((if0 _ _).trans (teq ((lw_eq _ _).mpr qb)).2) ?_
          show Steps p.tables e below (T362.setTop (mkF m 184 #[.val (.long i0), .second, .val (.long i1), .second, .val (.long i2), .second, .val (.long i3), .second, .val (.int i4), .val (.int i5), .val (.long z101), .second, .val (.long z102), .second, .val (.ref b103), .val (.ref b105), .val (.ref b107), .val (.ref b328), .val (.int (0 : Int32)), .val (.int (0 : Int32)), .val (.long z101), .second, .val (.int (2 : Int32))] [])) _
          refine XS.aload X362.here hx rfl (hb hby at_184) rfl rfl ?_
          show Steps p.tables e below (T362.setTop (mkF m 186 #[.val (.long i0), .second, .val (.long i1), .second, .val (.long i2), .second, .val (.long i3), .second, .val (.int i4), .val (.int i5), .val (.long z101), .second, .val (.long z102), .second, .val (.ref b103), .val (.ref b105), .val (.ref b107), .val (.ref b328), .val (.int (0 : Int32)), .val (.int (0 : Int32)), .val (.long z101), .second, .val (.int (2 : Int32))] [(.ref b107)])) _
          refine st363.trans ?_
          show Steps p.tables e below (T363.setTop (mkF m 189 #[.val (.long i0), .second, .val (.long i1), .second, .val (.long i2), .second, .val (.long i3), .second, .val (.int i4), .val (.int i5), .val (.long z101), .second, .val (.long z102), .second, .val (.ref b103), .val (.ref b105), .val (.ref b107), .val (.ref b328), .val (.int (0 : Int32)), .val (.int (0 : Int32)), .val (.long z101), .second, .val (.int (2 : Int32))] [(.int (2 : Int32))])) _
          refine XS.iload X363.here hx rfl (hb hby at_189) rfl ?_
          show Steps p.tables e below (T363.setTop (mkF m 191 #[.val (.long i0), .second, .val (.long i1), .second, .val (.long i2), .second, .val (.long i3), .second, .val (.int i4), .val (.int i5), .val (.long z101), .second, .val (.long z102), .second, .val (.ref b103), .val (.ref b105), .val (.ref b107), .val (.ref b328), .val (.int (0 : Int32)), .val (.int (0 : Int32)), .val (.long z101), .second, .val (.int (2 : Int32))] [(.int (2 : Int32)), (.int (2 : Int32))])) _
          refine XS.icmpNo X363.here hx rfl (hb hby at_191) rfl (by decide) ?_
          show Steps p.tables e below (T363.setTop (mkF m 194 #[.val (.long i0), .second, .val (.long i1), .second, .val (.long i2), .second, .val (.long i3), .second, .val (.int i4), .val (.int i5), .val (.long z101), .second, .val (.long z102), .second, .val (.ref b103), .val (.ref b105), .val (.ref b107), .val (.ref b328), .val (.int (0 : Int32)), .val (.int (0 : Int32)), .val (.long z101), .second, .val (.int (2 : Int32))] [])) _
          refine XS.iconst X363.here hx rfl (hb hby at_194) ?_
          show Steps p.tables e below (T363.setTop (mkF m 195 #[.val (.long i0), .second, .val (.long i1), .second, .val (.long i2), .second, .val (.long i3), .second, .val (.int i4), .val (.int i5), .val (.long z101), .second, .val (.long z102), .second, .val (.ref b103), .val (.ref b105), .val (.ref b107), .val (.ref b328), .val (.int (0 : Int32)), .val (.int (0 : Int32)), .val (.long z101), .second, .val (.int (2 : Int32))] [(.int (1 : Int32))])) _
          refine XS.goto X363.here hx rfl (pc0 := 195) (pc' := 199) rfl (hb hby at_195) (by decide) (by decide) ?_
          show Steps p.tables e below (T363.setTop (mkF m 199 #[.val (.long i0), .second, .val (.long i1), .second, .val (.long i2), .second, .val (.long i3), .second, .val (.int i4), .val (.int i5), .val (.long z101), .second, .val (.long z102), .second, .val (.ref b103), .val (.ref b105), .val (.ref b107), .val (.ref b328), .val (.int (0 : Int32)), .val (.int (0 : Int32)), .val (.long z101), .second, .val (.int (2 : Int32))] [(.int (1 : Int32))])) _
          exact retN X363 hx (t := .boolean) Bd.returns (by simp) (hb hby at_199) hr
        · show QL n0 _ T363.heap _
          rw [hh363]
          exact ⟨rfl, N363⟩
      · skip
        have O364 : Old Z n0 h342 := (((O331.wr W337 gb328).wr W339 gb328).wr W342 gb328)
        have f365 := ((((Ex325.ext E328).wr W337).wr W339).wr W342)
        have f366 := ((((Fs325.ext E328).other W337 (Or.inl ne328_b107)).other W339 (Or.inl ne328_b107)).other W342 (Or.inl ne328_b107))
        have f367 := ((((Fo325.ext E328).other W337 (Or.inl ne328_b107)).other W339 (Or.inl ne328_b107)).other W342 (Or.inl ne328_b107))
        have f368 := ((((Fm325.ext E328).other W337 (Or.inl ne328_b107)).other W339 (Or.inl ne328_b107)).other W342 (Or.inl ne328_b107))
        have f369 := ((((Fz325.ext E328).other W337 (Or.inl ne328_b107)).other W339 (Or.inl ne328_b107)).other W342 (Or.inl ne328_b107))
        have f370 := ((((Lb325.ext E328).other W337 ne328_bt110).other W339 ne328_bt110).other W342 ne328_bt110)
        have f371 := ((((Fq325.ext E328).other W337 (Or.inl ne328_b107)).other W339 (Or.inl ne328_b107)).other W342 (Or.inl ne328_b107))
        obtain ⟨cq372, kq372, q372a, q372b, q372c⟩ := isOf hZ e342 f365
        obtain ⟨_, _, ⟨T372, L372, k372, n372⟩, -, X372, ⟨Lc372, hQ372, l372, y372, z372⟩, st372⟩ := X342.virtualBack hx (y := (⟨"com/example/keyfold/keyfold/KeyTable", "prefetch", "([II)V"⟩ : MethodName)) (z := (⟨"com/example/keyfold/keyfold/KeyTable", "prefetch", "([II)V"⟩ : MethodName)) hown (mvT hZ (hw _ (List.mem_of_getElem? (i := 73) rfl))) (mvT hZ (hw _ (List.mem_of_getElem? (i := 74) rfl))) (notFace_of_selects (args := #[]) (mvT hZ (hw _ (List.mem_of_getElem? (i := 76) rfl)))) (mvT hZ (hw _ (List.mem_of_getElem? (i := 76) rfl))) (mvT hZ (hw _ (List.mem_of_getElem? (i := 75) rfl))) (by decide) (backOf (W := 0) (rmPf1 l Z a0 hw [] b107 bt110 b328 k328 g325 (2 : Int32) (own_h i0) i4 (i4 ^^^ (own_h i0)) (0 : Int64) h342 n0 O364 f365 f366 f367 f368 f369 f370 f371 V342 net110 ne328_b107 gb107) hZ (hw _ (List.mem_of_getElem? (i := 77) rfl)) (hw _ (List.mem_of_getElem? (i := 18) rfl)) (by decide) (by decide)) q372a q372c (g := (mkF m 116 #[.val (.long i0), .second, .val (.long i1), .second, .val (.long i2), .second, .val (.long i3), .second, .val (.int i4), .val (.int i5), .val (.long z101), .second, .val (.long z102), .second, .val (.ref b103), .val (.ref b105), .val (.ref b107), .val (.ref b328), .val (.int (1 : Int32)), .unset, .unset, .unset, .unset] [(.int (1 : Int32)), (.ref b328), (.ref b107)])) rfl (by rw [hml]; rfl) (Steps.refl _) (argsL := [(.ref b328), (.int (1 : Int32))]) (rest := []) (lenOf pd_9 rfl) rfl (by show 2 * 0 + _ ≤ _; exact Nat.le_of_eq rfl) (hb hby at_116) (fun _ _ => ⟨rfl, e342, (by decide : 5 + 0 ≤ _), (by decide : 44 + 0 ≤ _)⟩)
        dsimp only [Pt.U, Pt.locs, Pt.cells, Pt.slots] at X372 l372 y372 z372 st372 hQ372
        subst l372 y372 z372
        obtain ⟨rfl, N372q, K372, p2372, Ex372, Fs372, Fo372, Fm372, Fz372, Lb372, Fq372⟩ := hQ372
        have N372 := Fr.app N342 N372q
        have O373 : Old Z n0 T372.heap := (O364.keep K372 (allS gb107 all0))
        have f374 := ((((f332.wr W337).wr W339).wr W342).keep K372)
        have f375 := ((((f333.other W337 (Or.inl ne328_b103)).other W339 (Or.inl ne328_b103)).other W342 (Or.inl ne328_b103)).keep K372 (ninS ne107_b103 nin0))
        have f376 := ((((f334.other W337 (Or.inl ne328_b103)).other W339 (Or.inl ne328_b103)).other W342 (Or.inl ne328_b103)).keep K372 (ninS ne107_b103 nin0))
        obtain ⟨cq377, kq377, q377a, q377b, q377c⟩ := isOf hZ rfl Ex372
        obtain ⟨_, _, ⟨T377, L377, k377, n377⟩, -, X377, ⟨Lc377, hQ377, l377, y377, z377⟩, st377⟩ := X372.virtualBack hx (y := (⟨"com/example/keyfold/keyfold/KeyTable", "get", "(Lcom/example/keyfold/keyfold/Key;)J"⟩ : MethodName)) (z := (⟨"com/example/keyfold/keyfold/KeyTable", "get", "(Lcom/example/keyfold/keyfold/Key;)J"⟩ : MethodName)) hown (mvT hZ (hw _ (List.mem_of_getElem? (i := 80) rfl))) (mvT hZ (hw _ (List.mem_of_getElem? (i := 81) rfl))) (notFace_of_selects (args := #[]) (mvT hZ (hw _ (List.mem_of_getElem? (i := 83) rfl)))) (mvT hZ (hw _ (List.mem_of_getElem? (i := 83) rfl))) (mvT hZ (hw _ (List.mem_of_getElem? (i := 82) rfl))) (by decide) (backOf (W := 0) (rmG l Z a0 hw [] b107 b103 bt110 g325 (2 : Int32) (own_s i0) i0 p2372 T372.heap n0 O373 Ex372 Fs372 Fo372 Fm372 Fz372 Lb372 Fq372 f374 f375 f376 hG1) hZ (hw _ (List.mem_of_getElem? (i := 84) rfl)) (hw _ (List.mem_of_getElem? (i := 18) rfl)) (by decide) (by decide)) q377a q377c (g := (mkF m 162 #[.val (.long i0), .second, .val (.long i1), .second, .val (.long i2), .second, .val (.long i3), .second, .val (.int i4), .val (.int i5), .val (.long z101), .second, .val (.long z102), .second, .val (.ref b103), .val (.ref b105), .val (.ref b107), .val (.ref b328), .val (.int (1 : Int32)), .val (.int (0 : Int32)), .val (.long z101), .second, .val (.int (2 : Int32))] [(.ref b103), (.ref b107)])) rfl (by rw [hml]; rfl) (Steps.refl _) (argsL := [(.ref b103)]) (rest := []) (lenOf pd_10 rfl) rfl (by show 2 * 0 + _ ≤ _; exact Nat.le_of_eq rfl) (hb hby at_162) (fun _ _ => ⟨rfl, rfl, (by decide : 5 + 0 ≤ _), (by decide : 44 + 0 ≤ _)⟩)
        dsimp only [Pt.U, Pt.locs, Pt.cells, Pt.slots] at X377 l377 y377 z377 st377 hQ377
        subst l377 y377 z377
        obtain ⟨rfl, N377q, hh377⟩ := hQ377
        have N377 := Fr.app N372 N377q
        have f378 := (((((f330.ext E328).wr W337).wr W339).wr W342).keep K372)
        have f379 := ((((((f323.keep K325 (ninS ne107_b105 (ninS ne110_b105 nin0))).ext E328).other W337 (Or.inl ne328_b105)).other W339 (Or.inl ne328_b105)).other W342 (Or.inl ne328_b105)).keep K372 (ninS ne107_b105 nin0))
        have f380 := ((((((f324.keep K325 (ninS ne107_b105 (ninS ne110_b105 nin0))).ext E328).other W337 (Or.inl ne328_b105)).other W339 (Or.inl ne328_b105)).other W342 (Or.inl ne328_b105)).keep K372 (ninS ne107_b105 nin0))
        obtain ⟨cq381, kq381, q381a, q381b, q381c⟩ := isOf hZ hh377 Ex372
        obtain ⟨_, _, ⟨T381, L381, k381, n381⟩, -, X381, ⟨Lc381, hQ381, l381, y381, z381⟩, st381⟩ := X377.virtualBack hx (y := (⟨"com/example/keyfold/keyfold/KeyTable", "get", "(Lcom/example/keyfold/keyfold/Key;)J"⟩ : MethodName)) (z := (⟨"com/example/keyfold/keyfold/KeyTable", "get", "(Lcom/example/keyfold/keyfold/Key;)J"⟩ : MethodName)) hown (mvT hZ (hw _ (List.mem_of_getElem? (i := 80) rfl))) (mvT hZ (hw _ (List.mem_of_getElem? (i := 81) rfl))) (notFace_of_selects (args := #[]) (mvT hZ (hw _ (List.mem_of_getElem? (i := 83) rfl)))) (mvT hZ (hw _ (List.mem_of_getElem? (i := 83) rfl))) (mvT hZ (hw _ (List.mem_of_getElem? (i := 82) rfl))) (by decide) (backOf (W := 0) (rmG l Z a0 hw [] b107 b105 bt110 g325 (2 : Int32) (own_s i1) i1 p2372 T372.heap n0 O373 Ex372 Fs372 Fo372 Fm372 Fz372 Lb372 Fq372 f378 f379 f380 hG2) hZ (hw _ (List.mem_of_getElem? (i := 84) rfl)) (hw _ (List.mem_of_getElem? (i := 18) rfl)) (by decide) (by decide)) q381a q381c (g := (mkF m 175 #[.val (.long i0), .second, .val (.long i1), .second, .val (.long i2), .second, .val (.long i3), .second, .val (.int i4), .val (.int i5), .val (.long z101), .second, .val (.long z102), .second, .val (.ref b103), .val (.ref b105), .val (.ref b107), .val (.ref b328), .val (.int (1 : Int32)), .val (.int (0 : Int32)), .val (.long z101), .second, .val (.int (2 : Int32))] [(.ref b105), (.ref b107)])) rfl (by rw [hml]; rfl) (Steps.refl _) (argsL := [(.ref b105)]) (rest := []) (lenOf pd_10 rfl) rfl (by show 2 * 0 + _ ≤ _; exact Nat.le_of_eq rfl) (hb hby at_175) (fun _ _ => ⟨rfl, hh377, (by decide : 5 + 0 ≤ _), (by decide : 44 + 0 ≤ _)⟩)
        dsimp only [Pt.U, Pt.locs, Pt.cells, Pt.slots] at X381 l381 y381 z381 st381 hQ381
        subst l381 y381 z381
        obtain ⟨rfl, N381q, hh381⟩ := hQ381
        have N381 := Fr.app N377 N381q
        obtain ⟨cq382, kq382, q382a, q382b, q382c⟩ := isOf hZ hh381 Ex372
        obtain ⟨_, _, ⟨T382, L382, k382, n382⟩, -, X382, ⟨Lc382, hQ382, l382, y382, z382⟩, st382⟩ := X381.virtualBack hx (y := (⟨"com/example/keyfold/keyfold/KeyTable", "size", "()I"⟩ : MethodName)) (z := (⟨"com/example/keyfold/keyfold/KeyTable", "size", "()I"⟩ : MethodName)) hown (mvT hZ (hw _ (List.mem_of_getElem? (i := 85) rfl))) (mvT hZ (hw _ (List.mem_of_getElem? (i := 86) rfl))) (notFace_of_selects (args := #[]) (mvT hZ (hw _ (List.mem_of_getElem? (i := 88) rfl)))) (mvT hZ (hw _ (List.mem_of_getElem? (i := 88) rfl))) (mvT hZ (hw _ (List.mem_of_getElem? (i := 87) rfl))) (by decide) (backOf (W := 0) (rmSz l Z a0 hw [] b107 (2 : Int32) T372.heap n0 O373 Fz372) hZ (hw _ (List.mem_of_getElem? (i := 89) rfl)) (hw _ (List.mem_of_getElem? (i := 18) rfl)) (by decide) (by decide)) q382a q382c (g := (mkF m 186 #[.val (.long i0), .second, .val (.long i1), .second, .val (.long i2), .second, .val (.long i3), .second, .val (.int i4), .val (.int i5), .val (.long z101), .second, .val (.long z102), .second, .val (.ref b103), .val (.ref b105), .val (.ref b107), .val (.ref b328), .val (.int (1 : Int32)), .val (.int (0 : Int32)), .val (.long z101), .second, .val (.int (2 : Int32))] [(.ref b107)])) rfl (by rw [hml]; rfl) (Steps.refl _) (argsL := []) (rest := []) (lenOf pd_11 rfl) rfl (by show 2 * 0 + _ ≤ _; exact Nat.le_of_eq rfl) (hb hby at_186) (fun _ _ => ⟨rfl, hh381, (by decide : 5 + 0 ≤ _), (by decide : 44 + 0 ≤ _)⟩)
        dsimp only [Pt.U, Pt.locs, Pt.cells, Pt.slots] at X382 l382 y382 z382 st382 hQ382
        subst l382 y382 z382
        obtain ⟨rfl, N382q, hh382⟩ := hQ382
        have N382 := Fr.app N381 N382q
        obtain ⟨fs, hr, hrun, hended, hW, hsame⟩ := X382.leave (v := some (.int (1 : Int32))) (fun h => by rw [Bd.returns] at h; cases h)
        refine ⟨_, _, pre343 _ ?_, hrun, hended, _, _, rfl, ?_, ⟨_, rfl⟩, hW, hsame.mono (by decide) (by decide)⟩
        · skip
          show Steps p.tables e below (T342.setTop (mkF m 108 #[.val (.long i0), .second, .val (.long i1), .second, .val (.long i2), .second, .val (.long i3), .second, .val (.int i4), .val (.int i5), .val (.long z101), .second, .val (.long z102), .second, .val (.ref b103), .val (.ref b105), .val (.ref b107), .val (.ref b328), .unset, .unset, .unset, .unset, .unset] [(.int (i5 &&& (3 : Int32)))])) _
          rw [hk344]
          show Steps p.tables e below (T342.setTop (mkF m 108 #[.val (.long i0), .second, .val (.long i1), .second, .val (.long i2), .second, .val (.long i3), .second, .val (.int i4), .val (.int i5), .val (.long z101), .second, .val (.long z102), .second, .val (.ref b103), .val (.ref b105), .val (.ref b107), .val (.ref b328), .unset, .unset, .unset, .unset, .unset] [(.int (1 : Int32))])) _
          refine XS.istore X342.here hx rfl (hb hby at_108) rfl (l' := #[.val (.long i0), .second, .val (.long i1), .second, .val (.long i2), .second, .val (.long i3), .second, .val (.int i4), .val (.int i5), .val (.long z101), .second, .val (.long z102), .second, .val (.ref b103), .val (.ref b105), .val (.ref b107), .val (.ref b328), .val (.int (1 : Int32)), .unset, .unset, .unset, .unset]) rfl ?_
          show Steps p.tables e below (T342.setTop (mkF m 110 #[.val (.long i0), .second, .val (.long i1), .second, .val (.long i2), .second, .val (.long i3), .second, .val (.int i4), .val (.int i5), .val (.long z101), .second, .val (.long z102), .second, .val (.ref b103), .val (.ref b105), .val (.ref b107), .val (.ref b328), .val (.int (1 : Int32)), .unset, .unset, .unset, .unset] [])) _
          refine XS.aload X342.here hx rfl (hb hby at_110) rfl rfl ?_
          show Steps p.tables e below (T342.setTop (mkF m 112 #[.val (.long i0), .second, .val (.long i1), .second, .val (.long i2), .second, .val (.long i3), .second, .val (.int i4), .val (.int i5), .val (.long z101), .second, .val (.long z102), .second, .val (.ref b103), .val (.ref b105), .val (.ref b107), .val (.ref b328), .val (.int (1 : Int32)), .unset, .unset, .unset, .unset] [(.ref b107)])) _
          refine XS.aload X342.here hx rfl (hb hby at_112) rfl rfl ?_
          show Steps p.tables e below (T342.setTop (mkF m 114 #[.val (.long i0), .second, .val (.long i1), .second, .val (.long i2), .second, .val (.long i3), .second, .val (.int i4), .val (.int i5), .val (.long z101), .second, .val (.long z102), .second, .val (.ref b103), .val (.ref b105), .val (.ref b107), .val (.ref b328), .val (.int (1 : Int32)), .unset, .unset, .unset, .unset] [(.ref b328), (.ref b107)])) _
          refine XS.iload X342.here hx rfl (hb hby at_114) rfl ?_
          show Steps p.tables e below (T342.setTop (mkF m 116 #[.val (.long i0), .second, .val (.long i1), .second, .val (.long i2), .second, .val (.long i3), .second, .val (.int i4), .val (.int i5), .val (.long z101), .second, .val (.long z102), .second, .val (.ref b103), .val (.ref b105), .val (.ref b107), .val (.ref b328), .val (.int (1 : Int32)), .unset, .unset, .unset, .unset] [(.int (1 : Int32)), (.ref b328), (.ref b107)])) _
          refine st372.trans ?_
          show Steps p.tables e below (T372.setTop (mkF m 119 #[.val (.long i0), .second, .val (.long i1), .second, .val (.long i2), .second, .val (.long i3), .second, .val (.int i4), .val (.int i5), .val (.long z101), .second, .val (.long z102), .second, .val (.ref b103), .val (.ref b105), .val (.ref b107), .val (.ref b328), .val (.int (1 : Int32)), .unset, .unset, .unset, .unset] [])) _
          refine XS.lloadN X372.here hx rfl (hb hby at_119) rfl ?_
          show Steps p.tables e below (T372.setTop (mkF m 120 #[.val (.long i0), .second, .val (.long i1), .second, .val (.long i2), .second, .val (.long i3), .second, .val (.int i4), .val (.int i5), .val (.long z101), .second, .val (.long z102), .second, .val (.ref b103), .val (.ref b105), .val (.ref b107), .val (.ref b328), .val (.int (1 : Int32)), .unset, .unset, .unset, .unset] [(.long i0)])) _
          refine XS.lloadN X372.here hx rfl (hb hby at_120) rfl ?_
          show Steps p.tables e below (T372.setTop (mkF m 121 #[.val (.long i0), .second, .val (.long i1), .second, .val (.long i2), .second, .val (.long i3), .second, .val (.int i4), .val (.int i5), .val (.long z101), .second, .val (.long z102), .second, .val (.ref b103), .val (.ref b105), .val (.ref b107), .val (.ref b328), .val (.int (1 : Int32)), .unset, .unset, .unset, .unset] [(.long i1), (.long i0)])) _
          refine XS.lcmp X372.here hx rfl (hb hby at_121) rfl ?_
          show Steps p.tables e below (T372.setTop (mkF m 122 #[.val (.long i0), .second, .val (.long i1), .second, .val (.long i2), .second, .val (.long i3), .second, .val (.int i4), .val (.int i5), .val (.long z101), .second, .val (.long z102), .second, .val (.ref b103), .val (.ref b105), .val (.ref b107), .val (.ref b328), .val (.int (1 : Int32)), .unset, .unset, .unset, .unset] [(.int (lcmpW i0 i1))])) _
          refine XS.ifYes X372.here hx rfl (pc0 := 122) (pc' := 129) rfl (hb hby at_122) rfl ((if0 _ _).trans (feq (mt (lw_eq _ _).mp hc119)).2) (by decide) (by decide) ?_
          show Steps p.tables e below (T372.setTop (mkF m 129 #[.val (.long i0), .second, .val (.long i1), .second, .val (.long i2), .second, .val (.long i3), .second, .val (.int i4), .val (.int i5), .val (.long z101), .second, .val (.long z102), .second, .val (.ref b103), .val (.ref b105), .val (.ref b107), .val (.ref b328), .val (.int (1 : Int32)), .unset, .unset, .unset, .unset] [])) _
          refine XS.iconst X372.here hx rfl (hb hby at_129) ?_
          show Steps p.tables e below (T372.setTop (mkF m 130 #[.val (.long i0), .second, .val (.long i1), .second, .val (.long i2), .second, .val (.long i3), .second, .val (.int i4), .val (.int i5), .val (.long z101), .second, .val (.long z102), .second, .val (.ref b103), .val (.ref b105), .val (.ref b107), .val (.ref b328), .val (.int (1 : Int32)), .unset, .unset, .unset, .unset] [(.int (0 : Int32))])) _
          refine XS.istore X372.here hx rfl (hb hby at_130) rfl (l' := #[.val (.long i0), .second, .val (.long i1), .second, .val (.long i2), .second, .val (.long i3), .second, .val (.int i4), .val (.int i5), .val (.long z101), .second, .val (.long z102), .second, .val (.ref b103), .val (.ref b105), .val (.ref b107), .val (.ref b328), .val (.int (1 : Int32)), .val (.int (0 : Int32)), .unset, .unset, .unset]) rfl ?_
          show Steps p.tables e below (T372.setTop (mkF m 132 #[.val (.long i0), .second, .val (.long i1), .second, .val (.long i2), .second, .val (.long i3), .second, .val (.int i4), .val (.int i5), .val (.long z101), .second, .val (.long z102), .second, .val (.ref b103), .val (.ref b105), .val (.ref b107), .val (.ref b328), .val (.int (1 : Int32)), .val (.int (0 : Int32)), .unset, .unset, .unset] [])) _
          refine XS.iload X372.here hx rfl (hb hby at_132) rfl ?_
          show Steps p.tables e below (T372.setTop (mkF m 134 #[.val (.long i0), .second, .val (.long i1), .second, .val (.long i2), .second, .val (.long i3), .second, .val (.int i4), .val (.int i5), .val (.long z101), .second, .val (.long z102), .second, .val (.ref b103), .val (.ref b105), .val (.ref b107), .val (.ref b328), .val (.int (1 : Int32)), .val (.int (0 : Int32)), .unset, .unset, .unset] [(.int (0 : Int32))])) _
          refine XS.ifYes X372.here hx rfl (pc0 := 134) (pc' := 142) rfl (hb hby at_134) rfl (by decide) (by decide) (by decide) ?_
          show Steps p.tables e below (T372.setTop (mkF m 142 #[.val (.long i0), .second, .val (.long i1), .second, .val (.long i2), .second, .val (.long i3), .second, .val (.int i4), .val (.int i5), .val (.long z101), .second, .val (.long z102), .second, .val (.ref b103), .val (.ref b105), .val (.ref b107), .val (.ref b328), .val (.int (1 : Int32)), .val (.int (0 : Int32)), .unset, .unset, .unset] [])) _
          refine XS.lload X372.here hx rfl (hb hby at_142) rfl ?_
          show Steps p.tables e below (T372.setTop (mkF m 144 #[.val (.long i0), .second, .val (.long i1), .second, .val (.long i2), .second, .val (.long i3), .second, .val (.int i4), .val (.int i5), .val (.long z101), .second, .val (.long z102), .second, .val (.ref b103), .val (.ref b105), .val (.ref b107), .val (.ref b328), .val (.int (1 : Int32)), .val (.int (0 : Int32)), .unset, .unset, .unset] [(.long z101)])) _
          refine XS.lstore X372.here hx rfl (hb hby at_144) rfl (l' := #[.val (.long i0), .second, .val (.long i1), .second, .val (.long i2), .second, .val (.long i3), .second, .val (.int i4), .val (.int i5), .val (.long z101), .second, .val (.long z102), .second, .val (.ref b103), .val (.ref b105), .val (.ref b107), .val (.ref b328), .val (.int (1 : Int32)), .val (.int (0 : Int32)), .val (.long z101), .second, .unset]) rfl ?_
          show Steps p.tables e below (T372.setTop (mkF m 146 #[.val (.long i0), .second, .val (.long i1), .second, .val (.long i2), .second, .val (.long i3), .second, .val (.int i4), .val (.int i5), .val (.long z101), .second, .val (.long z102), .second, .val (.ref b103), .val (.ref b105), .val (.ref b107), .val (.ref b328), .val (.int (1 : Int32)), .val (.int (0 : Int32)), .val (.long z101), .second, .unset] [])) _
          refine XS.iload X372.here hx rfl (hb hby at_146) rfl ?_
          show Steps p.tables e below (T372.setTop (mkF m 148 #[.val (.long i0), .second, .val (.long i1), .second, .val (.long i2), .second, .val (.long i3), .second, .val (.int i4), .val (.int i5), .val (.long z101), .second, .val (.long z102), .second, .val (.ref b103), .val (.ref b105), .val (.ref b107), .val (.ref b328), .val (.int (1 : Int32)), .val (.int (0 : Int32)), .val (.long z101), .second, .unset] [(.int (0 : Int32))])) _
          refine XS.ifYes X372.here hx rfl (pc0 := 148) (pc' := 155) rfl (hb hby at_148) rfl (by decide) (by decide) (by decide) ?_
          show Steps p.tables e below (T372.setTop (mkF m 155 #[.val (.long i0), .second, .val (.long i1), .second, .val (.long i2), .second, .val (.long i3), .second, .val (.int i4), .val (.int i5), .val (.long z101), .second, .val (.long z102), .second, .val (.ref b103), .val (.ref b105), .val (.ref b107), .val (.ref b328), .val (.int (1 : Int32)), .val (.int (0 : Int32)), .val (.long z101), .second, .unset] [])) _
          refine XS.iconst X372.here hx rfl (hb hby at_155) ?_
          show Steps p.tables e below (T372.setTop (mkF m 156 #[.val (.long i0), .second, .val (.long i1), .second, .val (.long i2), .second, .val (.long i3), .second, .val (.int i4), .val (.int i5), .val (.long z101), .second, .val (.long z102), .second, .val (.ref b103), .val (.ref b105), .val (.ref b107), .val (.ref b328), .val (.int (1 : Int32)), .val (.int (0 : Int32)), .val (.long z101), .second, .unset] [(.int (2 : Int32))])) _
          refine XS.istore X372.here hx rfl (hb hby at_156) rfl (l' := #[.val (.long i0), .second, .val (.long i1), .second, .val (.long i2), .second, .val (.long i3), .second, .val (.int i4), .val (.int i5), .val (.long z101), .second, .val (.long z102), .second, .val (.ref b103), .val (.ref b105), .val (.ref b107), .val (.ref b328), .val (.int (1 : Int32)), .val (.int (0 : Int32)), .val (.long z101), .second, .val (.int (2 : Int32))]) rfl ?_
          show Steps p.tables e below (T372.setTop (mkF m 158 #[.val (.long i0), .second, .val (.long i1), .second, .val (.long i2), .second, .val (.long i3), .second, .val (.int i4), .val (.int i5), .val (.long z101), .second, .val (.long z102), .second, .val (.ref b103), .val (.ref b105), .val (.ref b107), .val (.ref b328), .val (.int (1 : Int32)), .val (.int (0 : Int32)), .val (.long z101), .second, .val (.int (2 : Int32))] [])) _
          refine XS.aload X372.here hx rfl (hb hby at_158) rfl rfl ?_
          show Steps p.tables e below (T372.setTop (mkF m 160 #[.val (.long i0), .second, .val (.long i1), .second, .val (.long i2), .second, .val (.long i3), .second, .val (.int i4), .val (.int i5), .val (.long z101), .second, .val (.long z102), .second, .val (.ref b103), .val (.ref b105), .val (.ref b107), .val (.ref b328), .val (.int (1 : Int32)), .val (.int (0 : Int32)), .val (.long z101), .second, .val (.int (2 : Int32))] [(.ref b107)])) _
          refine XS.aload X372.here hx rfl (hb hby at_160) rfl rfl ?_
          show Steps p.tables e below (T372.setTop (mkF m 162 #[.val (.long i0), .second, .val (.long i1), .second, .val (.long i2), .second, .val (.long i3), .second, .val (.int i4), .val (.int i5), .val (.long z101), .second, .val (.long z102), .second, .val (.ref b103), .val (.ref b105), .val (.ref b107), .val (.ref b328), .val (.int (1 : Int32)), .val (.int (0 : Int32)), .val (.long z101), .second, .val (.int (2 : Int32))] [(.ref b103), (.ref b107)])) _
          refine st377.trans ?_
          show Steps p.tables e below (T377.setTop (mkF m 165 #[.val (.long i0), .second, .val (.long i1), .second, .val (.long i2), .second, .val (.long i3), .second, .val (.int i4), .val (.int i5), .val (.long z101), .second, .val (.long z102), .second, .val (.ref b103), .val (.ref b105), .val (.ref b107), .val (.ref b328), .val (.int (1 : Int32)), .val (.int (0 : Int32)), .val (.long z101), .second, .val (.int (2 : Int32))] [(.long (g325 (((2 : Int32) * (own_s i0)) + (1 : Int32))))])) _
          refine XS.lload X377.here hx rfl (hb hby at_165) rfl ?_
          show Steps p.tables e below (T377.setTop (mkF m 167 #[.val (.long i0), .second, .val (.long i1), .second, .val (.long i2), .second, .val (.long i3), .second, .val (.int i4), .val (.int i5), .val (.long z101), .second, .val (.long z102), .second, .val (.ref b103), .val (.ref b105), .val (.ref b107), .val (.ref b328), .val (.int (1 : Int32)), .val (.int (0 : Int32)), .val (.long z101), .second, .val (.int (2 : Int32))] [(.long z101), (.long (g325 (((2 : Int32) * (own_s i0)) + (1 : Int32))))])) _
          refine XS.lcmp X377.here hx rfl (hb hby at_167) rfl ?_
          show Steps p.tables e below (T377.setTop (mkF m 168 #[.val (.long i0), .second, .val (.long i1), .second, .val (.long i2), .second, .val (.long i3), .second, .val (.int i4), .val (.int i5), .val (.long z101), .second, .val (.long z102), .second, .val (.ref b103), .val (.ref b105), .val (.ref b107), .val (.ref b328), .val (.int (1 : Int32)), .val (.int (0 : Int32)), .val (.long z101), .second, .val (.int (2 : Int32))] [(.int (lcmpW (g325 (((2 : Int32) * (own_s i0)) + (1 : Int32))) z101))])) _
          refine XS.ifNo X377.here hx rfl (hb hby at_168) rfl ((if0 _ _).trans (teq ((lw_eq _ _).mpr qa)).2) ?_
          show Steps p.tables e below (T377.setTop (mkF m 171 #[.val (.long i0), .second, .val (.long i1), .second, .val (.long i2), .second, .val (.long i3), .second, .val (.int i4), .val (.int i5), .val (.long z101), .second, .val (.long z102), .second, .val (.ref b103), .val (.ref b105), .val (.ref b107), .val (.ref b328), .val (.int (1 : Int32)), .val (.int (0 : Int32)), .val (.long z101), .second, .val (.int (2 : Int32))] [])) _
          refine XS.aload X377.here hx rfl (hb hby at_171) rfl rfl ?_
          show Steps p.tables e below (T377.setTop (mkF m 173 #[.val (.long i0), .second, .val (.long i1), .second, .val (.long i2), .second, .val (.long i3), .second, .val (.int i4), .val (.int i5), .val (.long z101), .second, .val (.long z102), .second, .val (.ref b103), .val (.ref b105), .val (.ref b107), .val (.ref b328), .val (.int (1 : Int32)), .val (.int (0 : Int32)), .val (.long z101), .second, .val (.int (2 : Int32))] [(.ref b107)])) _
          refine XS.aload X377.here hx rfl (hb hby at_173) rfl rfl ?_
          show Steps p.tables e below (T377.setTop (mkF m 175 #[.val (.long i0), .second, .val (.long i1), .second, .val (.long i2), .second, .val (.long i3), .second, .val (.int i4), .val (.int i5), .val (.long z101), .second, .val (.long z102), .second, .val (.ref b103), .val (.ref b105), .val (.ref b107), .val (.ref b328), .val (.int (1 : Int32)), .val (.int (0 : Int32)), .val (.long z101), .second, .val (.int (2 : Int32))] [(.ref b105), (.ref b107)])) _
          refine st381.trans ?_
          show Steps p.tables e below (T381.setTop (mkF m 178 #[.val (.long i0), .second, .val (.long i1), .second, .val (.long i2), .second, .val (.long i3), .second, .val (.int i4), .val (.int i5), .val (.long z101), .second, .val (.long z102), .second, .val (.ref b103), .val (.ref b105), .val (.ref b107), .val (.ref b328), .val (.int (1 : Int32)), .val (.int (0 : Int32)), .val (.long z101), .second, .val (.int (2 : Int32))] [(.long (g325 (((2 : Int32) * (own_s i1)) + (1 : Int32))))])) _
          refine XS.lload X381.here hx rfl (hb hby at_178) rfl ?_
          show Steps p.tables e below (T381.setTop (mkF m 180 #[.val (.long i0), .second, .val (.long i1), .second, .val (.long i2), .second, .val (.long i3), .second, .val (.int i4), .val (.int i5), .val (.long z101), .second, .val (.long z102), .second, .val (.ref b103), .val (.ref b105), .val (.ref b107), .val (.ref b328), .val (.int (1 : Int32)), .val (.int (0 : Int32)), .val (.long z101), .second, .val (.int (2 : Int32))] [(.long z102), (.long (g325 (((2 : Int32) * (own_s i1)) + (1 : Int32))))])) _
          refine XS.lcmp X381.here hx rfl (hb hby at_180) rfl ?_
          show Steps p.tables e below (T381.setTop (mkF m 181 #[.val (.long i0), .second, .val (.long i1), .second, .val (.long i2), .second, .val (.long i3), .second, .val (.int i4), .val (.int i5), .val (.long z101), .second, .val (.long z102), .second, .val (.ref b103), .val (.ref b105), .val (.ref b107), .val (.ref b328), .val (.int (1 : Int32)), .val (.int (0 : Int32)), .val (.long z101), .second, .val (.int (2 : Int32))] [(.int (lcmpW (g325 (((2 : Int32) * (own_s i1)) + (1 : Int32))) z102))])) _
          refine XS.ifNo X381.here hx rfl (hb hby at_181) rfl ((if0 _ _).trans (teq ((lw_eq _ _).mpr qb)).2) ?_
          show Steps p.tables e below (T381.setTop (mkF m 184 #[.val (.long i0), .second, .val (.long i1), .second, .val (.long i2), .second, .val (.long i3), .second, .val (.int i4), .val (.int i5), .val (.long z101), .second, .val (.long z102), .second, .val (.ref b103), .val (.ref b105), .val (.ref b107), .val (.ref b328), .val (.int (1 : Int32)), .val (.int (0 : Int32)), .val (.long z101), .second, .val (.int (2 : Int32))] [])) _
          refine XS.aload X381.here hx rfl (hb hby at_184) rfl rfl ?_
          show Steps p.tables e below (T381.setTop (mkF m 186 #[.val (.long i0), .second, .val (.long i1), .second, .val (.long i2), .second, .val (.long i3), .second, .val (.int i4), .val (.int i5), .val (.long z101), .second, .val (.long z102), .second, .val (.ref b103), .val (.ref b105), .val (.ref b107), .val (.ref b328), .val (.int (1 : Int32)), .val (.int (0 : Int32)), .val (.long z101), .second, .val (.int (2 : Int32))] [(.ref b107)])) _
          refine st382.trans ?_
          show Steps p.tables e below (T382.setTop (mkF m 189 #[.val (.long i0), .second, .val (.long i1), .second, .val (.long i2), .second, .val (.long i3), .second, .val (.int i4), .val (.int i5), .val (.long z101), .second, .val (.long z102), .second, .val (.ref b103), .val (.ref b105), .val (.ref b107), .val (.ref b328), .val (.int (1 : Int32)), .val (.int (0 : Int32)), .val (.long z101), .second, .val (.int (2 : Int32))] [(.int (2 : Int32))])) _
          refine XS.iload X382.here hx rfl (hb hby at_189) rfl ?_
          show Steps p.tables e below (T382.setTop (mkF m 191 #[.val (.long i0), .second, .val (.long i1), .second, .val (.long i2), .second, .val (.long i3), .second, .val (.int i4), .val (.int i5), .val (.long z101), .second, .val (.long z102), .second, .val (.ref b103), .val (.ref b105), .val (.ref b107), .val (.ref b328), .val (.int (1 : Int32)), .val (.int (0 : Int32)), .val (.long z101), .second, .val (.int (2 : Int32))] [(.int (2 : Int32)), (.int (2 : Int32))])) _
          refine XS.icmpNo X382.here hx rfl (hb hby at_191) rfl (by decide) ?_
          show Steps p.tables e below (T382.setTop (mkF m 194 #[.val (.long i0), .second, .val (.long i1), .second, .val (.long i2), .second, .val (.long i3), .second, .val (.int i4), .val (.int i5), .val (.long z101), .second, .val (.long z102), .second, .val (.ref b103), .val (.ref b105), .val (.ref b107), .val (.ref b328), .val (.int (1 : Int32)), .val (.int (0 : Int32)), .val (.long z101), .second, .val (.int (2 : Int32))] [])) _
          refine XS.iconst X382.here hx rfl (hb hby at_194) ?_
          show Steps p.tables e below (T382.setTop (mkF m 195 #[.val (.long i0), .second, .val (.long i1), .second, .val (.long i2), .second, .val (.long i3), .second, .val (.int i4), .val (.int i5), .val (.long z101), .second, .val (.long z102), .second, .val (.ref b103), .val (.ref b105), .val (.ref b107), .val (.ref b328), .val (.int (1 : Int32)), .val (.int (0 : Int32)), .val (.long z101), .second, .val (.int (2 : Int32))] [(.int (1 : Int32))])) _
          refine XS.goto X382.here hx rfl (pc0 := 195) (pc' := 199) rfl (hb hby at_195) (by decide) (by decide) ?_
          show Steps p.tables e below (T382.setTop (mkF m 199 #[.val (.long i0), .second, .val (.long i1), .second, .val (.long i2), .second, .val (.long i3), .second, .val (.int i4), .val (.int i5), .val (.long z101), .second, .val (.long z102), .second, .val (.ref b103), .val (.ref b105), .val (.ref b107), .val (.ref b328), .val (.int (1 : Int32)), .val (.int (0 : Int32)), .val (.long z101), .second, .val (.int (2 : Int32))] [(.int (1 : Int32))])) _
          exact retN X382 hx (t := .boolean) Bd.returns (by simp) (hb hby at_199) hr
        · show QL n0 _ T382.heap _
          rw [hh382]
          exact ⟨rfl, N382⟩
      · skip
        have O383 : Old Z n0 h342 := (((O331.wr W337 gb328).wr W339 gb328).wr W342 gb328)
        have f384 := ((((Ex325.ext E328).wr W337).wr W339).wr W342)
        have f385 := ((((Fs325.ext E328).other W337 (Or.inl ne328_b107)).other W339 (Or.inl ne328_b107)).other W342 (Or.inl ne328_b107))
        have f386 := ((((Fo325.ext E328).other W337 (Or.inl ne328_b107)).other W339 (Or.inl ne328_b107)).other W342 (Or.inl ne328_b107))
        have f387 := ((((Fm325.ext E328).other W337 (Or.inl ne328_b107)).other W339 (Or.inl ne328_b107)).other W342 (Or.inl ne328_b107))
        have f388 := ((((Fz325.ext E328).other W337 (Or.inl ne328_b107)).other W339 (Or.inl ne328_b107)).other W342 (Or.inl ne328_b107))
        have f389 := ((((Lb325.ext E328).other W337 ne328_bt110).other W339 ne328_bt110).other W342 ne328_bt110)
        have f390 := ((((Fq325.ext E328).other W337 (Or.inl ne328_b107)).other W339 (Or.inl ne328_b107)).other W342 (Or.inl ne328_b107))
        obtain ⟨cq391, kq391, q391a, q391b, q391c⟩ := isOf hZ e342 f384
        obtain ⟨_, _, ⟨T391, L391, k391, n391⟩, -, X391, ⟨Lc391, hQ391, l391, y391, z391⟩, st391⟩ := X342.virtualBack hx (y := (⟨"com/example/keyfold/keyfold/KeyTable", "prefetch", "([II)V"⟩ : MethodName)) (z := (⟨"com/example/keyfold/keyfold/KeyTable", "prefetch", "([II)V"⟩ : MethodName)) hown (mvT hZ (hw _ (List.mem_of_getElem? (i := 73) rfl))) (mvT hZ (hw _ (List.mem_of_getElem? (i := 74) rfl))) (notFace_of_selects (args := #[]) (mvT hZ (hw _ (List.mem_of_getElem? (i := 76) rfl)))) (mvT hZ (hw _ (List.mem_of_getElem? (i := 76) rfl))) (mvT hZ (hw _ (List.mem_of_getElem? (i := 75) rfl))) (by decide) (backOf (W := 0) (rmPf2 l Z a0 hw [] b107 bt110 b328 k328 g325 (2 : Int32) (own_h i0) i4 (i4 ^^^ (own_h i0)) (0 : Int64) h342 n0 O383 f384 f385 f386 f387 f388 f389 f390 V342 net110 ne328_b107 gb107) hZ (hw _ (List.mem_of_getElem? (i := 77) rfl)) (hw _ (List.mem_of_getElem? (i := 18) rfl)) (by decide) (by decide)) q391a q391c (g := (mkF m 116 #[.val (.long i0), .second, .val (.long i1), .second, .val (.long i2), .second, .val (.long i3), .second, .val (.int i4), .val (.int i5), .val (.long z101), .second, .val (.long z102), .second, .val (.ref b103), .val (.ref b105), .val (.ref b107), .val (.ref b328), .val (.int (2 : Int32)), .unset, .unset, .unset, .unset] [(.int (2 : Int32)), (.ref b328), (.ref b107)])) rfl (by rw [hml]; rfl) (Steps.refl _) (argsL := [(.ref b328), (.int (2 : Int32))]) (rest := []) (lenOf pd_9 rfl) rfl (by show 2 * 0 + _ ≤ _; exact Nat.le_of_eq rfl) (hb hby at_116) (fun _ _ => ⟨rfl, e342, (by decide : 5 + 0 ≤ _), (by decide : 44 + 0 ≤ _)⟩)
        dsimp only [Pt.U, Pt.locs, Pt.cells, Pt.slots] at X391 l391 y391 z391 st391 hQ391
        subst l391 y391 z391
        obtain ⟨rfl, N391q, K391, p2391, Ex391, Fs391, Fo391, Fm391, Fz391, Lb391, Fq391⟩ := hQ391
        have N391 := Fr.app N342 N391q
        have O392 : Old Z n0 T391.heap := (O383.keep K391 (allS gb107 all0))
        have f393 := ((((f332.wr W337).wr W339).wr W342).keep K391)
        have f394 := ((((f333.other W337 (Or.inl ne328_b103)).other W339 (Or.inl ne328_b103)).other W342 (Or.inl ne328_b103)).keep K391 (ninS ne107_b103 nin0))
        have f395 := ((((f334.other W337 (Or.inl ne328_b103)).other W339 (Or.inl ne328_b103)).other W342 (Or.inl ne328_b103)).keep K391 (ninS ne107_b103 nin0))
        obtain ⟨cq396, kq396, q396a, q396b, q396c⟩ := isOf hZ rfl Ex391
        obtain ⟨_, _, ⟨T396, L396, k396, n396⟩, -, X396, ⟨Lc396, hQ396, l396, y396, z396⟩, st396⟩ := X391.virtualBack hx (y := (⟨"com/example/keyfold/keyfold/KeyTable", "get", "(Lcom/example/keyfold/keyfold/Key;)J"⟩ : MethodName)) (z := (⟨"com/example/keyfold/keyfold/KeyTable", "get", "(Lcom/example/keyfold/keyfold/Key;)J"⟩ : MethodName)) hown (mvT hZ (hw _ (List.mem_of_getElem? (i := 80) rfl))) (mvT hZ (hw _ (List.mem_of_getElem? (i := 81) rfl))) (notFace_of_selects (args := #[]) (mvT hZ (hw _ (List.mem_of_getElem? (i := 83) rfl)))) (mvT hZ (hw _ (List.mem_of_getElem? (i := 83) rfl))) (mvT hZ (hw _ (List.mem_of_getElem? (i := 82) rfl))) (by decide) (backOf (W := 0) (rmG l Z a0 hw [] b107 b103 bt110 g325 (2 : Int32) (own_s i0) i0 p2391 T391.heap n0 O392 Ex391 Fs391 Fo391 Fm391 Fz391 Lb391 Fq391 f393 f394 f395 hG1) hZ (hw _ (List.mem_of_getElem? (i := 84) rfl)) (hw _ (List.mem_of_getElem? (i := 18) rfl)) (by decide) (by decide)) q396a q396c (g := (mkF m 162 #[.val (.long i0), .second, .val (.long i1), .second, .val (.long i2), .second, .val (.long i3), .second, .val (.int i4), .val (.int i5), .val (.long z101), .second, .val (.long z102), .second, .val (.ref b103), .val (.ref b105), .val (.ref b107), .val (.ref b328), .val (.int (2 : Int32)), .val (.int (0 : Int32)), .val (.long z101), .second, .val (.int (2 : Int32))] [(.ref b103), (.ref b107)])) rfl (by rw [hml]; rfl) (Steps.refl _) (argsL := [(.ref b103)]) (rest := []) (lenOf pd_10 rfl) rfl (by show 2 * 0 + _ ≤ _; exact Nat.le_of_eq rfl) (hb hby at_162) (fun _ _ => ⟨rfl, rfl, (by decide : 5 + 0 ≤ _), (by decide : 44 + 0 ≤ _)⟩)
        dsimp only [Pt.U, Pt.locs, Pt.cells, Pt.slots] at X396 l396 y396 z396 st396 hQ396
        subst l396 y396 z396
        obtain ⟨rfl, N396q, hh396⟩ := hQ396
        have N396 := Fr.app N391 N396q
        have f397 := (((((f330.ext E328).wr W337).wr W339).wr W342).keep K391)
        have f398 := ((((((f323.keep K325 (ninS ne107_b105 (ninS ne110_b105 nin0))).ext E328).other W337 (Or.inl ne328_b105)).other W339 (Or.inl ne328_b105)).other W342 (Or.inl ne328_b105)).keep K391 (ninS ne107_b105 nin0))
        have f399 := ((((((f324.keep K325 (ninS ne107_b105 (ninS ne110_b105 nin0))).ext E328).other W337 (Or.inl ne328_b105)).other W339 (Or.inl ne328_b105)).other W342 (Or.inl ne328_b105)).keep K391 (ninS ne107_b105 nin0))
        obtain ⟨cq400, kq400, q400a, q400b, q400c⟩ := isOf hZ hh396 Ex391
        obtain ⟨_, _, ⟨T400, L400, k400, n400⟩, -, X400, ⟨Lc400, hQ400, l400, y400, z400⟩, st400⟩ := X396.virtualBack hx (y := (⟨"com/example/keyfold/keyfold/KeyTable", "get", "(Lcom/example/keyfold/keyfold/Key;)J"⟩ : MethodName)) (z := (⟨"com/example/keyfold/keyfold/KeyTable", "get", "(Lcom/example/keyfold/keyfold/Key;)J"⟩ : MethodName)) hown (mvT hZ (hw _ (List.mem_of_getElem? (i := 80) rfl))) (mvT hZ (hw _ (List.mem_of_getElem? (i := 81) rfl))) (notFace_of_selects (args := #[]) (mvT hZ (hw _ (List.mem_of_getElem? (i := 83) rfl)))) (mvT hZ (hw _ (List.mem_of_getElem? (i := 83) rfl))) (mvT hZ (hw _ (List.mem_of_getElem? (i := 82) rfl))) (by decide) (backOf (W := 0) (rmG l Z a0 hw [] b107 b105 bt110 g325 (2 : Int32) (own_s i1) i1 p2391 T391.heap n0 O392 Ex391 Fs391 Fo391 Fm391 Fz391 Lb391 Fq391 f397 f398 f399 hG2) hZ (hw _ (List.mem_of_getElem? (i := 84) rfl)) (hw _ (List.mem_of_getElem? (i := 18) rfl)) (by decide) (by decide)) q400a q400c (g := (mkF m 175 #[.val (.long i0), .second, .val (.long i1), .second, .val (.long i2), .second, .val (.long i3), .second, .val (.int i4), .val (.int i5), .val (.long z101), .second, .val (.long z102), .second, .val (.ref b103), .val (.ref b105), .val (.ref b107), .val (.ref b328), .val (.int (2 : Int32)), .val (.int (0 : Int32)), .val (.long z101), .second, .val (.int (2 : Int32))] [(.ref b105), (.ref b107)])) rfl (by rw [hml]; rfl) (Steps.refl _) (argsL := [(.ref b105)]) (rest := []) (lenOf pd_10 rfl) rfl (by show 2 * 0 + _ ≤ _; exact Nat.le_of_eq rfl) (hb hby at_175) (fun _ _ => ⟨rfl, hh396, (by decide : 5 + 0 ≤ _), (by decide : 44 + 0 ≤ _)⟩)
        dsimp only [Pt.U, Pt.locs, Pt.cells, Pt.slots] at X400 l400 y400 z400 st400 hQ400
        subst l400 y400 z400
        obtain ⟨rfl, N400q, hh400⟩ := hQ400
        have N400 := Fr.app N396 N400q
        obtain ⟨cq401, kq401, q401a, q401b, q401c⟩ := isOf hZ hh400 Ex391
        obtain ⟨_, _, ⟨T401, L401, k401, n401⟩, -, X401, ⟨Lc401, hQ401, l401, y401, z401⟩, st401⟩ := X400.virtualBack hx (y := (⟨"com/example/keyfold/keyfold/KeyTable", "size", "()I"⟩ : MethodName)) (z := (⟨"com/example/keyfold/keyfold/KeyTable", "size", "()I"⟩ : MethodName)) hown (mvT hZ (hw _ (List.mem_of_getElem? (i := 85) rfl))) (mvT hZ (hw _ (List.mem_of_getElem? (i := 86) rfl))) (notFace_of_selects (args := #[]) (mvT hZ (hw _ (List.mem_of_getElem? (i := 88) rfl)))) (mvT hZ (hw _ (List.mem_of_getElem? (i := 88) rfl))) (mvT hZ (hw _ (List.mem_of_getElem? (i := 87) rfl))) (by decide) (backOf (W := 0) (rmSz l Z a0 hw [] b107 (2 : Int32) T391.heap n0 O392 Fz391) hZ (hw _ (List.mem_of_getElem? (i := 89) rfl)) (hw _ (List.mem_of_getElem? (i := 18) rfl)) (by decide) (by decide)) q401a q401c (g := (mkF m 186 #[.val (.long i0), .second, .val (.long i1), .second, .val (.long i2), .second, .val (.long i3), .second, .val (.int i4), .val (.int i5), .val (.long z101), .second, .val (.long z102), .second, .val (.ref b103), .val (.ref b105), .val (.ref b107), .val (.ref b328), .val (.int (2 : Int32)), .val (.int (0 : Int32)), .val (.long z101), .second, .val (.int (2 : Int32))] [(.ref b107)])) rfl (by rw [hml]; rfl) (Steps.refl _) (argsL := []) (rest := []) (lenOf pd_11 rfl) rfl (by show 2 * 0 + _ ≤ _; exact Nat.le_of_eq rfl) (hb hby at_186) (fun _ _ => ⟨rfl, hh400, (by decide : 5 + 0 ≤ _), (by decide : 44 + 0 ≤ _)⟩)
        dsimp only [Pt.U, Pt.locs, Pt.cells, Pt.slots] at X401 l401 y401 z401 st401 hQ401
        subst l401 y401 z401
        obtain ⟨rfl, N401q, hh401⟩ := hQ401
        have N401 := Fr.app N400 N401q
        obtain ⟨fs, hr, hrun, hended, hW, hsame⟩ := X401.leave (v := some (.int (1 : Int32))) (fun h => by rw [Bd.returns] at h; cases h)
        refine ⟨_, _, pre343 _ ?_, hrun, hended, _, _, rfl, ?_, ⟨_, rfl⟩, hW, hsame.mono (by decide) (by decide)⟩
        · skip
          show Steps p.tables e below (T342.setTop (mkF m 108 #[.val (.long i0), .second, .val (.long i1), .second, .val (.long i2), .second, .val (.long i3), .second, .val (.int i4), .val (.int i5), .val (.long z101), .second, .val (.long z102), .second, .val (.ref b103), .val (.ref b105), .val (.ref b107), .val (.ref b328), .unset, .unset, .unset, .unset, .unset] [(.int (i5 &&& (3 : Int32)))])) _
          rw [hk344]
          show Steps p.tables e below (T342.setTop (mkF m 108 #[.val (.long i0), .second, .val (.long i1), .second, .val (.long i2), .second, .val (.long i3), .second, .val (.int i4), .val (.int i5), .val (.long z101), .second, .val (.long z102), .second, .val (.ref b103), .val (.ref b105), .val (.ref b107), .val (.ref b328), .unset, .unset, .unset, .unset, .unset] [(.int (2 : Int32))])) _
          refine XS.istore X342.here hx rfl (hb hby at_108) rfl (l' := #[.val (.long i0), .second, .val (.long i1), .second, .val (.long i2), .second, .val (.long i3), .second, .val (.int i4), .val (.int i5), .val (.long z101), .second, .val (.long z102), .second, .val (.ref b103), .val (.ref b105), .val (.ref b107), .val (.ref b328), .val (.int (2 : Int32)), .unset, .unset, .unset, .unset]) rfl ?_
          show Steps p.tables e below (T342.setTop (mkF m 110 #[.val (.long i0), .second, .val (.long i1), .second, .val (.long i2), .second, .val (.long i3), .second, .val (.int i4), .val (.int i5), .val (.long z101), .second, .val (.long z102), .second, .val (.ref b103), .val (.ref b105), .val (.ref b107), .val (.ref b328), .val (.int (2 : Int32)), .unset, .unset, .unset, .unset] [])) _
          refine XS.aload X342.here hx rfl (hb hby at_110) rfl rfl ?_
          show Steps p.tables e below (T342.setTop (mkF m 112 #[.val (.long i0), .second, .val (.long i1), .second, .val (.long i2), .second, .val (.long i3), .second, .val (.int i4), .val (.int i5), .val (.long z101), .second, .val (.long z102), .second, .val (.ref b103), .val (.ref b105), .val (.ref b107), .val (.ref b328), .val (.int (2 : Int32)), .unset, .unset, .unset, .unset] [(.ref b107)])) _
          refine XS.aload X342.here hx rfl (hb hby at_112) rfl rfl ?_
          show Steps p.tables e below (T342.setTop (mkF m 114 #[.val (.long i0), .second, .val (.long i1), .second, .val (.long i2), .second, .val (.long i3), .second, .val (.int i4), .val (.int i5), .val (.long z101), .second, .val (.long z102), .second, .val (.ref b103), .val (.ref b105), .val (.ref b107), .val (.ref b328), .val (.int (2 : Int32)), .unset, .unset, .unset, .unset] [(.ref b328), (.ref b107)])) _
          refine XS.iload X342.here hx rfl (hb hby at_114) rfl ?_
          show Steps p.tables e below (T342.setTop (mkF m 116 #[.val (.long i0), .second, .val (.long i1), .second, .val (.long i2), .second, .val (.long i3), .second, .val (.int i4), .val (.int i5), .val (.long z101), .second, .val (.long z102), .second, .val (.ref b103), .val (.ref b105), .val (.ref b107), .val (.ref b328), .val (.int (2 : Int32)), .unset, .unset, .unset, .unset] [(.int (2 : Int32)), (.ref b328), (.ref b107)])) _
          refine st391.trans ?_
          show Steps p.tables e below (T391.setTop (mkF m 119 #[.val (.long i0), .second, .val (.long i1), .second, .val (.long i2), .second, .val (.long i3), .second, .val (.int i4), .val (.int i5), .val (.long z101), .second, .val (.long z102), .second, .val (.ref b103), .val (.ref b105), .val (.ref b107), .val (.ref b328), .val (.int (2 : Int32)), .unset, .unset, .unset, .unset] [])) _
          refine XS.lloadN X391.here hx rfl (hb hby at_119) rfl ?_
          show Steps p.tables e below (T391.setTop (mkF m 120 #[.val (.long i0), .second, .val (.long i1), .second, .val (.long i2), .second, .val (.long i3), .second, .val (.int i4), .val (.int i5), .val (.long z101), .second, .val (.long z102), .second, .val (.ref b103), .val (.ref b105), .val (.ref b107), .val (.ref b328), .val (.int (2 : Int32)), .unset, .unset, .unset, .unset] [(.long i0)])) _
          refine XS.lloadN X391.here hx rfl (hb hby at_120) rfl ?_
          show Steps p.tables e below (T391.setTop (mkF m 121 #[.val (.long i0), .second, .val (.long i1), .second, .val (.long i2), .second, .val (.long i3), .second, .val (.int i4), .val (.int i5), .val (.long z101), .second, .val (.long z102), .second, .val (.ref b103), .val (.ref b105), .val (.ref b107), .val (.ref b328), .val (.int (2 : Int32)), .unset, .unset, .unset, .unset] [(.long i1), (.long i0)])) _
          refine XS.lcmp X391.here hx rfl (hb hby at_121) rfl ?_
          show Steps p.tables e below (T391.setTop (mkF m 122 #[.val (.long i0), .second, .val (.long i1), .second, .val (.long i2), .second, .val (.long i3), .second, .val (.int i4), .val (.int i5), .val (.long z101), .second, .val (.long z102), .second, .val (.ref b103), .val (.ref b105), .val (.ref b107), .val (.ref b328), .val (.int (2 : Int32)), .unset, .unset, .unset, .unset] [(.int (lcmpW i0 i1))])) _
          refine XS.ifYes X391.here hx rfl (pc0 := 122) (pc' := 129) rfl (hb hby at_122) rfl ((if0 _ _).trans (feq (mt (lw_eq _ _).mp hc119)).2) (by decide) (by decide) ?_
          show Steps p.tables e below (T391.setTop (mkF m 129 #[.val (.long i0), .second, .val (.long i1), .second, .val (.long i2), .second, .val (.long i3), .second, .val (.int i4), .val (.int i5), .val (.long z101), .second, .val (.long z102), .second, .val (.ref b103), .val (.ref b105), .val (.ref b107), .val (.ref b328), .val (.int (2 : Int32)), .unset, .unset, .unset, .unset] [])) _
          refine XS.iconst X391.here hx rfl (hb hby at_129) ?_
          show Steps p.tables e below (T391.setTop (mkF m 130 #[.val (.long i0), .second, .val (.long i1), .second, .val (.long i2), .second, .val (.long i3), .second, .val (.int i4), .val (.int i5), .val (.long z101), .second, .val (.long z102), .second, .val (.ref b103), .val (.ref b105), .val (.ref b107), .val (.ref b328), .val (.int (2 : Int32)), .unset, .unset, .unset, .unset] [(.int (0 : Int32))])) _
          refine XS.istore X391.here hx rfl (hb hby at_130) rfl (l' := #[.val (.long i0), .second, .val (.long i1), .second, .val (.long i2), .second, .val (.long i3), .second, .val (.int i4), .val (.int i5), .val (.long z101), .second, .val (.long z102), .second, .val (.ref b103), .val (.ref b105), .val (.ref b107), .val (.ref b328), .val (.int (2 : Int32)), .val (.int (0 : Int32)), .unset, .unset, .unset]) rfl ?_
          show Steps p.tables e below (T391.setTop (mkF m 132 #[.val (.long i0), .second, .val (.long i1), .second, .val (.long i2), .second, .val (.long i3), .second, .val (.int i4), .val (.int i5), .val (.long z101), .second, .val (.long z102), .second, .val (.ref b103), .val (.ref b105), .val (.ref b107), .val (.ref b328), .val (.int (2 : Int32)), .val (.int (0 : Int32)), .unset, .unset, .unset] [])) _
          refine XS.iload X391.here hx rfl (hb hby at_132) rfl ?_
          show Steps p.tables e below (T391.setTop (mkF m 134 #[.val (.long i0), .second, .val (.long i1), .second, .val (.long i2), .second, .val (.long i3), .second, .val (.int i4), .val (.int i5), .val (.long z101), .second, .val (.long z102), .second, .val (.ref b103), .val (.ref b105), .val (.ref b107), .val (.ref b328), .val (.int (2 : Int32)), .val (.int (0 : Int32)), .unset, .unset, .unset] [(.int (0 : Int32))])) _
          refine XS.ifYes X391.here hx rfl (pc0 := 134) (pc' := 142) rfl (hb hby at_134) rfl (by decide) (by decide) (by decide) ?_
          show Steps p.tables e below (T391.setTop (mkF m 142 #[.val (.long i0), .second, .val (.long i1), .second, .val (.long i2), .second, .val (.long i3), .second, .val (.int i4), .val (.int i5), .val (.long z101), .second, .val (.long z102), .second, .val (.ref b103), .val (.ref b105), .val (.ref b107), .val (.ref b328), .val (.int (2 : Int32)), .val (.int (0 : Int32)), .unset, .unset, .unset] [])) _
          refine XS.lload X391.here hx rfl (hb hby at_142) rfl ?_
          show Steps p.tables e below (T391.setTop (mkF m 144 #[.val (.long i0), .second, .val (.long i1), .second, .val (.long i2), .second, .val (.long i3), .second, .val (.int i4), .val (.int i5), .val (.long z101), .second, .val (.long z102), .second, .val (.ref b103), .val (.ref b105), .val (.ref b107), .val (.ref b328), .val (.int (2 : Int32)), .val (.int (0 : Int32)), .unset, .unset, .unset] [(.long z101)])) _
          refine XS.lstore X391.here hx rfl (hb hby at_144) rfl (l' := #[.val (.long i0), .second, .val (.long i1), .second, .val (.long i2), .second, .val (.long i3), .second, .val (.int i4), .val (.int i5), .val (.long z101), .second, .val (.long z102), .second, .val (.ref b103), .val (.ref b105), .val (.ref b107), .val (.ref b328), .val (.int (2 : Int32)), .val (.int (0 : Int32)), .val (.long z101), .second, .unset]) rfl ?_
          show Steps p.tables e below (T391.setTop (mkF m 146 #[.val (.long i0), .second, .val (.long i1), .second, .val (.long i2), .second, .val (.long i3), .second, .val (.int i4), .val (.int i5), .val (.long z101), .second, .val (.long z102), .second, .val (.ref b103), .val (.ref b105), .val (.ref b107), .val (.ref b328), .val (.int (2 : Int32)), .val (.int (0 : Int32)), .val (.long z101), .second, .unset] [])) _
          refine XS.iload X391.here hx rfl (hb hby at_146) rfl ?_
          show Steps p.tables e below (T391.setTop (mkF m 148 #[.val (.long i0), .second, .val (.long i1), .second, .val (.long i2), .second, .val (.long i3), .second, .val (.int i4), .val (.int i5), .val (.long z101), .second, .val (.long z102), .second, .val (.ref b103), .val (.ref b105), .val (.ref b107), .val (.ref b328), .val (.int (2 : Int32)), .val (.int (0 : Int32)), .val (.long z101), .second, .unset] [(.int (0 : Int32))])) _
          refine XS.ifYes X391.here hx rfl (pc0 := 148) (pc' := 155) rfl (hb hby at_148) rfl (by decide) (by decide) (by decide) ?_
          show Steps p.tables e below (T391.setTop (mkF m 155 #[.val (.long i0), .second, .val (.long i1), .second, .val (.long i2), .second, .val (.long i3), .second, .val (.int i4), .val (.int i5), .val (.long z101), .second, .val (.long z102), .second, .val (.ref b103), .val (.ref b105), .val (.ref b107), .val (.ref b328), .val (.int (2 : Int32)), .val (.int (0 : Int32)), .val (.long z101), .second, .unset] [])) _
          refine XS.iconst X391.here hx rfl (hb hby at_155) ?_
          show Steps p.tables e below (T391.setTop (mkF m 156 #[.val (.long i0), .second, .val (.long i1), .second, .val (.long i2), .second, .val (.long i3), .second, .val (.int i4), .val (.int i5), .val (.long z101), .second, .val (.long z102), .second, .val (.ref b103), .val (.ref b105), .val (.ref b107), .val (.ref b328), .val (.int (2 : Int32)), .val (.int (0 : Int32)), .val (.long z101), .second, .unset] [(.int (2 : Int32))])) _
          refine XS.istore X391.here hx rfl (hb hby at_156) rfl (l' := #[.val (.long i0), .second, .val (.long i1), .second, .val (.long i2), .second, .val (.long i3), .second, .val (.int i4), .val (.int i5), .val (.long z101), .second, .val (.long z102), .second, .val (.ref b103), .val (.ref b105), .val (.ref b107), .val (.ref b328), .val (.int (2 : Int32)), .val (.int (0 : Int32)), .val (.long z101), .second, .val (.int (2 : Int32))]) rfl ?_
          show Steps p.tables e below (T391.setTop (mkF m 158 #[.val (.long i0), .second, .val (.long i1), .second, .val (.long i2), .second, .val (.long i3), .second, .val (.int i4), .val (.int i5), .val (.long z101), .second, .val (.long z102), .second, .val (.ref b103), .val (.ref b105), .val (.ref b107), .val (.ref b328), .val (.int (2 : Int32)), .val (.int (0 : Int32)), .val (.long z101), .second, .val (.int (2 : Int32))] [])) _
          refine XS.aload X391.here hx rfl (hb hby at_158) rfl rfl ?_
          show Steps p.tables e below (T391.setTop (mkF m 160 #[.val (.long i0), .second, .val (.long i1), .second, .val (.long i2), .second, .val (.long i3), .second, .val (.int i4), .val (.int i5), .val (.long z101), .second, .val (.long z102), .second, .val (.ref b103), .val (.ref b105), .val (.ref b107), .val (.ref b328), .val (.int (2 : Int32)), .val (.int (0 : Int32)), .val (.long z101), .second, .val (.int (2 : Int32))] [(.ref b107)])) _
          refine XS.aload X391.here hx rfl (hb hby at_160) rfl rfl ?_
          show Steps p.tables e below (T391.setTop (mkF m 162 #[.val (.long i0), .second, .val (.long i1), .second, .val (.long i2), .second, .val (.long i3), .second, .val (.int i4), .val (.int i5), .val (.long z101), .second, .val (.long z102), .second, .val (.ref b103), .val (.ref b105), .val (.ref b107), .val (.ref b328), .val (.int (2 : Int32)), .val (.int (0 : Int32)), .val (.long z101), .second, .val (.int (2 : Int32))] [(.ref b103), (.ref b107)])) _
          refine st396.trans ?_
          show Steps p.tables e below (T396.setTop (mkF m 165 #[.val (.long i0), .second, .val (.long i1), .second, .val (.long i2), .second, .val (.long i3), .second, .val (.int i4), .val (.int i5), .val (.long z101), .second, .val (.long z102), .second, .val (.ref b103), .val (.ref b105), .val (.ref b107), .val (.ref b328), .val (.int (2 : Int32)), .val (.int (0 : Int32)), .val (.long z101), .second, .val (.int (2 : Int32))] [(.long (g325 (((2 : Int32) * (own_s i0)) + (1 : Int32))))])) _
          refine XS.lload X396.here hx rfl (hb hby at_165) rfl ?_
          show Steps p.tables e below (T396.setTop (mkF m 167 #[.val (.long i0), .second, .val (.long i1), .second, .val (.long i2), .second, .val (.long i3), .second, .val (.int i4), .val (.int i5), .val (.long z101), .second, .val (.long z102), .second, .val (.ref b103), .val (.ref b105), .val (.ref b107), .val (.ref b328), .val (.int (2 : Int32)), .val (.int (0 : Int32)), .val (.long z101), .second, .val (.int (2 : Int32))] [(.long z101), (.long (g325 (((2 : Int32) * (own_s i0)) + (1 : Int32))))])) _
          refine XS.lcmp X396.here hx rfl (hb hby at_167) rfl ?_
          show Steps p.tables e below (T396.setTop (mkF m 168 #[.val (.long i0), .second, .val (.long i1), .second, .val (.long i2), .second, .val (.long i3), .second, .val (.int i4), .val (.int i5), .val (.long z101), .second, .val (.long z102), .second, .val (.ref b103), .val (.ref b105), .val (.ref b107), .val (.ref b328), .val (.int (2 : Int32)), .val (.int (0 : Int32)), .val (.long z101), .second, .val (.int (2 : Int32))] [(.int (lcmpW (g325 (((2 : Int32) * (own_s i0)) + (1 : Int32))) z101))])) _
          refine XS.ifNo X396.here hx rfl (hb hby at_168) rfl ((if0 _ _).trans (teq ((lw_eq _ _).mpr qa)).2) ?_
          show Steps p.tables e below (T396.setTop (mkF m 171 #[.val (.long i0), .second, .val (.long i1), .second, .val (.long i2), .second, .val (.long i3), .second, .val (.int i4), .val (.int i5), .val (.long z101), .second, .val (.long z102), .second, .val (.ref b103), .val (.ref b105), .val (.ref b107), .val (.ref b328), .val (.int (2 : Int32)), .val (.int (0 : Int32)), .val (.long z101), .second, .val (.int (2 : Int32))] [])) _
          refine XS.aload X396.here hx rfl (hb hby at_171) rfl rfl ?_
          show Steps p.tables e below (T396.setTop (mkF m 173 #[.val (.long i0), .second, .val (.long i1), .second, .val (.long i2), .second, .val (.long i3), .second, .val (.int i4), .val (.int i5), .val (.long z101), .second, .val (.long z102), .second, .val (.ref b103), .val (.ref b105), .val (.ref b107), .val (.ref b328), .val (.int (2 : Int32)), .val (.int (0 : Int32)), .val (.long z101), .second, .val (.int (2 : Int32))] [(.ref b107)])) _
          refine XS.aload X396.here hx rfl (hb hby at_173) rfl rfl ?_
          show Steps p.tables e below (T396.setTop (mkF m 175 #[.val (.long i0), .second, .val (.long i1), .second, .val (.long i2), .second, .val (.long i3), .second, .val (.int i4), .val (.int i5), .val (.long z101), .second, .val (.long z102), .second, .val (.ref b103), .val (.ref b105), .val (.ref b107), .val (.ref b328), .val (.int (2 : Int32)), .val (.int (0 : Int32)), .val (.long z101), .second, .val (.int (2 : Int32))] [(.ref b105), (.ref b107)])) _
          refine st400.trans ?_
          show Steps p.tables e below (T400.setTop (mkF m 178 #[.val (.long i0), .second, .val (.long i1), .second, .val (.long i2), .second, .val (.long i3), .second, .val (.int i4), .val (.int i5), .val (.long z101), .second, .val (.long z102), .second, .val (.ref b103), .val (.ref b105), .val (.ref b107), .val (.ref b328), .val (.int (2 : Int32)), .val (.int (0 : Int32)), .val (.long z101), .second, .val (.int (2 : Int32))] [(.long (g325 (((2 : Int32) * (own_s i1)) + (1 : Int32))))])) _
          refine XS.lload X400.here hx rfl (hb hby at_178) rfl ?_
          show Steps p.tables e below (T400.setTop (mkF m 180 #[.val (.long i0), .second, .val (.long i1), .second, .val (.long i2), .second, .val (.long i3), .second, .val (.int i4), .val (.int i5), .val (.long z101), .second, .val (.long z102), .second, .val (.ref b103), .val (.ref b105), .val (.ref b107), .val (.ref b328), .val (.int (2 : Int32)), .val (.int (0 : Int32)), .val (.long z101), .second, .val (.int (2 : Int32))] [(.long z102), (.long (g325 (((2 : Int32) * (own_s i1)) + (1 : Int32))))])) _
          refine XS.lcmp X400.here hx rfl (hb hby at_180) rfl ?_
          show Steps p.tables e below (T400.setTop (mkF m 181 #[.val (.long i0), .second, .val (.long i1), .second, .val (.long i2), .second, .val (.long i3), .second, .val (.int i4), .val (.int i5), .val (.long z101), .second, .val (.long z102), .second, .val (.ref b103), .val (.ref b105), .val (.ref b107), .val (.ref b328), .val (.int (2 : Int32)), .val (.int (0 : Int32)), .val (.long z101), .second, .val (.int (2 : Int32))] [(.int (lcmpW (g325 (((2 : Int32) * (own_s i1)) + (1 : Int32))) z102))])) _
          refine XS.ifNo X400.here hx rfl (hb hby at_181) rfl ((if0 _ _).trans (teq ((lw_eq _ _).mpr qb)).2) ?_
          show Steps p.tables e below (T400.setTop (mkF m 184 #[.val (.long i0), .second, .val (.long i1), .second, .val (.long i2), .second, .val (.long i3), .second, .val (.int i4), .val (.int i5), .val (.long z101), .second, .val (.long z102), .second, .val (.ref b103), .val (.ref b105), .val (.ref b107), .val (.ref b328), .val (.int (2 : Int32)), .val (.int (0 : Int32)), .val (.long z101), .second, .val (.int (2 : Int32))] [])) _
          refine XS.aload X400.here hx rfl (hb hby at_184) rfl rfl ?_
          show Steps p.tables e below (T400.setTop (mkF m 186 #[.val (.long i0), .second, .val (.long i1), .second, .val (.long i2), .second, .val (.long i3), .second, .val (.int i4), .val (.int i5), .val (.long z101), .second, .val (.long z102), .second, .val (.ref b103), .val (.ref b105), .val (.ref b107), .val (.ref b328), .val (.int (2 : Int32)), .val (.int (0 : Int32)), .val (.long z101), .second, .val (.int (2 : Int32))] [(.ref b107)])) _
          refine st401.trans ?_
          show Steps p.tables e below (T401.setTop (mkF m 189 #[.val (.long i0), .second, .val (.long i1), .second, .val (.long i2), .second, .val (.long i3), .second, .val (.int i4), .val (.int i5), .val (.long z101), .second, .val (.long z102), .second, .val (.ref b103), .val (.ref b105), .val (.ref b107), .val (.ref b328), .val (.int (2 : Int32)), .val (.int (0 : Int32)), .val (.long z101), .second, .val (.int (2 : Int32))] [(.int (2 : Int32))])) _
          refine XS.iload X401.here hx rfl (hb hby at_189) rfl ?_
          show Steps p.tables e below (T401.setTop (mkF m 191 #[.val (.long i0), .second, .val (.long i1), .second, .val (.long i2), .second, .val (.long i3), .second, .val (.int i4), .val (.int i5), .val (.long z101), .second, .val (.long z102), .second, .val (.ref b103), .val (.ref b105), .val (.ref b107), .val (.ref b328), .val (.int (2 : Int32)), .val (.int (0 : Int32)), .val (.long z101), .second, .val (.int (2 : Int32))] [(.int (2 : Int32)), (.int (2 : Int32))])) _
          refine XS.icmpNo X401.here hx rfl (hb hby at_191) rfl (by decide) ?_
          show Steps p.tables e below (T401.setTop (mkF m 194 #[.val (.long i0), .second, .val (.long i1), .second, .val (.long i2), .second, .val (.long i3), .second, .val (.int i4), .val (.int i5), .val (.long z101), .second, .val (.long z102), .second, .val (.ref b103), .val (.ref b105), .val (.ref b107), .val (.ref b328), .val (.int (2 : Int32)), .val (.int (0 : Int32)), .val (.long z101), .second, .val (.int (2 : Int32))] [])) _
          refine XS.iconst X401.here hx rfl (hb hby at_194) ?_
          show Steps p.tables e below (T401.setTop (mkF m 195 #[.val (.long i0), .second, .val (.long i1), .second, .val (.long i2), .second, .val (.long i3), .second, .val (.int i4), .val (.int i5), .val (.long z101), .second, .val (.long z102), .second, .val (.ref b103), .val (.ref b105), .val (.ref b107), .val (.ref b328), .val (.int (2 : Int32)), .val (.int (0 : Int32)), .val (.long z101), .second, .val (.int (2 : Int32))] [(.int (1 : Int32))])) _
          refine XS.goto X401.here hx rfl (pc0 := 195) (pc' := 199) rfl (hb hby at_195) (by decide) (by decide) ?_
          show Steps p.tables e below (T401.setTop (mkF m 199 #[.val (.long i0), .second, .val (.long i1), .second, .val (.long i2), .second, .val (.long i3), .second, .val (.int i4), .val (.int i5), .val (.long z101), .second, .val (.long z102), .second, .val (.ref b103), .val (.ref b105), .val (.ref b107), .val (.ref b328), .val (.int (2 : Int32)), .val (.int (0 : Int32)), .val (.long z101), .second, .val (.int (2 : Int32))] [(.int (1 : Int32))])) _
          exact retN X401 hx (t := .boolean) Bd.returns (by simp) (hb hby at_199) hr
        · show QL n0 _ T401.heap _
          rw [hh401]
          exact ⟨rfl, N401⟩
      · skip
        have O402 : Old Z n0 h342 := (((O331.wr W337 gb328).wr W339 gb328).wr W342 gb328)
        have f403 := ((((Ex325.ext E328).wr W337).wr W339).wr W342)
        have f404 := ((((Fs325.ext E328).other W337 (Or.inl ne328_b107)).other W339 (Or.inl ne328_b107)).other W342 (Or.inl ne328_b107))
        have f405 := ((((Fo325.ext E328).other W337 (Or.inl ne328_b107)).other W339 (Or.inl ne328_b107)).other W342 (Or.inl ne328_b107))
        have f406 := ((((Fm325.ext E328).other W337 (Or.inl ne328_b107)).other W339 (Or.inl ne328_b107)).other W342 (Or.inl ne328_b107))
        have f407 := ((((Fz325.ext E328).other W337 (Or.inl ne328_b107)).other W339 (Or.inl ne328_b107)).other W342 (Or.inl ne328_b107))
        have f408 := ((((Lb325.ext E328).other W337 ne328_bt110).other W339 ne328_bt110).other W342 ne328_bt110)
        have f409 := ((((Fq325.ext E328).other W337 (Or.inl ne328_b107)).other W339 (Or.inl ne328_b107)).other W342 (Or.inl ne328_b107))
        obtain ⟨cq410, kq410, q410a, q410b, q410c⟩ := isOf hZ e342 f403
        obtain ⟨_, _, ⟨T410, L410, k410, n410⟩, -, X410, ⟨Lc410, hQ410, l410, y410, z410⟩, st410⟩ := X342.virtualBack hx (y := (⟨"com/example/keyfold/keyfold/KeyTable", "prefetch", "([II)V"⟩ : MethodName)) (z := (⟨"com/example/keyfold/keyfold/KeyTable", "prefetch", "([II)V"⟩ : MethodName)) hown (mvT hZ (hw _ (List.mem_of_getElem? (i := 73) rfl))) (mvT hZ (hw _ (List.mem_of_getElem? (i := 74) rfl))) (notFace_of_selects (args := #[]) (mvT hZ (hw _ (List.mem_of_getElem? (i := 76) rfl)))) (mvT hZ (hw _ (List.mem_of_getElem? (i := 76) rfl))) (mvT hZ (hw _ (List.mem_of_getElem? (i := 75) rfl))) (by decide) (backOf (W := 0) (rmPf3 l Z a0 hw [] b107 bt110 b328 k328 g325 (2 : Int32) (own_h i0) i4 (i4 ^^^ (own_h i0)) (0 : Int64) h342 n0 O402 f403 f404 f405 f406 f407 f408 f409 V342 net110 ne328_b107 gb107) hZ (hw _ (List.mem_of_getElem? (i := 77) rfl)) (hw _ (List.mem_of_getElem? (i := 18) rfl)) (by decide) (by decide)) q410a q410c (g := (mkF m 116 #[.val (.long i0), .second, .val (.long i1), .second, .val (.long i2), .second, .val (.long i3), .second, .val (.int i4), .val (.int i5), .val (.long z101), .second, .val (.long z102), .second, .val (.ref b103), .val (.ref b105), .val (.ref b107), .val (.ref b328), .val (.int (3 : Int32)), .unset, .unset, .unset, .unset] [(.int (3 : Int32)), (.ref b328), (.ref b107)])) rfl (by rw [hml]; rfl) (Steps.refl _) (argsL := [(.ref b328), (.int (3 : Int32))]) (rest := []) (lenOf pd_9 rfl) rfl (by show 2 * 0 + _ ≤ _; exact Nat.le_of_eq rfl) (hb hby at_116) (fun _ _ => ⟨rfl, e342, (by decide : 5 + 0 ≤ _), (by decide : 44 + 0 ≤ _)⟩)
        dsimp only [Pt.U, Pt.locs, Pt.cells, Pt.slots] at X410 l410 y410 z410 st410 hQ410
        subst l410 y410 z410
        obtain ⟨rfl, N410q, K410, p2410, Ex410, Fs410, Fo410, Fm410, Fz410, Lb410, Fq410⟩ := hQ410
        have N410 := Fr.app N342 N410q
        have O411 : Old Z n0 T410.heap := (O402.keep K410 (allS gb107 all0))
        have f412 := ((((f332.wr W337).wr W339).wr W342).keep K410)
        have f413 := ((((f333.other W337 (Or.inl ne328_b103)).other W339 (Or.inl ne328_b103)).other W342 (Or.inl ne328_b103)).keep K410 (ninS ne107_b103 nin0))
        have f414 := ((((f334.other W337 (Or.inl ne328_b103)).other W339 (Or.inl ne328_b103)).other W342 (Or.inl ne328_b103)).keep K410 (ninS ne107_b103 nin0))
        obtain ⟨cq415, kq415, q415a, q415b, q415c⟩ := isOf hZ rfl Ex410
        obtain ⟨_, _, ⟨T415, L415, k415, n415⟩, -, X415, ⟨Lc415, hQ415, l415, y415, z415⟩, st415⟩ := X410.virtualBack hx (y := (⟨"com/example/keyfold/keyfold/KeyTable", "get", "(Lcom/example/keyfold/keyfold/Key;)J"⟩ : MethodName)) (z := (⟨"com/example/keyfold/keyfold/KeyTable", "get", "(Lcom/example/keyfold/keyfold/Key;)J"⟩ : MethodName)) hown (mvT hZ (hw _ (List.mem_of_getElem? (i := 80) rfl))) (mvT hZ (hw _ (List.mem_of_getElem? (i := 81) rfl))) (notFace_of_selects (args := #[]) (mvT hZ (hw _ (List.mem_of_getElem? (i := 83) rfl)))) (mvT hZ (hw _ (List.mem_of_getElem? (i := 83) rfl))) (mvT hZ (hw _ (List.mem_of_getElem? (i := 82) rfl))) (by decide) (backOf (W := 0) (rmG l Z a0 hw [] b107 b103 bt110 g325 (2 : Int32) (own_s i0) i0 p2410 T410.heap n0 O411 Ex410 Fs410 Fo410 Fm410 Fz410 Lb410 Fq410 f412 f413 f414 hG1) hZ (hw _ (List.mem_of_getElem? (i := 84) rfl)) (hw _ (List.mem_of_getElem? (i := 18) rfl)) (by decide) (by decide)) q415a q415c (g := (mkF m 162 #[.val (.long i0), .second, .val (.long i1), .second, .val (.long i2), .second, .val (.long i3), .second, .val (.int i4), .val (.int i5), .val (.long z101), .second, .val (.long z102), .second, .val (.ref b103), .val (.ref b105), .val (.ref b107), .val (.ref b328), .val (.int (3 : Int32)), .val (.int (0 : Int32)), .val (.long z101), .second, .val (.int (2 : Int32))] [(.ref b103), (.ref b107)])) rfl (by rw [hml]; rfl) (Steps.refl _) (argsL := [(.ref b103)]) (rest := []) (lenOf pd_10 rfl) rfl (by show 2 * 0 + _ ≤ _; exact Nat.le_of_eq rfl) (hb hby at_162) (fun _ _ => ⟨rfl, rfl, (by decide : 5 + 0 ≤ _), (by decide : 44 + 0 ≤ _)⟩)
        dsimp only [Pt.U, Pt.locs, Pt.cells, Pt.slots] at X415 l415 y415 z415 st415 hQ415
        subst l415 y415 z415
        obtain ⟨rfl, N415q, hh415⟩ := hQ415
        have N415 := Fr.app N410 N415q
        have f416 := (((((f330.ext E328).wr W337).wr W339).wr W342).keep K410)
        have f417 := ((((((f323.keep K325 (ninS ne107_b105 (ninS ne110_b105 nin0))).ext E328).other W337 (Or.inl ne328_b105)).other W339 (Or.inl ne328_b105)).other W342 (Or.inl ne328_b105)).keep K410 (ninS ne107_b105 nin0))
        have f418 := ((((((f324.keep K325 (ninS ne107_b105 (ninS ne110_b105 nin0))).ext E328).other W337 (Or.inl ne328_b105)).other W339 (Or.inl ne328_b105)).other W342 (Or.inl ne328_b105)).keep K410 (ninS ne107_b105 nin0))
        obtain ⟨cq419, kq419, q419a, q419b, q419c⟩ := isOf hZ hh415 Ex410
        obtain ⟨_, _, ⟨T419, L419, k419, n419⟩, -, X419, ⟨Lc419, hQ419, l419, y419, z419⟩, st419⟩ := X415.virtualBack hx (y := (⟨"com/example/keyfold/keyfold/KeyTable", "get", "(Lcom/example/keyfold/keyfold/Key;)J"⟩ : MethodName)) (z := (⟨"com/example/keyfold/keyfold/KeyTable", "get", "(Lcom/example/keyfold/keyfold/Key;)J"⟩ : MethodName)) hown (mvT hZ (hw _ (List.mem_of_getElem? (i := 80) rfl))) (mvT hZ (hw _ (List.mem_of_getElem? (i := 81) rfl))) (notFace_of_selects (args := #[]) (mvT hZ (hw _ (List.mem_of_getElem? (i := 83) rfl)))) (mvT hZ (hw _ (List.mem_of_getElem? (i := 83) rfl))) (mvT hZ (hw _ (List.mem_of_getElem? (i := 82) rfl))) (by decide) (backOf (W := 0) (rmG l Z a0 hw [] b107 b105 bt110 g325 (2 : Int32) (own_s i1) i1 p2410 T410.heap n0 O411 Ex410 Fs410 Fo410 Fm410 Fz410 Lb410 Fq410 f416 f417 f418 hG2) hZ (hw _ (List.mem_of_getElem? (i := 84) rfl)) (hw _ (List.mem_of_getElem? (i := 18) rfl)) (by decide) (by decide)) q419a q419c (g := (mkF m 175 #[.val (.long i0), .second, .val (.long i1), .second, .val (.long i2), .second, .val (.long i3), .second, .val (.int i4), .val (.int i5), .val (.long z101), .second, .val (.long z102), .second, .val (.ref b103), .val (.ref b105), .val (.ref b107), .val (.ref b328), .val (.int (3 : Int32)), .val (.int (0 : Int32)), .val (.long z101), .second, .val (.int (2 : Int32))] [(.ref b105), (.ref b107)])) rfl (by rw [hml]; rfl) (Steps.refl _) (argsL := [(.ref b105)]) (rest := []) (lenOf pd_10 rfl) rfl (by show 2 * 0 + _ ≤ _; exact Nat.le_of_eq rfl) (hb hby at_175) (fun _ _ => ⟨rfl, hh415, (by decide : 5 + 0 ≤ _), (by decide : 44 + 0 ≤ _)⟩)
        dsimp only [Pt.U, Pt.locs, Pt.cells, Pt.slots] at X419 l419 y419 z419 st419 hQ419
        subst l419 y419 z419
        obtain ⟨rfl, N419q, hh419⟩ := hQ419
        have N419 := Fr.app N415 N419q
        obtain ⟨cq420, kq420, q420a, q420b, q420c⟩ := isOf hZ hh419 Ex410
        obtain ⟨_, _, ⟨T420, L420, k420, n420⟩, -, X420, ⟨Lc420, hQ420, l420, y420, z420⟩, st420⟩ := X419.virtualBack hx (y := (⟨"com/example/keyfold/keyfold/KeyTable", "size", "()I"⟩ : MethodName)) (z := (⟨"com/example/keyfold/keyfold/KeyTable", "size", "()I"⟩ : MethodName)) hown (mvT hZ (hw _ (List.mem_of_getElem? (i := 85) rfl))) (mvT hZ (hw _ (List.mem_of_getElem? (i := 86) rfl))) (notFace_of_selects (args := #[]) (mvT hZ (hw _ (List.mem_of_getElem? (i := 88) rfl)))) (mvT hZ (hw _ (List.mem_of_getElem? (i := 88) rfl))) (mvT hZ (hw _ (List.mem_of_getElem? (i := 87) rfl))) (by decide) (backOf (W := 0) (rmSz l Z a0 hw [] b107 (2 : Int32) T410.heap n0 O411 Fz410) hZ (hw _ (List.mem_of_getElem? (i := 89) rfl)) (hw _ (List.mem_of_getElem? (i := 18) rfl)) (by decide) (by decide)) q420a q420c (g := (mkF m 186 #[.val (.long i0), .second, .val (.long i1), .second, .val (.long i2), .second, .val (.long i3), .second, .val (.int i4), .val (.int i5), .val (.long z101), .second, .val (.long z102), .second, .val (.ref b103), .val (.ref b105), .val (.ref b107), .val (.ref b328), .val (.int (3 : Int32)), .val (.int (0 : Int32)), .val (.long z101), .second, .val (.int (2 : Int32))] [(.ref b107)])) rfl (by rw [hml]; rfl) (Steps.refl _) (argsL := []) (rest := []) (lenOf pd_11 rfl) rfl (by show 2 * 0 + _ ≤ _; exact Nat.le_of_eq rfl) (hb hby at_186) (fun _ _ => ⟨rfl, hh419, (by decide : 5 + 0 ≤ _), (by decide : 44 + 0 ≤ _)⟩)
        dsimp only [Pt.U, Pt.locs, Pt.cells, Pt.slots] at X420 l420 y420 z420 st420 hQ420
        subst l420 y420 z420
        obtain ⟨rfl, N420q, hh420⟩ := hQ420
        have N420 := Fr.app N419 N420q
        obtain ⟨fs, hr, hrun, hended, hW, hsame⟩ := X420.leave (v := some (.int (1 : Int32))) (fun h => by rw [Bd.returns] at h; cases h)
        refine ⟨_, _, pre343 _ ?_, hrun, hended, _, _, rfl, ?_, ⟨_, rfl⟩, hW, hsame.mono (by decide) (by decide)⟩
        · skip
          show Steps p.tables e below (T342.setTop (mkF m 108 #[.val (.long i0), .second, .val (.long i1), .second, .val (.long i2), .second, .val (.long i3), .second, .val (.int i4), .val (.int i5), .val (.long z101), .second, .val (.long z102), .second, .val (.ref b103), .val (.ref b105), .val (.ref b107), .val (.ref b328), .unset, .unset, .unset, .unset, .unset] [(.int (i5 &&& (3 : Int32)))])) _
          rw [hk344]
          show Steps p.tables e below (T342.setTop (mkF m 108 #[.val (.long i0), .second, .val (.long i1), .second, .val (.long i2), .second, .val (.long i3), .second, .val (.int i4), .val (.int i5), .val (.long z101), .second, .val (.long z102), .second, .val (.ref b103), .val (.ref b105), .val (.ref b107), .val (.ref b328), .unset, .unset, .unset, .unset, .unset] [(.int (3 : Int32))])) _
          refine XS.istore X342.here hx rfl (hb hby at_108) rfl (l' := #[.val (.long i0), .second, .val (.long i1), .second, .val (.long i2), .second, .val (.long i3), .second, .val (.int i4), .val (.int i5), .val (.long z101), .second, .val (.long z102), .second, .val (.ref b103), .val (.ref b105), .val (.ref b107), .val (.ref b328), .val (.int (3 : Int32)), .unset, .unset, .unset, .unset]) rfl ?_
          show Steps p.tables e below (T342.setTop (mkF m 110 #[.val (.long i0), .second, .val (.long i1), .second, .val (.long i2), .second, .val (.long i3), .second, .val (.int i4), .val (.int i5), .val (.long z101), .second, .val (.long z102), .second, .val (.ref b103), .val (.ref b105), .val (.ref b107), .val (.ref b328), .val (.int (3 : Int32)), .unset, .unset, .unset, .unset] [])) _
          refine XS.aload X342.here hx rfl (hb hby at_110) rfl rfl ?_
          show Steps p.tables e below (T342.setTop (mkF m 112 #[.val (.long i0), .second, .val (.long i1), .second, .val (.long i2), .second, .val (.long i3), .second, .val (.int i4), .val (.int i5), .val (.long z101), .second, .val (.long z102), .second, .val (.ref b103), .val (.ref b105), .val (.ref b107), .val (.ref b328), .val (.int (3 : Int32)), .unset, .unset, .unset, .unset] [(.ref b107)])) _
          refine XS.aload X342.here hx rfl (hb hby at_112) rfl rfl ?_
          show Steps p.tables e below (T342.setTop (mkF m 114 #[.val (.long i0), .second, .val (.long i1), .second, .val (.long i2), .second, .val (.long i3), .second, .val (.int i4), .val (.int i5), .val (.long z101), .second, .val (.long z102), .second, .val (.ref b103), .val (.ref b105), .val (.ref b107), .val (.ref b328), .val (.int (3 : Int32)), .unset, .unset, .unset, .unset] [(.ref b328), (.ref b107)])) _
          refine XS.iload X342.here hx rfl (hb hby at_114) rfl ?_
          show Steps p.tables e below (T342.setTop (mkF m 116 #[.val (.long i0), .second, .val (.long i1), .second, .val (.long i2), .second, .val (.long i3), .second, .val (.int i4), .val (.int i5), .val (.long z101), .second, .val (.long z102), .second, .val (.ref b103), .val (.ref b105), .val (.ref b107), .val (.ref b328), .val (.int (3 : Int32)), .unset, .unset, .unset, .unset] [(.int (3 : Int32)), (.ref b328), (.ref b107)])) _
          refine st410.trans ?_
          show Steps p.tables e below (T410.setTop (mkF m 119 #[.val (.long i0), .second, .val (.long i1), .second, .val (.long i2), .second, .val (.long i3), .second, .val (.int i4), .val (.int i5), .val (.long z101), .second, .val (.long z102), .second, .val (.ref b103), .val (.ref b105), .val (.ref b107), .val (.ref b328), .val (.int (3 : Int32)), .unset, .unset, .unset, .unset] [])) _
          refine XS.lloadN X410.here hx rfl (hb hby at_119) rfl ?_
          show Steps p.tables e below (T410.setTop (mkF m 120 #[.val (.long i0), .second, .val (.long i1), .second, .val (.long i2), .second, .val (.long i3), .second, .val (.int i4), .val (.int i5), .val (.long z101), .second, .val (.long z102), .second, .val (.ref b103), .val (.ref b105), .val (.ref b107), .val (.ref b328), .val (.int (3 : Int32)), .unset, .unset, .unset, .unset] [(.long i0)])) _
          refine XS.lloadN X410.here hx rfl (hb hby at_120) rfl ?_
          show Steps p.tables e below (T410.setTop (mkF m 121 #[.val (.long i0), .second, .val (.long i1), .second, .val (.long i2), .second, .val (.long i3), .second, .val (.int i4), .val (.int i5), .val (.long z101), .second, .val (.long z102), .second, .val (.ref b103), .val (.ref b105), .val (.ref b107), .val (.ref b328), .val (.int (3 : Int32)), .unset, .unset, .unset, .unset] [(.long i1), (.long i0)])) _
          refine XS.lcmp X410.here hx rfl (hb hby at_121) rfl ?_
          show Steps p.tables e below (T410.setTop (mkF m 122 #[.val (.long i0), .second, .val (.long i1), .second, .val (.long i2), .second, .val (.long i3), .second, .val (.int i4), .val (.int i5), .val (.long z101), .second, .val (.long z102), .second, .val (.ref b103), .val (.ref b105), .val (.ref b107), .val (.ref b328), .val (.int (3 : Int32)), .unset, .unset, .unset, .unset] [(.int (lcmpW i0 i1))])) _
          refine XS.ifYes X410.here hx rfl (pc0 := 122) (pc' := 129) rfl (hb hby at_122) rfl ((if0 _ _).trans (feq (mt (lw_eq _ _).mp hc119)).2) (by decide) (by decide) ?_
          show Steps p.tables e below (T410.setTop (mkF m 129 #[.val (.long i0), .second, .val (.long i1), .second, .val (.long i2), .second, .val (.long i3), .second, .val (.int i4), .val (.int i5), .val (.long z101), .second, .val (.long z102), .second, .val (.ref b103), .val (.ref b105), .val (.ref b107), .val (.ref b328), .val (.int (3 : Int32)), .unset, .unset, .unset, .unset] [])) _
          refine XS.iconst X410.here hx rfl (hb hby at_129) ?_
          show Steps p.tables e below (T410.setTop (mkF m 130 #[.val (.long i0), .second, .val (.long i1), .second, .val (.long i2), .second, .val (.long i3), .second, .val (.int i4), .val (.int i5), .val (.long z101), .second, .val (.long z102), .second, .val (.ref b103), .val (.ref b105), .val (.ref b107), .val (.ref b328), .val (.int (3 : Int32)), .unset, .unset, .unset, .unset] [(.int (0 : Int32))])) _
          refine XS.istore X410.here hx rfl (hb hby at_130) rfl (l' := #[.val (.long i0), .second, .val (.long i1), .second, .val (.long i2), .second, .val (.long i3), .second, .val (.int i4), .val (.int i5), .val (.long z101), .second, .val (.long z102), .second, .val (.ref b103), .val (.ref b105), .val (.ref b107), .val (.ref b328), .val (.int (3 : Int32)), .val (.int (0 : Int32)), .unset, .unset, .unset]) rfl ?_
          show Steps p.tables e below (T410.setTop (mkF m 132 #[.val (.long i0), .second, .val (.long i1), .second, .val (.long i2), .second, .val (.long i3), .second, .val (.int i4), .val (.int i5), .val (.long z101), .second, .val (.long z102), .second, .val (.ref b103), .val (.ref b105), .val (.ref b107), .val (.ref b328), .val (.int (3 : Int32)), .val (.int (0 : Int32)), .unset, .unset, .unset] [])) _
          refine XS.iload X410.here hx rfl (hb hby at_132) rfl ?_
          show Steps p.tables e below (T410.setTop (mkF m 134 #[.val (.long i0), .second, .val (.long i1), .second, .val (.long i2), .second, .val (.long i3), .second, .val (.int i4), .val (.int i5), .val (.long z101), .second, .val (.long z102), .second, .val (.ref b103), .val (.ref b105), .val (.ref b107), .val (.ref b328), .val (.int (3 : Int32)), .val (.int (0 : Int32)), .unset, .unset, .unset] [(.int (0 : Int32))])) _
          refine XS.ifYes X410.here hx rfl (pc0 := 134) (pc' := 142) rfl (hb hby at_134) rfl (by decide) (by decide) (by decide) ?_
          show Steps p.tables e below (T410.setTop (mkF m 142 #[.val (.long i0), .second, .val (.long i1), .second, .val (.long i2), .second, .val (.long i3), .second, .val (.int i4), .val (.int i5), .val (.long z101), .second, .val (.long z102), .second, .val (.ref b103), .val (.ref b105), .val (.ref b107), .val (.ref b328), .val (.int (3 : Int32)), .val (.int (0 : Int32)), .unset, .unset, .unset] [])) _
          refine XS.lload X410.here hx rfl (hb hby at_142) rfl ?_
          show Steps p.tables e below (T410.setTop (mkF m 144 #[.val (.long i0), .second, .val (.long i1), .second, .val (.long i2), .second, .val (.long i3), .second, .val (.int i4), .val (.int i5), .val (.long z101), .second, .val (.long z102), .second, .val (.ref b103), .val (.ref b105), .val (.ref b107), .val (.ref b328), .val (.int (3 : Int32)), .val (.int (0 : Int32)), .unset, .unset, .unset] [(.long z101)])) _
          refine XS.lstore X410.here hx rfl (hb hby at_144) rfl (l' := #[.val (.long i0), .second, .val (.long i1), .second, .val (.long i2), .second, .val (.long i3), .second, .val (.int i4), .val (.int i5), .val (.long z101), .second, .val (.long z102), .second, .val (.ref b103), .val (.ref b105), .val (.ref b107), .val (.ref b328), .val (.int (3 : Int32)), .val (.int (0 : Int32)), .val (.long z101), .second, .unset]) rfl ?_
          show Steps p.tables e below (T410.setTop (mkF m 146 #[.val (.long i0), .second, .val (.long i1), .second, .val (.long i2), .second, .val (.long i3), .second, .val (.int i4), .val (.int i5), .val (.long z101), .second, .val (.long z102), .second, .val (.ref b103), .val (.ref b105), .val (.ref b107), .val (.ref b328), .val (.int (3 : Int32)), .val (.int (0 : Int32)), .val (.long z101), .second, .unset] [])) _
          refine XS.iload X410.here hx rfl (hb hby at_146) rfl ?_
          show Steps p.tables e below (T410.setTop (mkF m 148 #[.val (.long i0), .second, .val (.long i1), .second, .val (.long i2), .second, .val (.long i3), .second, .val (.int i4), .val (.int i5), .val (.long z101), .second, .val (.long z102), .second, .val (.ref b103), .val (.ref b105), .val (.ref b107), .val (.ref b328), .val (.int (3 : Int32)), .val (.int (0 : Int32)), .val (.long z101), .second, .unset] [(.int (0 : Int32))])) _
          refine XS.ifYes X410.here hx rfl (pc0 := 148) (pc' := 155) rfl (hb hby at_148) rfl (by decide) (by decide) (by decide) ?_
          show Steps p.tables e below (T410.setTop (mkF m 155 #[.val (.long i0), .second, .val (.long i1), .second, .val (.long i2), .second, .val (.long i3), .second, .val (.int i4), .val (.int i5), .val (.long z101), .second, .val (.long z102), .second, .val (.ref b103), .val (.ref b105), .val (.ref b107), .val (.ref b328), .val (.int (3 : Int32)), .val (.int (0 : Int32)), .val (.long z101), .second, .unset] [])) _
          refine XS.iconst X410.here hx rfl (hb hby at_155) ?_
          show Steps p.tables e below (T410.setTop (mkF m 156 #[.val (.long i0), .second, .val (.long i1), .second, .val (.long i2), .second, .val (.long i3), .second, .val (.int i4), .val (.int i5), .val (.long z101), .second, .val (.long z102), .second, .val (.ref b103), .val (.ref b105), .val (.ref b107), .val (.ref b328), .val (.int (3 : Int32)), .val (.int (0 : Int32)), .val (.long z101), .second, .unset] [(.int (2 : Int32))])) _
          refine XS.istore X410.here hx rfl (hb hby at_156) rfl (l' := #[.val (.long i0), .second, .val (.long i1), .second, .val (.long i2), .second, .val (.long i3), .second, .val (.int i4), .val (.int i5), .val (.long z101), .second, .val (.long z102), .second, .val (.ref b103), .val (.ref b105), .val (.ref b107), .val (.ref b328), .val (.int (3 : Int32)), .val (.int (0 : Int32)), .val (.long z101), .second, .val (.int (2 : Int32))]) rfl ?_
          show Steps p.tables e below (T410.setTop (mkF m 158 #[.val (.long i0), .second, .val (.long i1), .second, .val (.long i2), .second, .val (.long i3), .second, .val (.int i4), .val (.int i5), .val (.long z101), .second, .val (.long z102), .second, .val (.ref b103), .val (.ref b105), .val (.ref b107), .val (.ref b328), .val (.int (3 : Int32)), .val (.int (0 : Int32)), .val (.long z101), .second, .val (.int (2 : Int32))] [])) _
          refine XS.aload X410.here hx rfl (hb hby at_158) rfl rfl ?_
          show Steps p.tables e below (T410.setTop (mkF m 160 #[.val (.long i0), .second, .val (.long i1), .second, .val (.long i2), .second, .val (.long i3), .second, .val (.int i4), .val (.int i5), .val (.long z101), .second, .val (.long z102), .second, .val (.ref b103), .val (.ref b105), .val (.ref b107), .val (.ref b328), .val (.int (3 : Int32)), .val (.int (0 : Int32)), .val (.long z101), .second, .val (.int (2 : Int32))] [(.ref b107)])) _
          refine XS.aload X410.here hx rfl (hb hby at_160) rfl rfl ?_
          show Steps p.tables e below (T410.setTop (mkF m 162 #[.val (.long i0), .second, .val (.long i1), .second, .val (.long i2), .second, .val (.long i3), .second, .val (.int i4), .val (.int i5), .val (.long z101), .second, .val (.long z102), .second, .val (.ref b103), .val (.ref b105), .val (.ref b107), .val (.ref b328), .val (.int (3 : Int32)), .val (.int (0 : Int32)), .val (.long z101), .second, .val (.int (2 : Int32))] [(.ref b103), (.ref b107)])) _
          refine st415.trans ?_
          show Steps p.tables e below (T415.setTop (mkF m 165 #[.val (.long i0), .second, .val (.long i1), .second, .val (.long i2), .second, .val (.long i3), .second, .val (.int i4), .val (.int i5), .val (.long z101), .second, .val (.long z102), .second, .val (.ref b103), .val (.ref b105), .val (.ref b107), .val (.ref b328), .val (.int (3 : Int32)), .val (.int (0 : Int32)), .val (.long z101), .second, .val (.int (2 : Int32))] [(.long (g325 (((2 : Int32) * (own_s i0)) + (1 : Int32))))])) _
          refine XS.lload X415.here hx rfl (hb hby at_165) rfl ?_
          show Steps p.tables e below (T415.setTop (mkF m 167 #[.val (.long i0), .second, .val (.long i1), .second, .val (.long i2), .second, .val (.long i3), .second, .val (.int i4), .val (.int i5), .val (.long z101), .second, .val (.long z102), .second, .val (.ref b103), .val (.ref b105), .val (.ref b107), .val (.ref b328), .val (.int (3 : Int32)), .val (.int (0 : Int32)), .val (.long z101), .second, .val (.int (2 : Int32))] [(.long z101), (.long (g325 (((2 : Int32) * (own_s i0)) + (1 : Int32))))])) _
          refine XS.lcmp X415.here hx rfl (hb hby at_167) rfl ?_
          show Steps p.tables e below (T415.setTop (mkF m 168 #[.val (.long i0), .second, .val (.long i1), .second, .val (.long i2), .second, .val (.long i3), .second, .val (.int i4), .val (.int i5), .val (.long z101), .second, .val (.long z102), .second, .val (.ref b103), .val (.ref b105), .val (.ref b107), .val (.ref b328), .val (.int (3 : Int32)), .val (.int (0 : Int32)), .val (.long z101), .second, .val (.int (2 : Int32))] [(.int (lcmpW (g325 (((2 : Int32) * (own_s i0)) + (1 : Int32))) z101))])) _
          refine XS.ifNo X415.here hx rfl (hb hby at_168) rfl ((if0 _ _).trans (teq ((lw_eq _ _).mpr qa)).2) ?_
          show Steps p.tables e below (T415.setTop (mkF m 171 #[.val (.long i0), .second, .val (.long i1), .second, .val (.long i2), .second, .val (.long i3), .second, .val (.int i4), .val (.int i5), .val (.long z101), .second, .val (.long z102), .second, .val (.ref b103), .val (.ref b105), .val (.ref b107), .val (.ref b328), .val (.int (3 : Int32)), .val (.int (0 : Int32)), .val (.long z101), .second, .val (.int (2 : Int32))] [])) _
          refine XS.aload X415.here hx rfl (hb hby at_171) rfl rfl ?_
          show Steps p.tables e below (T415.setTop (mkF m 173 #[.val (.long i0), .second, .val (.long i1), .second, .val (.long i2), .second, .val (.long i3), .second, .val (.int i4), .val (.int i5), .val (.long z101), .second, .val (.long z102), .second, .val (.ref b103), .val (.ref b105), .val (.ref b107), .val (.ref b328), .val (.int (3 : Int32)), .val (.int (0 : Int32)), .val (.long z101), .second, .val (.int (2 : Int32))] [(.ref b107)])) _
          refine XS.aload X415.here hx rfl (hb hby at_173) rfl rfl ?_
          show Steps p.tables e below (T415.setTop (mkF m 175 #[.val (.long i0), .second, .val (.long i1), .second, .val (.long i2), .second, .val (.long i3), .second, .val (.int i4), .val (.int i5), .val (.long z101), .second, .val (.long z102), .second, .val (.ref b103), .val (.ref b105), .val (.ref b107), .val (.ref b328), .val (.int (3 : Int32)), .val (.int (0 : Int32)), .val (.long z101), .second, .val (.int (2 : Int32))] [(.ref b105), (.ref b107)])) _
          refine st419.trans ?_
          show Steps p.tables e below (T419.setTop (mkF m 178 #[.val (.long i0), .second, .val (.long i1), .second, .val (.long i2), .second, .val (.long i3), .second, .val (.int i4), .val (.int i5), .val (.long z101), .second, .val (.long z102), .second, .val (.ref b103), .val (.ref b105), .val (.ref b107), .val (.ref b328), .val (.int (3 : Int32)), .val (.int (0 : Int32)), .val (.long z101), .second, .val (.int (2 : Int32))] [(.long (g325 (((2 : Int32) * (own_s i1)) + (1 : Int32))))])) _
          refine XS.lload X419.here hx rfl (hb hby at_178) rfl ?_
          show Steps p.tables e below (T419.setTop (mkF m 180 #[.val (.long i0), .second, .val (.long i1), .second, .val (.long i2), .second, .val (.long i3), .second, .val (.int i4), .val (.int i5), .val (.long z101), .second, .val (.long z102), .second, .val (.ref b103), .val (.ref b105), .val (.ref b107), .val (.ref b328), .val (.int (3 : Int32)), .val (.int (0 : Int32)), .val (.long z101), .second, .val (.int (2 : Int32))] [(.long z102), (.long (g325 (((2 : Int32) * (own_s i1)) + (1 : Int32))))])) _
          refine XS.lcmp X419.here hx rfl (hb hby at_180) rfl ?_
          show Steps p.tables e below (T419.setTop (mkF m 181 #[.val (.long i0), .second, .val (.long i1), .second, .val (.long i2), .second, .val (.long i3), .second, .val (.int i4), .val (.int i5), .val (.long z101), .second, .val (.long z102), .second, .val (.ref b103), .val (.ref b105), .val (.ref b107), .val (.ref b328), .val (.int (3 : Int32)), .val (.int (0 : Int32)), .val (.long z101), .second, .val (.int (2 : Int32))] [(.int (lcmpW (g325 (((2 : Int32) * (own_s i1)) + (1 : Int32))) z102))])) _
          refine XS.ifNo X419.here hx rfl (hb hby at_181) rfl ((if0 _ _).trans (teq ((lw_eq _ _).mpr qb)).2) ?_
          show Steps p.tables e below (T419.setTop (mkF m 184 #[.val (.long i0), .second, .val (.long i1), .second, .val (.long i2), .second, .val (.long i3), .second, .val (.int i4), .val (.int i5), .val (.long z101), .second, .val (.long z102), .second, .val (.ref b103), .val (.ref b105), .val (.ref b107), .val (.ref b328), .val (.int (3 : Int32)), .val (.int (0 : Int32)), .val (.long z101), .second, .val (.int (2 : Int32))] [])) _
          refine XS.aload X419.here hx rfl (hb hby at_184) rfl rfl ?_
          show Steps p.tables e below (T419.setTop (mkF m 186 #[.val (.long i0), .second, .val (.long i1), .second, .val (.long i2), .second, .val (.long i3), .second, .val (.int i4), .val (.int i5), .val (.long z101), .second, .val (.long z102), .second, .val (.ref b103), .val (.ref b105), .val (.ref b107), .val (.ref b328), .val (.int (3 : Int32)), .val (.int (0 : Int32)), .val (.long z101), .second, .val (.int (2 : Int32))] [(.ref b107)])) _
          refine st420.trans ?_
          show Steps p.tables e below (T420.setTop (mkF m 189 #[.val (.long i0), .second, .val (.long i1), .second, .val (.long i2), .second, .val (.long i3), .second, .val (.int i4), .val (.int i5), .val (.long z101), .second, .val (.long z102), .second, .val (.ref b103), .val (.ref b105), .val (.ref b107), .val (.ref b328), .val (.int (3 : Int32)), .val (.int (0 : Int32)), .val (.long z101), .second, .val (.int (2 : Int32))] [(.int (2 : Int32))])) _
          refine XS.iload X420.here hx rfl (hb hby at_189) rfl ?_
          show Steps p.tables e below (T420.setTop (mkF m 191 #[.val (.long i0), .second, .val (.long i1), .second, .val (.long i2), .second, .val (.long i3), .second, .val (.int i4), .val (.int i5), .val (.long z101), .second, .val (.long z102), .second, .val (.ref b103), .val (.ref b105), .val (.ref b107), .val (.ref b328), .val (.int (3 : Int32)), .val (.int (0 : Int32)), .val (.long z101), .second, .val (.int (2 : Int32))] [(.int (2 : Int32)), (.int (2 : Int32))])) _
          refine XS.icmpNo X420.here hx rfl (hb hby at_191) rfl (by decide) ?_
          show Steps p.tables e below (T420.setTop (mkF m 194 #[.val (.long i0), .second, .val (.long i1), .second, .val (.long i2), .second, .val (.long i3), .second, .val (.int i4), .val (.int i5), .val (.long z101), .second, .val (.long z102), .second, .val (.ref b103), .val (.ref b105), .val (.ref b107), .val (.ref b328), .val (.int (3 : Int32)), .val (.int (0 : Int32)), .val (.long z101), .second, .val (.int (2 : Int32))] [])) _
          refine XS.iconst X420.here hx rfl (hb hby at_194) ?_
          show Steps p.tables e below (T420.setTop (mkF m 195 #[.val (.long i0), .second, .val (.long i1), .second, .val (.long i2), .second, .val (.long i3), .second, .val (.int i4), .val (.int i5), .val (.long z101), .second, .val (.long z102), .second, .val (.ref b103), .val (.ref b105), .val (.ref b107), .val (.ref b328), .val (.int (3 : Int32)), .val (.int (0 : Int32)), .val (.long z101), .second, .val (.int (2 : Int32))] [(.int (1 : Int32))])) _
          refine XS.goto X420.here hx rfl (pc0 := 195) (pc' := 199) rfl (hb hby at_195) (by decide) (by decide) ?_
          show Steps p.tables e below (T420.setTop (mkF m 199 #[.val (.long i0), .second, .val (.long i1), .second, .val (.long i2), .second, .val (.long i3), .second, .val (.int i4), .val (.int i5), .val (.long z101), .second, .val (.long z102), .second, .val (.ref b103), .val (.ref b105), .val (.ref b107), .val (.ref b328), .val (.int (3 : Int32)), .val (.int (0 : Int32)), .val (.long z101), .second, .val (.int (2 : Int32))] [(.int (1 : Int32))])) _
          exact retN X420 hx (t := .boolean) Bd.returns (by simp) (hb hby at_199) hr
        · show QL n0 _ T420.heap _
          rw [hh420]
          exact ⟨rfl, N420⟩
set_option maxRecDepth 65536 in
set_option maxHeartbeats 40000000 in
theorem comes_1 {Post : Tables → Env → Array Value → State → Outcome → State → Prop} (hpost : ∀ tb e args s v u, (limb_1_1.after args s (.returned v) u = true ∧ limb_1_2.after args s (.returned v) u = true ∧ True) → FrameEnd s (.returned v) u (Jvm.fieldLocs frame_1_writes args s ++ Jvm.arrayLocs frame_1_arrays args s ++ Jvm.staticLocs frame_1_statics s) 24 192 → Post tb e args s (.returned v) u) :
    ArmFor flags0 classFile x code maxLocals ret World_1 tables_1 room_1 Calls_1 rest_1 Pre_1 Post := by
  intro l hfl _ _ p e ha hc hk s m args below hf hA hF happ hP
  obtain ⟨hcalls, hrest, hpre⟩ := hP
  obtain ⟨-, -, -, hnamed, -, -, -, hat⟩ := (Spec.applies_iff hf).mp happ
  obtain ⟨hg, hn⟩ := and_e (Cond.before_iff.mp (show (Jvm.Cond.and given_1 narrow_1).before args s = true from hpre))
  obtain ⟨g0, r0⟩ := and_e hg
  obtain ⟨g1, r1⟩ := and_e r0
  obtain ⟨g2, r2⟩ := and_e r1
  obtain ⟨g3, r3⟩ := and_e r2
  obtain ⟨g4, r4⟩ := and_e r3
  obtain ⟨g5, r5⟩ := and_e r4
  obtain ⟨w0, w1, w2, w3, w4, w5, rfl⟩ : ∃ w0 w1 w2 w3 w4 w5 : Value, args = #[w0, w1, w2, w3, w4, w5] := by
    have hs : args.size = 6 := by simpa [Cond.value, given_1] using g0
    obtain ⟨L⟩ := args
    match L, hs with
    | [w0, w1, w2, w3, w4, w5], _ => exact ⟨w0, w1, w2, w3, w4, w5, rfl⟩
  have hw := fun d (hd : d ∈ tables_1) => atoms_spec (ws := Jvm.Cond.code x code maxLocals ret :: tables_1) hat d (List.mem_cons_of_mem _ hd)
  have hfit : Fit s := fun {y c} hc i hi => by
    obtain ⟨ha, rfl⟩ := Array.getElem?_eq_some_iff.mp hc
    have q := List.all_eq_true.mp ((Array.all_eq_true_iff_forall_mem.mp hF) _ (Array.getElem_mem ha)) i (List.mem_range.mpr hi)
    simpa [Array.getElem?_eq_getElem hi] using q
  obtain ⟨i0, ei0⟩ := isL_v g1
  obtain rfl : w0 = (.long i0) := Option.some.inj ei0
  obtain ⟨i1, ei1⟩ := isL_v g2
  obtain rfl : w1 = (.long i1) := Option.some.inj ei1
  obtain ⟨i2, ei2⟩ := isL_v g3
  obtain rfl : w2 = (.long i2) := Option.some.inj ei2
  obtain ⟨i3, ei3⟩ := isL_v g4
  obtain rfl : w3 = (.long i3) := Option.some.inj ei3
  obtain ⟨i4, ei4⟩ := is_v g5
  obtain rfl : w4 = (.int i4) := Option.some.inj ei4
  obtain ⟨i5, ei5⟩ := is_v r5
  obtain rfl : w5 = (.int i5) := Option.some.inj ei5
  obtain ⟨n, o, h1, h2, h3, _, L, rfl, ⟨rfl, N⟩, hq⟩ := rm0 l s _ hw tables_1 i0 i1 i2 i3 i4 i5 s.heap s.heap.size (Old.start s) p e ha hc hk s m _ below hf ((Spec.applies_iff_loose hf).mp happ).1 ⟨rfl, State.Warmed39.refl s, rfl⟩ trivial
  refine ⟨n, _, h1, h2, h3, hpost _ _ _ _ _ _ ⟨Cond.after_iff.mpr rfl, Cond.after_iff.mpr (eq_i res_at (Term.int_eval (1)) rfl), trivial⟩ ⟨hq.1, hq.2.1, (hq.2.2.sift fun y hy => Or.inr (N y hy)).mono (by decide) (by decide)⟩⟩
theorem main_1_1 : Claimed_1_1 := comes_1 fun _ _ _ _ _ _ h hF => ⟨h.1, hF⟩
theorem main_1_2 : Claimed_1_2 := comes_1 fun _ _ _ _ _ _ h hF => ⟨h.2.1, hF⟩
end Jvm.Pilot.@@N@@
namespace Jvm.Pilot.@@N@@
open Jvm Jvm.ClassFile Sem Op Lib Jvm.Free Jvm.Stand Jvm.Pilot.@@N@@.Jvm.D
/-! MADE BY PROGRAM (witnessworld.py) out of the Statement's table words and the real class files: 13 classes; the members and pool entries that the words name. The judged class is class 1, her method 1. -/
namespace start1
open Jvm.ClassFile
def u (s : String) : CpInfo := .utf8 (stringToUtf16 s)
/-- a pool by its gaps: so many unusable entries, then the entry; so many at the end -/
def gap : Nat → List CpInfo → List CpInfo
  | 0, r => r
  | n + 1, r => .unusable :: gap n r
def poolList (es : List (Nat × CpInfo)) (last : Nat) : List CpInfo := es.foldr (fun e r => gap e.1 (e.2 :: r)) (gap last [])
def pool (es : List (Nat × CpInfo)) (last : Nat) : Array CpInfo := ⟨poolList es last⟩
def fileOf (pool : Array CpInfo) (this : Nat) (attrs : Array Attribute := #[]) (ms : Array MethodInfo := #[]) (fl : Nat := 33) (sup : Nat := 0) (ifs : Array Nat := #[]) (fds : Array FieldInfo := #[]) : ClassFile where
  minorVersion := 0
  majorVersion := 65
  constantPool := pool
  accessFlags := fl
  thisClass := this
  superClass := sup
  interfaces := ifs
  fields := fds
  methods := ms
  attributes := attrs
def plain (name : String) (sup : Option ClassId) : Class where
  name := name
  kind := .ordinary
  loader := none
  accessFlags := 33
  super := sup
  interfaces := #[]
  cf := none
  fields := #[]
  methods := #[]
  instanceTypes := #[]
  staticTypes := #[]
  resolved := #[]
  callSites := []
  init := .initialized
  statics := none
  mirror := none

def pool0 : Array CpInfo := pool [(5, u "<init>"), (0, u "()V"), (1, .class_ 10), (1, u "java/lang/Object")] 113

def k0c0 : Code := { maxStack := 0, maxLocals := 1, code := object_method_1_code, exceptionTable := #[], attributes := #[] }
def k0m0 : Method := { name := "<init>", desc := "()V", sig := { parameters := [], returnType := none }, accessFlags := 1, code := some k0c0 }
/-- java/lang/Object -/
def k0 : Class := { plain "java/lang/Object" none with
  accessFlags := 33
  interfaces := #[]
  cf := some (fileOf pool0 8 #[] #[{ accessFlags := 1, nameIndex := 5, descriptorIndex := 6, attributes := #[] }] 33 0 #[] #[])
  fields := #[]
  methods := #[k0m0]
  instanceTypes := #[]
  staticTypes := #[]
  resolved := Array.replicate 124 none
  statics := none }

def pool1 : Array CpInfo := pool [(2, .class_ 4), (0, .nameAndType 5 6), (0, u "java/lang/Object"), (0, u "<init>"), (0, u "()V"), (0, .long 2), (1, .methodref 10 11), (0, .class_ 12), (0, .nameAndType 13 14), (0, u "com/example/keyfold/keyfold/Key"), (0, u "ofInteger"), (0, u "(J)Lcom/example/keyfold/keyfold/Key;"), (0, .class_ 16), (0, u "com/example/keyfold/keyfold/KeyTable"), (0, .methodref 15 3), (0, .methodref 15 19), (0, .nameAndType 20 21), (0, u "put"), (0, u "(Lcom/example/keyfold/keyfold/Key;J)J"), (0, .methodref 15 23), (0, .nameAndType 24 25), (0, u "hash"), (0, u "(Lcom/example/keyfold/keyfold/Key;)I"), (0, .methodref 15 27), (0, .nameAndType 28 29), (0, u "prefetch"), (0, u "([II)V"), (0, .methodref 15 31), (0, .nameAndType 32 33), (0, u "get"), (0, u "(Lcom/example/keyfold/keyfold/Key;)J"), (0, .methodref 15 35), (0, .nameAndType 36 37), (0, u "size"), (0, u "()I"), (0, .class_ 39), (0, u "com/example/keyfold/keyfold/KeyTablePrefetchPinLaw"), (2, u "law"), (0, u "(JJJJII)Z")] 5

def k1m0 : Method := { name := "<init>", desc := "()V", sig := { parameters := [], returnType := none }, accessFlags := 1, code := none }
def k1c1 : Code := { maxStack := 5, maxLocals := 23, code := code, exceptionTable := #[], attributes := #[] }
def k1m1 : Method := { name := "law", desc := "(JJJJII)Z", sig := { parameters := [.long, .long, .long, .long, .int, .int], returnType := some .boolean }, accessFlags := 9, code := some k1c1 }
/-- com/example/keyfold/keyfold/KeyTablePrefetchPinLaw -/
def k1 : Class := { plain "com/example/keyfold/keyfold/KeyTablePrefetchPinLaw" (some 0) with
  accessFlags := 49
  interfaces := #[]
  cf := some (fileOf pool1 38 #[] #[{ accessFlags := 1, nameIndex := 5, descriptorIndex := 6, attributes := #[] }, { accessFlags := 9, nameIndex := 42, descriptorIndex := 43, attributes := #[] }] 49 2 #[] #[])
  fields := #[]
  methods := #[k1m0, k1m1]
  instanceTypes := #[]
  staticTypes := #[]
  resolved := Array.replicate 49 none
  statics := none }

def pool2 : Array CpInfo := pool [(1, .class_ 2), (0, u "java/lang/Comparable"), (0, .class_ 4), (0, u "java/lang/Object")] 7

/-- java/lang/Comparable -/
def k2 : Class := { plain "java/lang/Comparable" (some 0) with
  accessFlags := 1537
  interfaces := #[]
  cf := some (fileOf pool2 1 #[] #[] 1537 3 #[] #[])
  fields := #[]
  methods := #[]
  instanceTypes := #[]
  staticTypes := #[]
  resolved := Array.replicate 12 none
  statics := none }

def pool3 : Array CpInfo := pool [(1, .methodref 2 3), (0, .class_ 4), (0, .nameAndType 5 6), (0, u "java/lang/Object"), (0, u "<init>"), (0, u "()V"), (2, .fieldref 10 11), (0, .class_ 12), (0, .nameAndType 13 14), (0, u "com/example/keyfold/keyfold/Key"), (0, u "parts"), (0, u "[Ljava/lang/Object;"), (3, u "()J"), (0, .fieldref 10 20), (0, .nameAndType 21 22), (0, u "integer"), (0, u "J"), (0, .methodref 10 24), (0, .nameAndType 5 25), (0, u "(J)V"), (12, u "()Z"), (101, .class_ 142), (1, u "com/example/keyfold/keyfold/Key$1"), (23, u "isInteger"), (21, u "LONG_MIN"), (0, u "Ljava/math/BigDecimal;"), (6, u "LONG_MAX"), (70, .class_ 268), (0, u "java/lang/Comparable"), (0, u "INTEGER_PART"), (0, u "I"), (2, u "DECIMAL_PART"), (1, u "STRING_PART"), (5, u "ofInteger"), (0, u "(J)Lcom/example/keyfold/keyfold/Key;")] 46

def k3c0 : Code := { maxStack := 3, maxLocals := 3, code := prog_51_method_2_code, exceptionTable := #[], attributes := #[] }
def k3m0 : Method := { name := "<init>", desc := "(J)V", sig := { parameters := [.long], returnType := none }, accessFlags := 2, code := some k3c0 }
def k3c1 : Code := { maxStack := 4, maxLocals := 2, code := prog_51_method_3_code, exceptionTable := #[], attributes := #[] }
def k3m1 : Method := { name := "ofInteger", desc := "(J)Lcom/example/keyfold/keyfold/Key;", sig := { parameters := [.long], returnType := some (.object "com/example/keyfold/keyfold/Key") }, accessFlags := 8, code := some k3c1 }
def k3c2 : Code := { maxStack := 1, maxLocals := 1, code := prog_51_method_4_code, exceptionTable := #[], attributes := #[] }
def k3m2 : Method := { name := "isInteger", desc := "()Z", sig := { parameters := [], returnType := some .boolean }, accessFlags := 0, code := some k3c2 }
def k3c3 : Code := { maxStack := 2, maxLocals := 1, code := prog_51_method_5_code, exceptionTable := #[], attributes := #[] }
def k3m3 : Method := { name := "integer", desc := "()J", sig := { parameters := [], returnType := some .long }, accessFlags := 0, code := some k3c3 }
/-- com/example/keyfold/keyfold/Key -/
def k3 : Class := { plain "com/example/keyfold/keyfold/Key" (some 0) with
  accessFlags := 48
  interfaces := #[2]
  cf := some (fileOf pool3 10 #[.nestMembers #[140]] #[{ accessFlags := 2, nameIndex := 5, descriptorIndex := 25, attributes := #[] }, { accessFlags := 8, nameIndex := 281, descriptorIndex := 282, attributes := #[] }, { accessFlags := 0, nameIndex := 166, descriptorIndex := 38, attributes := #[] }, { accessFlags := 0, nameIndex := 21, descriptorIndex := 18, attributes := #[] }] 48 2 #[267] #[{ accessFlags := 26, nameIndex := 188, descriptorIndex := 189, attributes := #[] }, { accessFlags := 26, nameIndex := 196, descriptorIndex := 189, attributes := #[] }, { accessFlags := 26, nameIndex := 269, descriptorIndex := 270, attributes := #[] }, { accessFlags := 26, nameIndex := 273, descriptorIndex := 270, attributes := #[] }, { accessFlags := 26, nameIndex := 275, descriptorIndex := 270, attributes := #[] }, { accessFlags := 18, nameIndex := 13, descriptorIndex := 14, attributes := #[] }, { accessFlags := 18, nameIndex := 21, descriptorIndex := 22, attributes := #[] }])
  fields := #[{ name := "LONG_MIN", type := (.object "java/math/BigDecimal"), accessFlags := 26, slot := 0, constantValue := 0 }, { name := "LONG_MAX", type := (.object "java/math/BigDecimal"), accessFlags := 26, slot := 1, constantValue := 0 }, { name := "INTEGER_PART", type := .int, accessFlags := 26, slot := 2, constantValue := 0 }, { name := "DECIMAL_PART", type := .int, accessFlags := 26, slot := 3, constantValue := 0 }, { name := "STRING_PART", type := .int, accessFlags := 26, slot := 4, constantValue := 0 }, { name := "parts", type := (.array (.object "java/lang/Object")), accessFlags := 18, slot := 0, constantValue := 0 }, { name := "integer", type := .long, accessFlags := 18, slot := 1, constantValue := 0 }]
  methods := #[k3m0, k3m1, k3m2, k3m3]
  instanceTypes := #[(.array (.object "java/lang/Object")), .long]
  staticTypes := #[(.object "java/math/BigDecimal"), (.object "java/math/BigDecimal"), .int, .int, .int]
  resolved := Array.replicate 329 none
  statics := none }

def pool4 : Array CpInfo := pool [(1, .methodref 2 3), (0, .class_ 4), (0, .nameAndType 5 6), (0, u "java/lang/Object"), (0, u "<init>"), (0, u "()V"), (0, .methodref 8 9), (0, .class_ 10), (0, .nameAndType 11 6), (0, u "com/example/keyfold/keyfold/KeyTable"), (0, u "clear"), (0, .methodref 8 13), (0, .nameAndType 14 15), (0, u "find"), (0, u "(Lcom/example/keyfold/keyfold/Key;)I"), (0, .methodref 8 17), (0, .nameAndType 18 19), (0, u "value"), (0, u "(I)J"), (0, .methodref 8 21), (0, .nameAndType 22 15), (0, u "slotFor"), (0, .fieldref 8 24), (0, .nameAndType 25 26), (0, u "slots"), (0, u "[J"), (0, .fieldref 8 28), (0, .nameAndType 29 30), (0, u "size"), (0, u "I"), (0, .fieldref 8 32), (0, .nameAndType 33 30), (0, u "mask"), (3, .methodref 38 39), (0, .class_ 40), (0, .nameAndType 41 42), (0, u "com/example/keyfold/keyfold/Key"), (0, u "isInteger"), (0, u "()Z"), (0, .methodref 38 44), (0, .nameAndType 45 46), (0, u "integer"), (0, u "()J"), (0, .fieldref 8 48), (0, .nameAndType 49 50), (0, u "others"), (0, u "[Lcom/example/keyfold/keyfold/Key;"), (0, .fieldref 8 52), (0, .nameAndType 53 54), (0, u "prefetched"), (0, u "J"), (28, .class_ 85), (1, u "com/example/keyfold/keyfold/KeyTable$Slots"), (1, .methodref 8 88), (0, .nameAndType 89 90), (0, u "hash"), (0, u "(J)I"), (3, u "()I"), (8, .long 18397679294719823053), (1, .long 14181476777654086739), (1, u "FIRST_CAPACITY"), (4, u "get"), (0, u "(Lcom/example/keyfold/keyfold/Key;)J"), (0, u "put"), (0, u "(Lcom/example/keyfold/keyfold/Key;J)J"), (2, u "prefetch"), (0, u "([II)V")] 21

def k4c0 : Code := { maxStack := 1, maxLocals := 1, code := prog_58_method_1_code, exceptionTable := #[], attributes := #[] }
def k4m0 : Method := { name := "<init>", desc := "()V", sig := { parameters := [], returnType := none }, accessFlags := 0, code := some k4c0 }
def k4c1 : Code := { maxStack := 3, maxLocals := 2, code := prog_58_method_2_code, exceptionTable := #[], attributes := #[] }
def k4m1 : Method := { name := "get", desc := "(Lcom/example/keyfold/keyfold/Key;)J", sig := { parameters := [(.object "com/example/keyfold/keyfold/Key")], returnType := some .long }, accessFlags := 0, code := some k4c1 }
def k4c2 : Code := { maxStack := 4, maxLocals := 7, code := prog_58_method_3_code, exceptionTable := #[], attributes := #[] }
def k4m2 : Method := { name := "put", desc := "(Lcom/example/keyfold/keyfold/Key;J)J", sig := { parameters := [(.object "com/example/keyfold/keyfold/Key"), .long], returnType := some .long }, accessFlags := 0, code := some k4c2 }
def k4c3 : Code := { maxStack := 4, maxLocals := 3, code := prog_58_method_5_code, exceptionTable := #[], attributes := #[] }
def k4m3 : Method := { name := "slotFor", desc := "(Lcom/example/keyfold/keyfold/Key;)I", sig := { parameters := [(.object "com/example/keyfold/keyfold/Key")], returnType := some .int }, accessFlags := 2, code := some k4c3 }
def k4c4 : Code := { maxStack := 6, maxLocals := 6, code := prog_58_method_6_code, exceptionTable := #[], attributes := #[] }
def k4m4 : Method := { name := "prefetch", desc := "([II)V", sig := { parameters := [(.array .int), .int], returnType := none }, accessFlags := 0, code := some k4c4 }
def k4c5 : Code := { maxStack := 2, maxLocals := 1, code := prog_58_method_8_code, exceptionTable := #[], attributes := #[] }
def k4m5 : Method := { name := "clear", desc := "()V", sig := { parameters := [], returnType := none }, accessFlags := 0, code := some k4c5 }
def k4c6 : Code := { maxStack := 1, maxLocals := 1, code := prog_58_method_9_code, exceptionTable := #[], attributes := #[] }
def k4m6 : Method := { name := "size", desc := "()I", sig := { parameters := [], returnType := some .int }, accessFlags := 0, code := some k4c6 }
def k4c7 : Code := { maxStack := 2, maxLocals := 1, code := prog_58_method_15_code, exceptionTable := #[], attributes := #[] }
def k4m7 : Method := { name := "hash", desc := "(Lcom/example/keyfold/keyfold/Key;)I", sig := { parameters := [(.object "com/example/keyfold/keyfold/Key")], returnType := some .int }, accessFlags := 8, code := some k4c7 }
def k4c8 : Code := { maxStack := 4, maxLocals := 5, code := prog_58_method_16_code, exceptionTable := #[], attributes := #[] }
def k4m8 : Method := { name := "find", desc := "(Lcom/example/keyfold/keyfold/Key;)I", sig := { parameters := [(.object "com/example/keyfold/keyfold/Key")], returnType := some .int }, accessFlags := 2, code := some k4c8 }
def k4c9 : Code := { maxStack := 3, maxLocals := 2, code := prog_58_method_17_code, exceptionTable := #[], attributes := #[] }
def k4m9 : Method := { name := "value", desc := "(I)J", sig := { parameters := [.int], returnType := some .long }, accessFlags := 2, code := some k4c9 }
def k4c10 : Code := { maxStack := 5, maxLocals := 4, code := prog_58_method_23_code, exceptionTable := #[], attributes := #[] }
def k4m10 : Method := { name := "hash", desc := "(J)I", sig := { parameters := [.long], returnType := some .int }, accessFlags := 10, code := some k4c10 }
/-- com/example/keyfold/keyfold/KeyTable -/
def k4 : Class := { plain "com/example/keyfold/keyfold/KeyTable" (some 0) with
  accessFlags := 48
  interfaces := #[]
  cf := some (fileOf pool4 8 #[.nestMembers #[83]] #[{ accessFlags := 0, nameIndex := 5, descriptorIndex := 6, attributes := #[] }, { accessFlags := 0, nameIndex := 112, descriptorIndex := 113, attributes := #[] }, { accessFlags := 0, nameIndex := 114, descriptorIndex := 115, attributes := #[] }, { accessFlags := 2, nameIndex := 22, descriptorIndex := 15, attributes := #[] }, { accessFlags := 0, nameIndex := 118, descriptorIndex := 119, attributes := #[] }, { accessFlags := 0, nameIndex := 11, descriptorIndex := 6, attributes := #[] }, { accessFlags := 0, nameIndex := 29, descriptorIndex := 94, attributes := #[] }, { accessFlags := 8, nameIndex := 89, descriptorIndex := 15, attributes := #[] }, { accessFlags := 2, nameIndex := 14, descriptorIndex := 15, attributes := #[] }, { accessFlags := 2, nameIndex := 18, descriptorIndex := 19, attributes := #[] }, { accessFlags := 10, nameIndex := 89, descriptorIndex := 90, attributes := #[] }] 48 2 #[] #[{ accessFlags := 26, nameIndex := 107, descriptorIndex := 30, attributes := #[] }, { accessFlags := 2, nameIndex := 25, descriptorIndex := 26, attributes := #[] }, { accessFlags := 2, nameIndex := 49, descriptorIndex := 50, attributes := #[] }, { accessFlags := 2, nameIndex := 33, descriptorIndex := 30, attributes := #[] }, { accessFlags := 2, nameIndex := 29, descriptorIndex := 30, attributes := #[] }, { accessFlags := 2, nameIndex := 53, descriptorIndex := 54, attributes := #[] }])
  fields := #[{ name := "FIRST_CAPACITY", type := .int, accessFlags := 26, slot := 0, constantValue := 0 }, { name := "slots", type := (.array .long), accessFlags := 2, slot := 0, constantValue := 0 }, { name := "others", type := (.array (.object "com/example/keyfold/keyfold/Key")), accessFlags := 2, slot := 1, constantValue := 0 }, { name := "mask", type := .int, accessFlags := 2, slot := 2, constantValue := 0 }, { name := "size", type := .int, accessFlags := 2, slot := 3, constantValue := 0 }, { name := "prefetched", type := .long, accessFlags := 2, slot := 4, constantValue := 0 }]
  methods := #[k4m0, k4m1, k4m2, k4m3, k4m4, k4m5, k4m6, k4m7, k4m8, k4m9, k4m10]
  instanceTypes := #[(.array .long), (.array (.object "com/example/keyfold/keyfold/Key")), .int, .int, .long]
  staticTypes := #[.int]
  resolved := Array.replicate 141 none
  statics := none }

def pool5 : Array CpInfo := pool [(1, u "java/lang/Cloneable"), (0, .class_ 1), (0, u "java/lang/Object"), (0, .class_ 3)] 3

/-- java/lang/Cloneable -/
def k5 : Class := { plain "java/lang/Cloneable" (some 0) with
  accessFlags := 1537
  interfaces := #[]
  cf := some (fileOf pool5 2 #[] #[] 1537 4 #[] #[])
  fields := #[]
  methods := #[]
  instanceTypes := #[]
  staticTypes := #[]
  resolved := Array.replicate 8 none
  statics := none }

def pool6 : Array CpInfo := pool [(1, u "java/io/Serializable"), (0, .class_ 1), (0, u "java/lang/Object"), (0, .class_ 3)] 3

/-- java/io/Serializable -/
def k6 : Class := { plain "java/io/Serializable" (some 0) with
  accessFlags := 1537
  interfaces := #[]
  cf := some (fileOf pool6 2 #[] #[] 1537 4 #[] #[])
  fields := #[]
  methods := #[]
  instanceTypes := #[]
  staticTypes := #[]
  resolved := Array.replicate 8 none
  statics := none }

/-- the primitive byte -/
def k7 : Class := { plain "byte" none with kind := .primitive 'B', accessFlags := 0x411 }
/-- [B -/
def k8 : Class := { plain "[B" (some 0) with kind := .array 7 .byte, interfaces := #[5, 6], accessFlags := 1041 }

/-- the primitive int -/
def k9 : Class := { plain "int" none with kind := .primitive 'I', accessFlags := 0x411 }
/-- [I -/
def k10 : Class := { plain "[I" (some 0) with kind := .array 9 .int, interfaces := #[5, 6], accessFlags := 1041 }

/-- the primitive long -/
def k11 : Class := { plain "long" none with kind := .primitive 'J', accessFlags := 0x411 }
/-- [J -/
def k12 : Class := { plain "[J" (some 0) with kind := .array 11 .long, interfaces := #[5, 6], accessFlags := 1041 }

def heap : Heap := #[]
def classes : Array Class := #[k0, k1, k2, k3, k4, k5, k6, k7, k8, k9, k10, k11, k12]
def interned : List (Array UInt16 × Addr) := []
def slotsUsed : Nat := 0
def theMethod : MethodId := ⟨1, 1⟩
def args0 : Array Value := #[.long 5, .long 6, .long 7, .long 8, .int 1, .int 2]
def aboutOver (below : List Frame) : State where
  vm := { classes := classes, interned := interned.toArray }
  heap := heap
  slotsUsed := slotsUsed
  threads := #[{ frames := .invoking theMethod args0 :: below }]
def below0 : List Frame := [.native { method := ⟨0, 0⟩, args := #[] }]
def about1 : State := aboutOver below0
def p0 : Program := .bare "" "" ""
def e0 : Env := launch0.env 0 0 0
theorem w_frames : about1.frames = Frame.invoking theMethod args0 :: below0 := rfl
set_option maxRecDepth 65536 in
theorem w_args : argsFit about1.vm theMethod args0 = true := by decide +kernel
set_option maxRecDepth 65536 in
theorem w_heap : heapFits about1 = true := by decide +kernel
set_option maxRecDepth 65536 in
theorem w_runnable : about1.curStatus? = some .runnable := by decide +kernel
set_option maxRecDepth 65536 in
theorem w_alone : about1.alone = true := by decide +kernel
set_option maxRecDepth 65536 in
theorem w_named : about1.methodNamed? x = some theMethod := by decide +kernel
set_option maxRecDepth 65536 in
theorem w_hears : about1.hears theMethod below0 = true := by decide +kernel
set_option maxRecDepth 65536 in
theorem w_ripe : about1.ripe theMethod args0 below0 = true := by decide +kernel
theorem w_running : about1.status = .running := rfl
set_option maxRecDepth 65536 in
theorem w_room : about1.hasRoom e0.platform room_1 = true :=
  launch0.hasRoom_least _ room_1 (by decide +kernel) (by decide +kernel) (by decide +kernel) (by decide +kernel) (by decide +kernel) (by decide +kernel)
theorem allAtoms_all (ts : List Jvm.Cond) (a : Array Jvm.Value) (st : Jvm.State) : (allAtoms ts).before a st = ts.all (fun c => c.before a st) := by
  induction ts with
  | nil => rfl
  | cons c t ih =>
    show (Jvm.Cond.and c (allAtoms t)).before a st = _
    rw [Jvm.Cond.before_and, ih, List.all_cons]
def words1 : List Jvm.Cond := Jvm.Cond.code x code maxLocals ret :: tables_1
/-- a 'code' word, met by the world's own term for the bytes: nothing is compared byte by byte -/
theorem code_word {y : MethodName} {bytes : ByteArray} {mx : Nat} {rt : Option FieldType} {a : Array Value} {s : State} {m : MethodId} {meth : Method} {c : Code} (h1 : s.methodNamed? y = some m) (h2 : s.vm.method? m = some meth) (h3 : meth.code = some c) (h4 : c.code = bytes)
    (h5 : (c.maxLocals == mx && c.exceptionTable.isEmpty && decide (c.maxStack ≤ mostOperands) && decide (meth.sig.returnType = rt) && !meth.locks && decide (parseMethodDescriptor y.desc = some meth.sig)) = true) : (Jvm.Cond.code y bytes mx rt).before a s = true := by
  simp only [Bool.and_eq_true, beq_iff_eq, Bool.not_eq_true', decide_eq_true_eq] at h5
  obtain ⟨⟨⟨⟨⟨g1, g2⟩, g3⟩, g4⟩, g5⟩, g6⟩ := h5
  simp [Cond.before, Cond.holds, Cond.value, h1, h2, h3, h4, g1, g2, g3, g4, g5, g6]
def isCode : Jvm.Cond → Bool
  | .code _ _ _ _ => true
  | _ => false
theorem all_split {L : List Jvm.Cond} {P : Jvm.Cond → Bool} (h1 : L.all (fun c => isCode c || P c) = true) (h2 : ∀ c ∈ L.filter isCode, P c = true) : L.all P = true := by
  refine List.all_eq_true.mpr fun c hc => ?_
  have h := List.all_eq_true.mp h1 c hc
  rcases Bool.eq_false_or_eq_true (isCode c) with hi | hi
  · exact h2 c (List.mem_filter.mpr ⟨hc, hi⟩)
  · simpa [hi] using h
set_option maxRecDepth 65536 in
theorem w_c0 : (Jvm.Cond.code x code maxLocals ret).before args0 about1 = true := code_word (m := ⟨1, 1⟩) (meth := k1m1) (c := k1c1) (by decide +kernel) rfl rfl rfl (by decide +kernel)
set_option maxRecDepth 65536 in
theorem w_c1 : (Jvm.Cond.code ({ cls := "com/example/keyfold/keyfold/Key", name := "ofInteger", desc := "(J)Lcom/example/keyfold/keyfold/Key;" } : Jvm.MethodName) prog_51_method_3_code (2 : Nat) (Option.some (Jvm.ClassFile.FieldType.object "com/example/keyfold/keyfold/Key"))).before args0 about1 = true := code_word (m := ⟨3, 1⟩) (meth := k3m1) (c := k3c1) (by decide +kernel) rfl rfl rfl (by decide +kernel)
set_option maxRecDepth 65536 in
theorem w_c2 : (Jvm.Cond.code ({ cls := "com/example/keyfold/keyfold/Key", name := "<init>", desc := "(J)V" } : Jvm.MethodName) prog_51_method_2_code (3 : Nat) (Option.none : Option Jvm.ClassFile.FieldType)).before args0 about1 = true := code_word (m := ⟨3, 0⟩) (meth := k3m0) (c := k3c0) (by decide +kernel) rfl rfl rfl (by decide +kernel)
set_option maxRecDepth 65536 in
theorem w_c3 : (Jvm.Cond.code ({ cls := "java/lang/Object", name := "<init>", desc := "()V" } : Jvm.MethodName) object_method_1_code (1 : Nat) (Option.none : Option Jvm.ClassFile.FieldType)).before args0 about1 = true := code_word (m := ⟨0, 0⟩) (meth := k0m0) (c := k0c0) (by decide +kernel) rfl rfl rfl (by decide +kernel)
set_option maxRecDepth 65536 in
theorem w_c4 : (Jvm.Cond.code ({ cls := "com/example/keyfold/keyfold/KeyTable", name := "<init>", desc := "()V" } : Jvm.MethodName) prog_58_method_1_code (1 : Nat) (Option.none : Option Jvm.ClassFile.FieldType)).before args0 about1 = true := code_word (m := ⟨4, 0⟩) (meth := k4m0) (c := k4c0) (by decide +kernel) rfl rfl rfl (by decide +kernel)
set_option maxRecDepth 65536 in
theorem w_c5 : (Jvm.Cond.code ({ cls := "com/example/keyfold/keyfold/KeyTable", name := "clear", desc := "()V" } : Jvm.MethodName) prog_58_method_8_code (1 : Nat) (Option.none : Option Jvm.ClassFile.FieldType)).before args0 about1 = true := code_word (m := ⟨4, 5⟩) (meth := k4m5) (c := k4c5) (by decide +kernel) rfl rfl rfl (by decide +kernel)
set_option maxRecDepth 65536 in
theorem w_c6 : (Jvm.Cond.code ({ cls := "com/example/keyfold/keyfold/KeyTable", name := "put", desc := "(Lcom/example/keyfold/keyfold/Key;J)J" } : Jvm.MethodName) prog_58_method_3_code (7 : Nat) (Option.some Jvm.ClassFile.FieldType.long)).before args0 about1 = true := code_word (m := ⟨4, 2⟩) (meth := k4m2) (c := k4c2) (by decide +kernel) rfl rfl rfl (by decide +kernel)
set_option maxRecDepth 65536 in
theorem w_c7 : (Jvm.Cond.code ({ cls := "com/example/keyfold/keyfold/KeyTable", name := "slotFor", desc := "(Lcom/example/keyfold/keyfold/Key;)I" } : Jvm.MethodName) prog_58_method_5_code (3 : Nat) (Option.some Jvm.ClassFile.FieldType.int)).before args0 about1 = true := code_word (m := ⟨4, 3⟩) (meth := k4m3) (c := k4c3) (by decide +kernel) rfl rfl rfl (by decide +kernel)
set_option maxRecDepth 65536 in
theorem w_c8 : (Jvm.Cond.code ({ cls := "com/example/keyfold/keyfold/KeyTable", name := "find", desc := "(Lcom/example/keyfold/keyfold/Key;)I" } : Jvm.MethodName) prog_58_method_16_code (5 : Nat) (Option.some Jvm.ClassFile.FieldType.int)).before args0 about1 = true := code_word (m := ⟨4, 8⟩) (meth := k4m8) (c := k4c8) (by decide +kernel) rfl rfl rfl (by decide +kernel)
set_option maxRecDepth 65536 in
theorem w_c9 : (Jvm.Cond.code ({ cls := "com/example/keyfold/keyfold/Key", name := "isInteger", desc := "()Z" } : Jvm.MethodName) prog_51_method_4_code (1 : Nat) (Option.some Jvm.ClassFile.FieldType.boolean)).before args0 about1 = true := code_word (m := ⟨3, 2⟩) (meth := k3m2) (c := k3c2) (by decide +kernel) rfl rfl rfl (by decide +kernel)
set_option maxRecDepth 65536 in
theorem w_c10 : (Jvm.Cond.code ({ cls := "com/example/keyfold/keyfold/Key", name := "integer", desc := "()J" } : Jvm.MethodName) prog_51_method_5_code (1 : Nat) (Option.some Jvm.ClassFile.FieldType.long)).before args0 about1 = true := code_word (m := ⟨3, 3⟩) (meth := k3m3) (c := k3c3) (by decide +kernel) rfl rfl rfl (by decide +kernel)
set_option maxRecDepth 65536 in
theorem w_c11 : (Jvm.Cond.code ({ cls := "com/example/keyfold/keyfold/KeyTable", name := "hash", desc := "(J)I" } : Jvm.MethodName) prog_58_method_23_code (4 : Nat) (Option.some Jvm.ClassFile.FieldType.int)).before args0 about1 = true := code_word (m := ⟨4, 10⟩) (meth := k4m10) (c := k4c10) (by decide +kernel) rfl rfl rfl (by decide +kernel)
set_option maxRecDepth 65536 in
theorem w_c12 : (Jvm.Cond.code ({ cls := "com/example/keyfold/keyfold/KeyTable", name := "value", desc := "(I)J" } : Jvm.MethodName) prog_58_method_17_code (2 : Nat) (Option.some Jvm.ClassFile.FieldType.long)).before args0 about1 = true := code_word (m := ⟨4, 9⟩) (meth := k4m9) (c := k4c9) (by decide +kernel) rfl rfl rfl (by decide +kernel)
set_option maxRecDepth 65536 in
theorem w_c13 : (Jvm.Cond.code ({ cls := "com/example/keyfold/keyfold/KeyTable", name := "hash", desc := "(Lcom/example/keyfold/keyfold/Key;)I" } : Jvm.MethodName) prog_58_method_15_code (1 : Nat) (Option.some Jvm.ClassFile.FieldType.int)).before args0 about1 = true := code_word (m := ⟨4, 7⟩) (meth := k4m7) (c := k4c7) (by decide +kernel) rfl rfl rfl (by decide +kernel)
set_option maxRecDepth 65536 in
theorem w_c14 : (Jvm.Cond.code ({ cls := "com/example/keyfold/keyfold/KeyTable", name := "prefetch", desc := "([II)V" } : Jvm.MethodName) prog_58_method_6_code (6 : Nat) (Option.none : Option Jvm.ClassFile.FieldType)).before args0 about1 = true := code_word (m := ⟨4, 4⟩) (meth := k4m4) (c := k4c4) (by decide +kernel) rfl rfl rfl (by decide +kernel)
set_option maxRecDepth 65536 in
theorem w_c15 : (Jvm.Cond.code ({ cls := "com/example/keyfold/keyfold/KeyTable", name := "get", desc := "(Lcom/example/keyfold/keyfold/Key;)J" } : Jvm.MethodName) prog_58_method_2_code (2 : Nat) (Option.some Jvm.ClassFile.FieldType.long)).before args0 about1 = true := code_word (m := ⟨4, 1⟩) (meth := k4m1) (c := k4c1) (by decide +kernel) rfl rfl rfl (by decide +kernel)
set_option maxRecDepth 65536 in
theorem w_c16 : (Jvm.Cond.code ({ cls := "com/example/keyfold/keyfold/KeyTable", name := "size", desc := "()I" } : Jvm.MethodName) prog_58_method_9_code (1 : Nat) (Option.some Jvm.ClassFile.FieldType.int)).before args0 about1 = true := code_word (m := ⟨4, 6⟩) (meth := k4m6) (c := k4c6) (by decide +kernel) rfl rfl rfl (by decide +kernel)
def codes1 : List Jvm.Cond := [Jvm.Cond.code x code maxLocals ret, Jvm.Cond.code ({ cls := "com/example/keyfold/keyfold/Key", name := "ofInteger", desc := "(J)Lcom/example/keyfold/keyfold/Key;" } : Jvm.MethodName) prog_51_method_3_code (2 : Nat) (Option.some (Jvm.ClassFile.FieldType.object "com/example/keyfold/keyfold/Key")), Jvm.Cond.code ({ cls := "com/example/keyfold/keyfold/Key", name := "<init>", desc := "(J)V" } : Jvm.MethodName) prog_51_method_2_code (3 : Nat) (Option.none : Option Jvm.ClassFile.FieldType), Jvm.Cond.code ({ cls := "java/lang/Object", name := "<init>", desc := "()V" } : Jvm.MethodName) object_method_1_code (1 : Nat) (Option.none : Option Jvm.ClassFile.FieldType), Jvm.Cond.code ({ cls := "com/example/keyfold/keyfold/KeyTable", name := "<init>", desc := "()V" } : Jvm.MethodName) prog_58_method_1_code (1 : Nat) (Option.none : Option Jvm.ClassFile.FieldType), Jvm.Cond.code ({ cls := "com/example/keyfold/keyfold/KeyTable", name := "clear", desc := "()V" } : Jvm.MethodName) prog_58_method_8_code (1 : Nat) (Option.none : Option Jvm.ClassFile.FieldType), Jvm.Cond.code ({ cls := "com/example/keyfold/keyfold/KeyTable", name := "put", desc := "(Lcom/example/keyfold/keyfold/Key;J)J" } : Jvm.MethodName) prog_58_method_3_code (7 : Nat) (Option.some Jvm.ClassFile.FieldType.long), Jvm.Cond.code ({ cls := "com/example/keyfold/keyfold/KeyTable", name := "slotFor", desc := "(Lcom/example/keyfold/keyfold/Key;)I" } : Jvm.MethodName) prog_58_method_5_code (3 : Nat) (Option.some Jvm.ClassFile.FieldType.int), Jvm.Cond.code ({ cls := "com/example/keyfold/keyfold/KeyTable", name := "find", desc := "(Lcom/example/keyfold/keyfold/Key;)I" } : Jvm.MethodName) prog_58_method_16_code (5 : Nat) (Option.some Jvm.ClassFile.FieldType.int), Jvm.Cond.code ({ cls := "com/example/keyfold/keyfold/Key", name := "isInteger", desc := "()Z" } : Jvm.MethodName) prog_51_method_4_code (1 : Nat) (Option.some Jvm.ClassFile.FieldType.boolean), Jvm.Cond.code ({ cls := "com/example/keyfold/keyfold/Key", name := "integer", desc := "()J" } : Jvm.MethodName) prog_51_method_5_code (1 : Nat) (Option.some Jvm.ClassFile.FieldType.long), Jvm.Cond.code ({ cls := "com/example/keyfold/keyfold/KeyTable", name := "hash", desc := "(J)I" } : Jvm.MethodName) prog_58_method_23_code (4 : Nat) (Option.some Jvm.ClassFile.FieldType.int), Jvm.Cond.code ({ cls := "com/example/keyfold/keyfold/KeyTable", name := "value", desc := "(I)J" } : Jvm.MethodName) prog_58_method_17_code (2 : Nat) (Option.some Jvm.ClassFile.FieldType.long), Jvm.Cond.code ({ cls := "com/example/keyfold/keyfold/KeyTable", name := "hash", desc := "(Lcom/example/keyfold/keyfold/Key;)I" } : Jvm.MethodName) prog_58_method_15_code (1 : Nat) (Option.some Jvm.ClassFile.FieldType.int), Jvm.Cond.code ({ cls := "com/example/keyfold/keyfold/KeyTable", name := "prefetch", desc := "([II)V" } : Jvm.MethodName) prog_58_method_6_code (6 : Nat) (Option.none : Option Jvm.ClassFile.FieldType), Jvm.Cond.code ({ cls := "com/example/keyfold/keyfold/KeyTable", name := "get", desc := "(Lcom/example/keyfold/keyfold/Key;)J" } : Jvm.MethodName) prog_58_method_2_code (2 : Nat) (Option.some Jvm.ClassFile.FieldType.long), Jvm.Cond.code ({ cls := "com/example/keyfold/keyfold/KeyTable", name := "size", desc := "()I" } : Jvm.MethodName) prog_58_method_9_code (1 : Nat) (Option.some Jvm.ClassFile.FieldType.int)]
set_option maxRecDepth 65536 in
theorem codes_eq : words1.filter isCode = codes1 := rfl
theorem w_codes : ∀ c ∈ words1.filter isCode, c.before args0 about1 = true := by
  rw [codes_eq]
  intro c hc
  simp only [codes1, List.mem_cons, List.not_mem_nil, or_false] at hc
  rcases hc with rfl | rfl | rfl | rfl | rfl | rfl | rfl | rfl | rfl | rfl | rfl | rfl | rfl | rfl | rfl | rfl | rfl
  · exact w_c0
  · exact w_c1
  · exact w_c2
  · exact w_c3
  · exact w_c4
  · exact w_c5
  · exact w_c6
  · exact w_c7
  · exact w_c8
  · exact w_c9
  · exact w_c10
  · exact w_c11
  · exact w_c12
  · exact w_c13
  · exact w_c14
  · exact w_c15
  · exact w_c16
set_option maxRecDepth 65536 in
theorem w_t1 : (words1.take 24).all (fun c => isCode c || c.before args0 about1) = true := by decide +kernel
set_option maxRecDepth 65536 in
theorem w_t2 : ((words1.drop 24).take 24).all (fun c => isCode c || c.before args0 about1) = true := by decide +kernel
set_option maxRecDepth 65536 in
theorem w_t3 : (((words1.drop 24).drop 24).take 24).all (fun c => isCode c || c.before args0 about1) = true := by decide +kernel
set_option maxRecDepth 65536 in
theorem w_t4 : (((words1.drop 24).drop 24).drop 24).all (fun c => isCode c || c.before args0 about1) = true := by decide +kernel
theorem w_tables : (allAtoms (Jvm.Cond.code x code maxLocals ret :: tables_1)).before args0 about1 = true := by
  rw [allAtoms_all]
  show words1.all (fun c => c.before args0 about1) = true
  refine all_split ?_ w_codes
  rw [← List.take_append_drop 24 words1, List.all_append, w_t1, ← List.take_append_drop 24 (words1.drop 24), List.all_append, w_t2, ← List.take_append_drop 24 ((words1.drop 24).drop 24), List.all_append, w_t3, w_t4]
  rfl
set_option maxRecDepth 65536 in
theorem w_case : (Jvm.Cond.and given_1 narrow_1).before args0 about1 = true := by decide +kernel
theorem w_applies : (headSpec (Jvm.Cond.code x code maxLocals ret :: tables_1) room_1).applies x e0.platform about1 = true :=
  (Spec.applies_iff w_frames).mpr ⟨w_running, w_runnable, w_alone, w_named, w_hears, w_ripe, w_room, w_tables⟩
theorem atStart : AtStart classFile x code maxLocals ret World_1 tables_1 room_1 Calls_1 rest_1 Pre_1 launch0 p0 e0 about1 theMethod args0 below0 :=
  ⟨lists_1, trivial, launch0.admits_env _ _ _, launch0.least_env, fairChoices_fair.cas, fairChoices_fair.clock, w_frames, w_args, w_heap, w_applies, trivial, trivial, w_case⟩
end start1
theorem witness_1 : WitnessClaimed_1 := ⟨start1.p0, start1.e0, start1.about1, start1.theMethod, start1.args0, start1.below0, start1.atStart⟩
end Jvm.Pilot.@@N@@
