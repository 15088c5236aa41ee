import JvmDerived
import JvmDerived.Pilot.@@N@@Statement
import JvmDerived.Pilot.@@N@@Code
set_option linter.unusedVariables false
set_option linter.unusedSimpArgs false
namespace Jvm.RoadKit
open Sem ClassFile Op Lib Jvm.Stand Jvm.Free Jvm.LawKit
section New
variable {p : Program} {l : Launch} {e : Env} {R : Room} {s : State} {m : MethodId} {args : Array Value} {below : List Frame} {meth : Method} {c : Code} {T : State} {locs : List Loc} {cells slots : Nat}
theorem retI (X : Stand p l e R s m args below meth c T locs cells slots) (hx : p.tables.exec = Jvm.exec) {pc : Nat} {Ls : Array Slot} {z : Int32} {rest : List Value} (hret : meth.sig.returnType = some .int) (hd : decode c.code pc = .ok (.ireturn, 1)) {fs : List Frame}
    (hl : ∀ (f : JFrame) (acts : List Action), f.method = m → f.locked = none → f.entered = [] → (doReturn e (T.setTop f) acts (some (.int z))).1 = T.setFrames fs) : Steps p.tables e below (T.setTop (mkF m pc Ls (.int z :: rest))) (T.setFrames fs) := by
  have hm' : T.vm.method? m = some meth := X.method'
  have hn : narrow .int (.int z) = .int z := rfl
  show Steps p.tables e below (T.setTop { method := m, pc := pc, locals := Ls, stack := _ :: rest, locked := none }) _
  jvm_step X.here [X.here.top, hx, hd, hm', hret, hn]
  first | (intro acts; rw [hl _ acts rfl rfl rfl]) | rw [hl _ _ rfl rfl rfl]
  exact Steps.refl _
end New
end Jvm.RoadKit
namespace Jvm.Pilot.@@N@@
open Jvm Jvm.ClassFile Sem Op Lib Jvm.Free Jvm.Stand Jvm.LawKit Jvm.RoadKit Bundle Jvm.Pilot.@@N@@.Jvm.D
def QL (n0 : Nat) (v : Option Value) (h : Heap) (L : List Loc) : Prop := v = some (.int 1) ∧ Fr n0 L
def La (Z : State) (h : Heap) (b : Addr) (ty : FieldType) (n : Int32) (xs : List Int32) : Prop := ∃ kc, Arv Z h b kc ty n (xs.map Value.int) (.int 0) ∧ xs.length = n.toNatClampNeg
section OwnA
variable {Z : State} {h h' : Heap} {a b : Addr} {ty : FieldType} {n : Int32} {sl : Nat} {xs : List Int32} {v : Value} {ws : List Addr}
theorem La.lt (F : La Z h b ty n xs) : b < h.size := by obtain ⟨c, A, -⟩ := F; exact A.lt
theorem La.ext (F : La Z h b ty n xs) (E : Ext h h') : La Z h' b ty n xs := by obtain ⟨c, A, r⟩ := F; exact ⟨c, A.ext E, r⟩
theorem La.other (F : La Z h b ty n xs) (W : Wr h h' a sl v) (q : b ≠ a) : La Z h' b ty n xs := by obtain ⟨c, A, r⟩ := F; exact ⟨c, A.other W q, r⟩
theorem La.keep (F : La Z h b ty n xs) (K : Keep h h' ws) (q : b ∉ ws) : La Z h' b ty n xs := by obtain ⟨c, A, r⟩ := F; exact ⟨c, A.keep K q, r⟩
theorem La.zero {kc : ClassId} {z : Nat} (A : Arr Z h b (newA kc ty n) ty) (hn : ¬ n < 0) (hz : n.toNatClampNeg = z) (hd : defaultValue ty = .int 0) : La Z h b ty n (List.replicate z 0) := by
  refine ⟨kc, ?_, by rw [List.length_replicate, hz]⟩
  have q := Arv.new A hn
  rw [hd] at q
  have e : (List.replicate z (0 : Int32)).map Value.int = [] ++ List.replicate z (.int 0) := by simp
  rw [e]; exact q.pad (pad_rep [] _ z)
theorem La.at {j : Int32} (F : La Z h b ty n xs) (q : ¬ j < 0 ∧ j < n) : ∃ cl : Cell, Arr Z h b cl ty ∧ ¬ (j < 0 ∨ cl.slots.size ≤ j.toNatClampNeg) ∧ cl.slots[j.toNatClampNeg]? = some (.int (xs.getD j.toNatClampNeg 0)) := by
  obtain ⟨kc, ⟨cl, A, -, S, -, H, -⟩, hl⟩ := F
  refine ⟨cl, A, inb_of S q, H.at (inb_of S q) ?_⟩
  rw [List.getD_eq_getElem?_getD, List.getElem?_map, List.getD_eq_getElem?_getD]
  cases xs[j.toNatClampNeg]? <;> rfl
theorem La.up {j : Int32} (F : La Z h b ty n xs) (q : ¬ j < 0 ∧ j < n) : ∃ cl : Cell, Arr Z h b cl ty ∧ ¬ (j < 0 ∨ cl.slots.size ≤ j.toNatClampNeg) ∧ ∀ (x : Int32), fits ty (.int x) = true → ∀ h'', Wr h h'' b j.toNatClampNeg (.int x) → La Z h'' b ty n (xs.set j.toNatClampNeg x) := by
  obtain ⟨kc, ⟨cl, A, q1, S, q3, H, G⟩, hl⟩ := F
  have hin := inb_of S q
  refine ⟨cl, A, hin, fun x hx h'' W => ⟨kc, ?_, by rw [List.length_set]; exact hl⟩⟩
  rw [List.map_set]
  exact Arv.set A q1 S q3 H G hx W _ rfl (by rw [List.length_map, hl, ← S]; exact Nat.lt_of_not_le fun y => hin (Or.inr y))
end OwnA
def own_sh (c j a b : Int32) : Int32 := if j < c then a else b
def own_sw (kk cf cg pf pg : Int32) : Int32 := if cg < cf then ((kk + ((cg - cf) * pf)) + (((cf - (1 : Int32)) - cg) * pg)) else ((kk + (((cg + (1 : Int32)) - cf) * pf)) + ((cf - cg) * pg))
def own_bd (n : Int) (u : Int32) : Prop := 0 ≤ u.toInt ∧ u.toInt < n
instance (n : Int) (u : Int32) : Decidable (own_bd n u) := by unfold own_bd; infer_instance
theorem own_sh_bd {n : Int} {c j a b : Int32} (h1 : own_bd n a) (h2 : own_bd n b) : own_bd n (own_sh c j a b) := by
  unfold own_sh; split
  · exact h1
  · exact h2
theorem own_ofNat {j : Nat} (h : j < 200) : (Int32.ofNat j).toInt = (j : Int) := Int32.toInt_ofNat_of_lt (by omega)
theorem own_next (j : Nat) : Int32.ofNat j + (1 : Int32) = Int32.ofNat (j + 1) := by
  rw [Int32.ofNat_add]; rfl
theorem own_inr {j n : Int32} {m : Int} (hn : n.toInt = m) (h0 : 0 ≤ j.toInt) (h1 : j.toInt < m) : ¬ j < 0 ∧ j < n := by
  rw [Int32.lt_iff_toInt_lt, Int32.lt_iff_toInt_lt, hn]; have e : (0 : Int32).toInt = 0 := rfl; rw [e]; omega
theorem own_ix {n : Int} {cnt it kk N : Int32} {cn : Int} (hb : own_bd n it) (hk : own_bd cn kk) (hc : cnt.toInt = cn) (hN : N.toInt = n * cn) (h1 : 0 ≤ cn) (h2 : cn ≤ 200) (h3 : n ≤ 200) : ¬ ((it * cnt) + kk) < 0 ∧ ((it * cnt) + kk) < N := by
  have a := c_imul it cnt; have b := c_iadd (it * cnt) kk; have r := rng32 (it * cnt); have r2 := rng32 ((it * cnt) + kk)
  unfold own_bd at hb hk; rw [hc] at a
  have m1 : 0 ≤ it.toInt * cn := Int.mul_nonneg hb.1 h1
  have m2 : it.toInt * cn ≤ (n - 1) * cn := Int.mul_le_mul_of_nonneg_right (by omega) h1
  have m3 : (n - 1) * cn = n * cn - cn := by rw [Int.sub_mul, Int.one_mul]
  have m4 : n * cn ≤ 200 * 200 := Int.le_trans (Int.mul_le_mul_of_nonneg_right h3 h1) (Int.mul_le_mul_of_nonneg_left h2 (by omega))
  generalize n * cn = nc at *
  generalize it.toInt * cn = ic at *
  exact own_inr hN (by omega) (by omega)
theorem own_iy {n cn : Int} {kk f m N : Int32} (hk : own_bd cn kk) (hf : own_bd n f) (hm : m.toInt = n) (hN : N.toInt = n * cn) (h1 : 0 ≤ n) (h2 : cn ≤ 200) (h3 : n ≤ 10) : ¬ ((kk * m) + f) < 0 ∧ ((kk * m) + f) < N :=
  own_ix hk hf hm (by rw [hN, Int.mul_comm]) h1 (by omega) h2
def Q_g (x : Int32) (h0 : Heap) (n0 : Nat) (v : Option Value) (h : Heap) (L : List Loc) : Prop := v = some (.int x) ∧ Fr n0 L ∧ h = h0
def Q_rmCnt (w1 : Int32) (h0 : Heap) (n0 : Nat) (v : Option Value) (h : Heap) (L : List Loc) : Prop := v = some (.int w1) ∧ Fr n0 L ∧ h = h0
theorem pn_0 : plainName "com/example/frontward/frontward/offline/Orderings" = true := by first | (simp [plainName, overriddenIn]; done) | decide +kernel
theorem ef_0 (m : MethodId) (x0 : Addr) : entryFrame m #[(.ref x0)] 1 = mkF m 0 #[.val (.ref x0)] [] := by first | (simp [entryFrame, mkF, argsToLocals, Value.category]; done) | rfl
theorem dc0_0 : decode prog_26_method_4_code 0 = .ok (.aload_n 0, 1) := by decide +kernel
theorem dc0_1 : decode prog_26_method_4_code 1 = .ok (.getfield 24, 3) := by decide +kernel
theorem dc0_4 : decode prog_26_method_4_code 4 = .ok (.ireturn, 1) := by decide +kernel
set_option maxRecDepth 65536 in
set_option maxHeartbeats 40000000 in
theorem rmCnt (l : Launch) (Z : State) (a0 : Array Value) (hw : ∀ d ∈ tables_1, d.before a0 Z = true) (ws : List Jvm.Cond) (a1 : Addr) (w1 : Int32) (h0 : Heap) (n0 : Nat) (O0 : Old Z n0 h0) (F1 : Fld Z h0 a1 "com/example/frontward/frontward/offline/Orderings" "count" "I" (.int w1)) :
    MetFree l (⟨"com/example/frontward/frontward/offline/Orderings", "count", "()I"⟩ : MethodName) (head1 (Jvm.Cond.code (⟨"com/example/frontward/frontward/offline/Orderings", "count", "()I"⟩ : MethodName) prog_26_method_4_code 1 (some .int) :: ws) ({ frames := 0, cells := 0, slots := 0, locals := 0 } : Room)) (fun a U => a = #[(.ref a1)] ∧ Z.Warmed39 U.vm ∧ U.heap = h0) (fun _ _ _ _ _ => True) (fun _ U o U' => ∃ v L, o = .returned v ∧ Q_rmCnt w1 h0 n0 v U'.heap L ∧ FrameEnd U o U' L ({ frames := 0, cells := 0, slots := 0, locals := 0 } : Room).cells ({ frames := 0, cells := 0, slots := 0, locals := 0 } : Room).slots) := by
  refine MetFree.of_bodySF (plainFor_of_name pn_0) hisR ?_
  intro p e s m args below meth c s₁ Bd hml0 hP hK
  obtain ⟨rfl, hZ, hh⟩ := hP
  have hx := Bd.exec
  have hby := Bd.bytes
  have hml : c.maxLocals = 1 := hml0
  have hown : s.vm.findClass "com/example/frontward/frontward/offline/Orderings" = some m.cls := findClass_of_methodNamed Bd.named
  have hnm := (name_of_methodNamed Bd.named Bd.method).1
  have X0 : Stand p l e ({ frames := 0, cells := 0, slots := 0, locals := 0 } : Room) s m #[(.ref a1)] below meth c s₁ [] 0 0 := Stand.of_body Bd
  have e0 : s₁.heap = h0 := by rw [← hh, Bd.state]; rfl
  have N0 := Fr.nil n0
  have pre0 : ∀ t, Steps p.tables e below (s₁.setTop (mkF m 0 #[.val (.ref a1)] [])) t → Steps p.tables e below (s₁.setTop (entryFrame m #[(.ref a1)] 1)) t := fun t k => castTop (ef_0 m a1) k
  obtain ⟨T101, X101, e101, st101⟩ := getF X0 hx hZ hown (host := "") (Or.inl (hw _ (List.mem_of_getElem? (i := 12) rfl))) Via.refl e0 F1 (g := (mkF m 1 #[.val (.ref a1)] [(.ref a1)])) rfl rfl (hb hby dc0_1)
  obtain ⟨fs, hr, hrun, hended, hW, hsame⟩ := X101.leave (v := some (.int w1)) (fun h => by rw [Bd.returns] at h; cases h)
  refine ⟨_, _, pre0 _ ?_, hrun, hended, _, _, rfl, ?_, ⟨_, rfl⟩, hW, hsame.mono (by decide) (by decide)⟩
  · skip
    show Steps p.tables e below (s₁.setTop (mkF m 0 #[.val (.ref a1)] [])) _
    refine XS.aloadN X0.here hx rfl (hb hby dc0_0) rfl rfl ?_
    refine st101 _ ?_
    show Steps p.tables e below (T101.setTop (mkF m 4 #[.val (.ref a1)] [(.int w1)])) _
    exact retI X101 hx Bd.returns (hb hby dc0_4) hr
  · show Q_rmCnt w1 h0 n0 _ T101.heap _
    rw [e101]
    exact ⟨rfl, N0, rfl⟩
theorem ef_1 (m : MethodId) (x0 : Addr) (x1 : Int32) (x2 : Int32) : entryFrame m #[(.ref x0), (.int x1), (.int x2)] 3 = mkF m 0 #[.val (.ref x0), .val (.int x1), .val (.int x2)] [] := by first | (simp [entryFrame, mkF, argsToLocals, Value.category]; done) | rfl
theorem dc1_0 : decode prog_26_method_5_code 0 = .ok (.aload_n 0, 1) := by decide +kernel
theorem dc1_1 : decode prog_26_method_5_code 1 = .ok (.getfield 27, 3) := by decide +kernel
theorem dc1_4 : decode prog_26_method_5_code 4 = .ok (.iload_n 1, 1) := by decide +kernel
theorem dc1_5 : decode prog_26_method_5_code 5 = .ok (.aload_n 0, 1) := by decide +kernel
theorem dc1_6 : decode prog_26_method_5_code 6 = .ok (.getfield 24, 3) := by decide +kernel
theorem dc1_9 : decode prog_26_method_5_code 9 = .ok (.imul, 1) := by decide +kernel
theorem dc1_10 : decode prog_26_method_5_code 10 = .ok (.iload_n 2, 1) := by decide +kernel
theorem dc1_11 : decode prog_26_method_5_code 11 = .ok (.iadd, 1) := by decide +kernel
theorem dc1_12 : decode prog_26_method_5_code 12 = .ok (.baload, 1) := by decide +kernel
theorem dc1_13 : decode prog_26_method_5_code 13 = .ok (.ireturn, 1) := by decide +kernel
set_option maxRecDepth 65536 in
set_option maxHeartbeats 40000000 in
theorem rmPos (l : Launch) (Z : State) (a0 : Array Value) (hw : ∀ d ∈ tables_1, d.before a0 Z = true) (ws : List Jvm.Cond) (a1 b1 : Addr) (p2 p3 cn N1 : Int32) (P : List Int32) (h0 : Heap) (n0 : Nat) (O0 : Old Z n0 h0) (Fp : Fld Z h0 a1 "com/example/frontward/frontward/offline/Orderings" "positions" "[B" (.ref b1)) (Fc : Fld Z h0 a1 "com/example/frontward/frontward/offline/Orderings" "count" "I" (.int cn)) (Lp : La Z h0 b1 .byte N1 P) (hi : ¬ ((p2 * cn) + p3) < 0 ∧ ((p2 * cn) + p3) < N1) :
    MetFree l (⟨"com/example/frontward/frontward/offline/Orderings", "position", "(II)I"⟩ : MethodName) (head1 (Jvm.Cond.code (⟨"com/example/frontward/frontward/offline/Orderings", "position", "(II)I"⟩ : MethodName) prog_26_method_5_code 3 (some .int) :: ws) ({ frames := 0, cells := 0, slots := 0, locals := 0 } : Room)) (fun a U => a = #[(.ref a1), (.int p2), (.int p3)] ∧ Z.Warmed39 U.vm ∧ U.heap = h0) (fun _ _ _ _ _ => True) (fun _ U o U' => ∃ v L, o = .returned v ∧ Q_g (P.getD (((p2 * cn) + p3)).toNatClampNeg 0) h0 n0 v U'.heap L ∧ FrameEnd U o U' L ({ frames := 0, cells := 0, slots := 0, locals := 0 } : Room).cells ({ frames := 0, cells := 0, slots := 0, locals := 0 } : Room).slots) := by
  refine MetFree.of_bodySF (plainFor_of_name pn_0) hisR ?_
  intro p e s m args below meth c s₁ Bd hml0 hP hK
  obtain ⟨rfl, hZ, hh⟩ := hP
  have hx := Bd.exec
  have hby := Bd.bytes
  have hml : c.maxLocals = 3 := hml0
  have hown : s.vm.findClass "com/example/frontward/frontward/offline/Orderings" = some m.cls := findClass_of_methodNamed Bd.named
  have hnm := (name_of_methodNamed Bd.named Bd.method).1
  have X0 : Stand p l e ({ frames := 0, cells := 0, slots := 0, locals := 0 } : Room) s m #[(.ref a1), (.int p2), (.int p3)] below meth c s₁ [] 0 0 := Stand.of_body Bd
  have e0 : s₁.heap = h0 := by rw [← hh, Bd.state]; rfl
  have N0 := Fr.nil n0
  have pre0 : ∀ t, Steps p.tables e below (s₁.setTop (mkF m 0 #[.val (.ref a1), .val (.int p2), .val (.int p3)] [])) t → Steps p.tables e below (s₁.setTop (entryFrame m #[(.ref a1), (.int p2), (.int p3)] 3)) t := fun t k => castTop (ef_1 m a1 p2 p3) k
  obtain ⟨T101, X101, e101, st101⟩ := getF X0 hx hZ hown (host := "") (Or.inl (hw _ (List.mem_of_getElem? (i := 15) rfl))) Via.refl e0 Fp (g := (mkF m 1 #[.val (.ref a1), .val (.int p2), .val (.int p3)] [(.ref a1)])) rfl rfl (hb hby dc1_1)
  obtain ⟨T102, X102, e102, st102⟩ := getF X101 hx hZ hown (host := "") (Or.inl (hw _ (List.mem_of_getElem? (i := 12) rfl))) Via.refl e101 Fc (g := (mkF m 6 #[.val (.ref a1), .val (.int p2), .val (.int p3)] [(.ref a1), (.int p2), (.ref b1)])) rfl rfl (hb hby dc1_6)
  obtain ⟨cl103, Ar103, hin103, hat103⟩ := La.at (j := ((p2 * cn) + p3)) Lp hi
  obtain ⟨fs, hr, hrun, hended, hW, hsame⟩ := X102.leave (v := some (.int (P.getD (((p2 * cn) + p3)).toNatClampNeg 0))) (fun h => by rw [Bd.returns] at h; cases h)
  refine ⟨_, _, pre0 _ ?_, hrun, hended, _, _, rfl, ?_, ⟨_, rfl⟩, hW, hsame.mono (by decide) (by decide)⟩
  · skip
    show Steps p.tables e below (s₁.setTop (mkF m 0 #[.val (.ref a1), .val (.int p2), .val (.int p3)] [])) _
    refine XS.aloadN X0.here hx rfl (hb hby dc1_0) rfl rfl ?_
    refine st101 _ ?_
    refine XS.iloadN X101.here hx rfl (hb hby dc1_4) rfl ?_
    refine XS.aloadN X101.here hx rfl (hb hby dc1_5) rfl rfl ?_
    refine st102 _ ?_
    refine XS.imul X102.here hx rfl (hb hby dc1_9) rfl ?_
    refine XS.iloadN X102.here hx rfl (hb hby dc1_10) rfl ?_
    refine XS.iadd X102.here hx rfl (hb hby dc1_11) rfl ?_
    refine X102.baloadBytes hx (j := ((p2 * cn) + p3)) (v := (.int (P.getD (((p2 * cn) + p3)).toNatClampNeg 0))) (by rw [e102]; exact Ar103.1) (State.isArrayOf_alike hZ.alike Ar103.2.1) Ar103.2.2 hin103 hat103 (g := (mkF m 12 #[.val (.ref a1), .val (.int p2), .val (.int p3)] [(.int ((p2 * cn) + p3)), (.ref b1)])) rfl rfl (hb hby dc1_12) _ ?_
    show Steps p.tables e below (T102.setTop (mkF m 13 #[.val (.ref a1), .val (.int p2), .val (.int p3)] [(.int (P.getD (((p2 * cn) + p3)).toNatClampNeg 0))])) _
    exact retI X102 hx Bd.returns (hb hby dc1_13) hr
  · show Q_g (P.getD (((p2 * cn) + p3)).toNatClampNeg 0) h0 n0 _ T102.heap _
    rw [e102]
    exact ⟨rfl, N0, rfl⟩
theorem dc2_0 : decode prog_26_method_7_code 0 = .ok (.aload_n 0, 1) := by decide +kernel
theorem dc2_1 : decode prog_26_method_7_code 1 = .ok (.getfield 31, 3) := by decide +kernel
theorem dc2_4 : decode prog_26_method_7_code 4 = .ok (.iload_n 1, 1) := by decide +kernel
theorem dc2_5 : decode prog_26_method_7_code 5 = .ok (.aload_n 0, 1) := by decide +kernel
theorem dc2_6 : decode prog_26_method_7_code 6 = .ok (.getfield 18, 3) := by decide +kernel
theorem dc2_9 : decode prog_26_method_7_code 9 = .ok (.iconst 1, 1) := by decide +kernel
theorem dc2_10 : decode prog_26_method_7_code 10 = .ok (.isub, 1) := by decide +kernel
theorem dc2_11 : decode prog_26_method_7_code 11 = .ok (.imul, 1) := by decide +kernel
theorem dc2_12 : decode prog_26_method_7_code 12 = .ok (.iload_n 2, 1) := by decide +kernel
theorem dc2_13 : decode prog_26_method_7_code 13 = .ok (.iadd, 1) := by decide +kernel
theorem dc2_14 : decode prog_26_method_7_code 14 = .ok (.iaload, 1) := by decide +kernel
theorem dc2_15 : decode prog_26_method_7_code 15 = .ok (.ireturn, 1) := by decide +kernel
set_option maxRecDepth 65536 in
set_option maxHeartbeats 40000000 in
theorem rmSwi (l : Launch) (Z : State) (a0 : Array Value) (hw : ∀ d ∈ tables_1, d.before a0 Z = true) (ws : List Jvm.Cond) (a1 b1 : Addr) (p2 p3 n1 N1 : Int32) (S : List Int32) (h0 : Heap) (n0 : Nat) (O0 : Old Z n0 h0) (Fs : Fld Z h0 a1 "com/example/frontward/frontward/offline/Orderings" "swaps" "[I" (.ref b1)) (Fi : Fld Z h0 a1 "com/example/frontward/frontward/offline/Orderings" "items" "I" (.int n1)) (Ls : La Z h0 b1 .int N1 S) (hi : ¬ ((p2 * (n1 - (1 : Int32))) + p3) < 0 ∧ ((p2 * (n1 - (1 : Int32))) + p3) < N1) :
    MetFree l (⟨"com/example/frontward/frontward/offline/Orderings", "swapped", "(II)I"⟩ : MethodName) (head1 (Jvm.Cond.code (⟨"com/example/frontward/frontward/offline/Orderings", "swapped", "(II)I"⟩ : MethodName) prog_26_method_7_code 3 (some .int) :: ws) ({ frames := 0, cells := 0, slots := 0, locals := 0 } : Room)) (fun a U => a = #[(.ref a1), (.int p2), (.int p3)] ∧ Z.Warmed39 U.vm ∧ U.heap = h0) (fun _ _ _ _ _ => True) (fun _ U o U' => ∃ v L, o = .returned v ∧ Q_g (S.getD (((p2 * (n1 - (1 : Int32))) + p3)).toNatClampNeg 0) h0 n0 v U'.heap L ∧ FrameEnd U o U' L ({ frames := 0, cells := 0, slots := 0, locals := 0 } : Room).cells ({ frames := 0, cells := 0, slots := 0, locals := 0 } : Room).slots) := by
  refine MetFree.of_bodySF (plainFor_of_name pn_0) hisR ?_
  intro p e s m args below meth c s₁ Bd hml0 hP hK
  obtain ⟨rfl, hZ, hh⟩ := hP
  have hx := Bd.exec
  have hby := Bd.bytes
  have hml : c.maxLocals = 3 := hml0
  have hown : s.vm.findClass "com/example/frontward/frontward/offline/Orderings" = some m.cls := findClass_of_methodNamed Bd.named
  have hnm := (name_of_methodNamed Bd.named Bd.method).1
  have X0 : Stand p l e ({ frames := 0, cells := 0, slots := 0, locals := 0 } : Room) s m #[(.ref a1), (.int p2), (.int p3)] below meth c s₁ [] 0 0 := Stand.of_body Bd
  have e0 : s₁.heap = h0 := by rw [← hh, Bd.state]; rfl
  have N0 := Fr.nil n0
  have pre0 : ∀ t, Steps p.tables e below (s₁.setTop (mkF m 0 #[.val (.ref a1), .val (.int p2), .val (.int p3)] [])) t → Steps p.tables e below (s₁.setTop (entryFrame m #[(.ref a1), (.int p2), (.int p3)] 3)) t := fun t k => castTop (ef_1 m a1 p2 p3) k
  obtain ⟨T101, X101, e101, st101⟩ := getF X0 hx hZ hown (host := "") (Or.inl (hw _ (List.mem_of_getElem? (i := 17) rfl))) Via.refl e0 Fs (g := (mkF m 1 #[.val (.ref a1), .val (.int p2), .val (.int p3)] [(.ref a1)])) rfl rfl (hb hby dc2_1)
  obtain ⟨T102, X102, e102, st102⟩ := getF X101 hx hZ hown (host := "") (Or.inl (hw _ (List.mem_of_getElem? (i := 10) rfl))) Via.refl e101 Fi (g := (mkF m 6 #[.val (.ref a1), .val (.int p2), .val (.int p3)] [(.ref a1), (.int p2), (.ref b1)])) rfl rfl (hb hby dc2_6)
  obtain ⟨cl103, Ar103, hin103, hat103⟩ := La.at (j := ((p2 * (n1 - (1 : Int32))) + p3)) Ls hi
  obtain ⟨fs, hr, hrun, hended, hW, hsame⟩ := X102.leave (v := some (.int (S.getD (((p2 * (n1 - (1 : Int32))) + p3)).toNatClampNeg 0))) (fun h => by rw [Bd.returns] at h; cases h)
  refine ⟨_, _, pre0 _ ?_, hrun, hended, _, _, rfl, ?_, ⟨_, rfl⟩, hW, hsame.mono (by decide) (by decide)⟩
  · skip
    show Steps p.tables e below (s₁.setTop (mkF m 0 #[.val (.ref a1), .val (.int p2), .val (.int p3)] [])) _
    refine XS.aloadN X0.here hx rfl (hb hby dc2_0) rfl rfl ?_
    refine st101 _ ?_
    refine XS.iloadN X101.here hx rfl (hb hby dc2_4) rfl ?_
    refine XS.aloadN X101.here hx rfl (hb hby dc2_5) rfl rfl ?_
    refine st102 _ ?_
    refine XS.iconst X102.here hx rfl (hb hby dc2_9) ?_
    refine XS.isub X102.here hx rfl (hb hby dc2_10) rfl ?_
    refine XS.imul X102.here hx rfl (hb hby dc2_11) rfl ?_
    refine XS.iloadN X102.here hx rfl (hb hby dc2_12) rfl ?_
    refine XS.iadd X102.here hx rfl (hb hby dc2_13) rfl ?_
    refine X102.iaload hx (j := ((p2 * (n1 - (1 : Int32))) + p3)) (v := (.int (S.getD (((p2 * (n1 - (1 : Int32))) + p3)).toNatClampNeg 0))) (by rw [e102]; exact Ar103.1) (State.isArrayOf_alike hZ.alike Ar103.2.1) Ar103.2.2 hin103 hat103 (g := (mkF m 14 #[.val (.ref a1), .val (.int p2), .val (.int p3)] [(.int ((p2 * (n1 - (1 : Int32))) + p3)), (.ref b1)])) rfl rfl (hb hby dc2_14) _ ?_
    show Steps p.tables e below (T102.setTop (mkF m 15 #[.val (.ref a1), .val (.int p2), .val (.int p3)] [(.int (S.getD (((p2 * (n1 - (1 : Int32))) + p3)).toNatClampNeg 0))])) _
    exact retI X102 hx Bd.returns (hb hby dc2_15) hr
  · show Q_g (S.getD (((p2 * (n1 - (1 : Int32))) + p3)).toNatClampNeg 0) h0 n0 _ T102.heap _
    rw [e102]
    exact ⟨rfl, N0, rfl⟩
def own_mv (p p' f : Int32) : Int32 := if p = f then (if p' = f + (1 : Int32) then 1 else 0) else if p = f + (1 : Int32) then (if p' = f then 1 else 0) else (if p' = p then 1 else 0)
theorem pn_1 : plainName "com/example/frontward/frontward/offline/OrderingsSwappedPinLaw" = true := by first | (simp [plainName, overriddenIn]; done) | decide +kernel
theorem ef_2 (m : MethodId) (x0 : Addr) (x1 : Int32) (x2 : Int32) (x3 : Int32) (x4 : Int32) : entryFrame m #[(.ref x0), (.int x1), (.int x2), (.int x3), (.int x4)] 7 = mkF m 0 #[.val (.ref x0), .val (.int x1), .val (.int x2), .val (.int x3), .val (.int x4), .unset, .unset] [] := by first | (simp [entryFrame, mkF, argsToLocals, Value.category]; done) | rfl
theorem dc3_0 : decode method_3_code 0 = .ok (.aload_n 0, 1) := by decide +kernel
theorem dc3_1 : decode method_3_code 1 = .ok (.iload_n 1, 1) := by decide +kernel
theorem dc3_2 : decode method_3_code 2 = .ok (.iload_n 2, 1) := by decide +kernel
theorem dc3_3 : decode method_3_code 3 = .ok (.invokevirtual 27, 3) := by decide +kernel
theorem pd_0 : parseMethodDescriptor "(II)I" = some ⟨[.int, .int], some .int⟩ := by decide +kernel
theorem dc3_6 : decode method_3_code 6 = .ok (.istore 5, 2) := by decide +kernel
theorem dc3_8 : decode method_3_code 8 = .ok (.iload 5, 2) := by decide +kernel
theorem dc3_10 : decode method_3_code 10 = .ok (.iload 4, 2) := by decide +kernel
theorem dc3_12 : decode method_3_code 12 = .ok (.if_icmp .ne 12, 3) := by decide +kernel
theorem dc3_15 : decode method_3_code 15 = .ok (.iload 4, 2) := by decide +kernel
theorem dc3_17 : decode method_3_code 17 = .ok (.iconst 1, 1) := by decide +kernel
theorem dc3_18 : decode method_3_code 18 = .ok (.iadd, 1) := by decide +kernel
theorem dc3_19 : decode method_3_code 19 = .ok (.istore 6, 2) := by decide +kernel
theorem dc3_21 : decode method_3_code 21 = .ok (.goto 23, 3) := by decide +kernel
theorem dc3_44 : decode method_3_code 44 = .ok (.aload_n 0, 1) := by decide +kernel
theorem dc3_45 : decode method_3_code 45 = .ok (.iload_n 1, 1) := by decide +kernel
theorem dc3_46 : decode method_3_code 46 = .ok (.iload_n 3, 1) := by decide +kernel
theorem dc3_47 : decode method_3_code 47 = .ok (.invokevirtual 27, 3) := by decide +kernel
theorem dc3_50 : decode method_3_code 50 = .ok (.iload 6, 2) := by decide +kernel
theorem dc3_52 : decode method_3_code 52 = .ok (.if_icmp .ne 7, 3) := by decide +kernel
theorem dc3_55 : decode method_3_code 55 = .ok (.iconst 1, 1) := by decide +kernel
theorem dc3_56 : decode method_3_code 56 = .ok (.goto 4, 3) := by decide +kernel
theorem dc3_60 : decode method_3_code 60 = .ok (.ireturn, 1) := by decide +kernel
theorem dc3_59 : decode method_3_code 59 = .ok (.iconst 0, 1) := by decide +kernel
theorem dc3_24 : decode method_3_code 24 = .ok (.iload 5, 2) := by decide +kernel
theorem dc3_26 : decode method_3_code 26 = .ok (.iload 4, 2) := by decide +kernel
theorem dc3_28 : decode method_3_code 28 = .ok (.iconst 1, 1) := by decide +kernel
theorem dc3_29 : decode method_3_code 29 = .ok (.iadd, 1) := by decide +kernel
theorem dc3_30 : decode method_3_code 30 = .ok (.if_icmp .ne 10, 3) := by decide +kernel
theorem dc3_33 : decode method_3_code 33 = .ok (.iload 4, 2) := by decide +kernel
theorem dc3_35 : decode method_3_code 35 = .ok (.istore 6, 2) := by decide +kernel
theorem dc3_37 : decode method_3_code 37 = .ok (.goto 7, 3) := by decide +kernel
theorem dc3_40 : decode method_3_code 40 = .ok (.iload 5, 2) := by decide +kernel
theorem dc3_42 : decode method_3_code 42 = .ok (.istore 6, 2) := by decide +kernel
set_option maxRecDepth 65536 in
set_option maxHeartbeats 40000000 in
theorem rmMov (l : Launch) (Z : State) (a0 : Array Value) (hw : ∀ d ∈ tables_1, d.before a0 Z = true) (ws : List Jvm.Cond) (a1 b1 : Addr) (p2 p3 p4 p5 cn N1 : Int32) (P : List Int32) (h0 : Heap) (n0 : Nat) (O0 : Old Z n0 h0) (Eo : Exa Z h0 a1 "com/example/frontward/frontward/offline/Orderings") (Fp : Fld Z h0 a1 "com/example/frontward/frontward/offline/Orderings" "positions" "[B" (.ref b1)) (Fc : Fld Z h0 a1 "com/example/frontward/frontward/offline/Orderings" "count" "I" (.int cn)) (Lp : La Z h0 b1 .byte N1 P) (hi : ¬ ((p2 * cn) + p3) < 0 ∧ ((p2 * cn) + p3) < N1) (hj : ¬ ((p2 * cn) + p4) < 0 ∧ ((p2 * cn) + p4) < N1) :
    MetFree l (⟨"com/example/frontward/frontward/offline/OrderingsSwappedPinLaw", "moved", "(Lcom/example/frontward/frontward/offline/Orderings;IIII)Z"⟩ : MethodName) (head1 (Jvm.Cond.code (⟨"com/example/frontward/frontward/offline/OrderingsSwappedPinLaw", "moved", "(Lcom/example/frontward/frontward/offline/Orderings;IIII)Z"⟩ : MethodName) method_3_code 7 (some .boolean) :: ws) ({ frames := 1, cells := 0, slots := 0, locals := 14 } : Room)) (fun a U => a = #[(.ref a1), (.int p2), (.int p3), (.int p4), (.int p5)] ∧ Z.Warmed39 U.vm ∧ U.heap = h0) (fun _ _ _ _ _ => True) (fun _ U o U' => ∃ v L, o = .returned v ∧ Q_g (own_mv (P.getD (((p2 * cn) + p3)).toNatClampNeg 0) (P.getD (((p2 * cn) + p4)).toNatClampNeg 0) p5) h0 n0 v U'.heap L ∧ FrameEnd U o U' L ({ frames := 1, cells := 0, slots := 0, locals := 14 } : Room).cells ({ frames := 1, cells := 0, slots := 0, locals := 14 } : Room).slots) := by
  refine MetFree.of_bodySF (plainFor_of_name pn_1) hisR ?_
  intro p e s m args below meth c s₁ Bd hml0 hP hK
  obtain ⟨rfl, hZ, hh⟩ := hP
  have hx := Bd.exec
  have hby := Bd.bytes
  have hml : c.maxLocals = 7 := hml0
  have hown : s.vm.findClass "com/example/frontward/frontward/offline/OrderingsSwappedPinLaw" = some m.cls := findClass_of_methodNamed Bd.named
  have hnm := (name_of_methodNamed Bd.named Bd.method).1
  have X0 : Stand p l e ({ frames := 1, cells := 0, slots := 0, locals := 14 } : Room) s m #[(.ref a1), (.int p2), (.int p3), (.int p4), (.int p5)] below meth c s₁ [] 0 0 := Stand.of_body Bd
  have e0 : s₁.heap = h0 := by rw [← hh, Bd.state]; rfl
  have N0 := Fr.nil n0
  have pre0 : ∀ t, Steps p.tables e below (s₁.setTop (mkF m 0 #[.val (.ref a1), .val (.int p2), .val (.int p3), .val (.int p4), .val (.int p5), .unset, .unset] [])) t → Steps p.tables e below (s₁.setTop (entryFrame m #[(.ref a1), (.int p2), (.int p3), (.int p4), (.int p5)] 7)) t := fun t k => castTop (ef_2 m a1 p2 p3 p4 p5) k
  obtain ⟨cq101, kq101, q101a, q101b, q101c⟩ := isOf hZ e0 Eo
  obtain ⟨_, _, ⟨T101, L101, k101, n101⟩, -, X101, ⟨Lc101, hQ101, l101, y101, z101⟩, st101⟩ := X0.virtualBack hx (y := (⟨"com/example/frontward/frontward/offline/Orderings", "position", "(II)I"⟩ : MethodName)) (z := (⟨"com/example/frontward/frontward/offline/Orderings", "position", "(II)I"⟩ : MethodName)) hown (mvT hZ (hw _ (List.mem_of_getElem? (i := 41) rfl))) (mvT hZ (hw _ (List.mem_of_getElem? (i := 42) rfl))) (notFace_of_selects (args := #[]) (mvT hZ (hw _ (List.mem_of_getElem? (i := 44) rfl)))) (mvT hZ (hw _ (List.mem_of_getElem? (i := 44) rfl))) (mvT hZ (hw _ (List.mem_of_getElem? (i := 43) rfl))) (by decide) (backOf (W := 0) (rmPos l Z a0 hw [] a1 b1 p2 p3 cn N1 P h0 n0 O0 Fp Fc Lp hi) hZ (hw _ (List.mem_of_getElem? (i := 45) rfl)) (hw _ (List.mem_of_getElem? (i := 2) rfl)) (by decide) (by decide)) q101a q101c (g := (mkF m 3 #[.val (.ref a1), .val (.int p2), .val (.int p3), .val (.int p4), .val (.int p5), .unset, .unset] [(.int p3), (.int p2), (.ref a1)])) rfl (by rw [hml]; rfl) (Steps.refl _) (argsL := [(.int p2), (.int p3)]) (rest := []) (lenOf pd_0 rfl) rfl (by show 2 * 0 + _ ≤ _; exact Nat.le_of_eq rfl) (hb hby dc3_3) (fun _ _ => ⟨rfl, e0, (by decide : 0 + 0 ≤ _), (by decide : 0 + 0 ≤ _)⟩)
  dsimp only [Pt.U, Pt.locs, Pt.cells, Pt.slots] at X101 l101 y101 z101 st101 hQ101
  subst l101 y101 z101
  obtain ⟨rfl, N101q, hh101⟩ := hQ101
  have N101 := Fr.app N0 N101q
  have pre102 : ∀ t, Steps p.tables e below (T101.setTop (mkF m 12 #[.val (.ref a1), .val (.int p2), .val (.int p3), .val (.int p4), .val (.int p5), .val (.int (P.getD (((p2 * cn) + p3)).toNatClampNeg 0)), .unset] [(.int p5), (.int (P.getD (((p2 * cn) + p3)).toNatClampNeg 0))])) t → Steps p.tables e below (s₁.setTop (entryFrame m #[(.ref a1), (.int p2), (.int p3), (.int p4), (.int p5)] 7)) t := fun t kt => pre0 t (by
      show Steps p.tables e below (s₁.setTop (mkF m 0 #[.val (.ref a1), .val (.int p2), .val (.int p3), .val (.int p4), .val (.int p5), .unset, .unset] [])) _
      refine XS.aloadN X0.here hx rfl (hb hby dc3_0) rfl rfl ?_
      refine XS.iloadN X0.here hx rfl (hb hby dc3_1) rfl ?_
      refine XS.iloadN X0.here hx rfl (hb hby dc3_2) rfl ?_
      refine st101.trans ?_
      refine XS.istore X101.here hx rfl (hb hby dc3_6) rfl (l' := #[.val (.ref a1), .val (.int p2), .val (.int p3), .val (.int p4), .val (.int p5), .val (.int (P.getD (((p2 * cn) + p3)).toNatClampNeg 0)), .unset]) rfl ?_
      refine XS.iload X101.here hx rfl (hb hby dc3_8) rfl ?_
      refine XS.iload X101.here hx rfl (hb hby dc3_10) rfl ?_
      exact kt)
  by_cases hc103 : (P.getD (((p2 * cn) + p3)).toNatClampNeg 0) = p5
  · skip
    obtain ⟨cq104, kq104, q104a, q104b, q104c⟩ := isOf hZ hh101 Eo
    obtain ⟨_, _, ⟨T104, L104, k104, n104⟩, -, X104, ⟨Lc104, hQ104, l104, y104, z104⟩, st104⟩ := X101.virtualBack hx (y := (⟨"com/example/frontward/frontward/offline/Orderings", "position", "(II)I"⟩ : MethodName)) (z := (⟨"com/example/frontward/frontward/offline/Orderings", "position", "(II)I"⟩ : MethodName)) hown (mvT hZ (hw _ (List.mem_of_getElem? (i := 41) rfl))) (mvT hZ (hw _ (List.mem_of_getElem? (i := 42) rfl))) (notFace_of_selects (args := #[]) (mvT hZ (hw _ (List.mem_of_getElem? (i := 44) rfl)))) (mvT hZ (hw _ (List.mem_of_getElem? (i := 44) rfl))) (mvT hZ (hw _ (List.mem_of_getElem? (i := 43) rfl))) (by decide) (backOf (W := 0) (rmPos l Z a0 hw [] a1 b1 p2 p4 cn N1 P h0 n0 O0 Fp Fc Lp hj) hZ (hw _ (List.mem_of_getElem? (i := 45) rfl)) (hw _ (List.mem_of_getElem? (i := 2) rfl)) (by decide) (by decide)) q104a q104c (g := (mkF m 47 #[.val (.ref a1), .val (.int p2), .val (.int p3), .val (.int p4), .val (.int p5), .val (.int (P.getD (((p2 * cn) + p3)).toNatClampNeg 0)), .val (.int (p5 + (1 : Int32)))] [(.int p4), (.int p2), (.ref a1)])) rfl (by rw [hml]; rfl) (Steps.refl _) (argsL := [(.int p2), (.int p4)]) (rest := []) (lenOf pd_0 rfl) rfl (by show 2 * 0 + _ ≤ _; exact Nat.le_of_eq rfl) (hb hby dc3_47) (fun _ _ => ⟨rfl, hh101, (by decide : 0 + 0 ≤ _), (by decide : 0 + 0 ≤ _)⟩)
    dsimp only [Pt.U, Pt.locs, Pt.cells, Pt.slots] at X104 l104 y104 z104 st104 hQ104
    subst l104 y104 z104
    obtain ⟨rfl, N104q, hh104⟩ := hQ104
    have N104 := Fr.app N101 N104q
    have pre105 : ∀ t, Steps p.tables e below (T104.setTop (mkF m 52 #[.val (.ref a1), .val (.int p2), .val (.int p3), .val (.int p4), .val (.int p5), .val (.int (P.getD (((p2 * cn) + p3)).toNatClampNeg 0)), .val (.int (p5 + (1 : Int32)))] [(.int (p5 + (1 : Int32))), (.int (P.getD (((p2 * cn) + p4)).toNatClampNeg 0))])) t → Steps p.tables e below (s₁.setTop (entryFrame m #[(.ref a1), (.int p2), (.int p3), (.int p4), (.int p5)] 7)) t := fun t kt => pre102 t (by
        show Steps p.tables e below (T101.setTop (mkF m 12 #[.val (.ref a1), .val (.int p2), .val (.int p3), .val (.int p4), .val (.int p5), .val (.int (P.getD (((p2 * cn) + p3)).toNatClampNeg 0)), .unset] [(.int p5), (.int (P.getD (((p2 * cn) + p3)).toNatClampNeg 0))])) _
        refine XS.icmpNo X101.here hx rfl (hb hby dc3_12) rfl (teq hc103).2 ?_
        refine XS.iload X101.here hx rfl (hb hby dc3_15) rfl ?_
        refine XS.iconst X101.here hx rfl (hb hby dc3_17) ?_
        refine XS.iadd X101.here hx rfl (hb hby dc3_18) rfl ?_
        refine XS.istore X101.here hx rfl (hb hby dc3_19) rfl (l' := #[.val (.ref a1), .val (.int p2), .val (.int p3), .val (.int p4), .val (.int p5), .val (.int (P.getD (((p2 * cn) + p3)).toNatClampNeg 0)), .val (.int (p5 + (1 : Int32)))]) rfl ?_
        refine XS.goto X101.here hx rfl (pc0 := 21) (pc' := 44) rfl (hb hby dc3_21) (by decide) (by decide) ?_
        refine XS.aloadN X101.here hx rfl (hb hby dc3_44) rfl rfl ?_
        refine XS.iloadN X101.here hx rfl (hb hby dc3_45) rfl ?_
        refine XS.iloadN X101.here hx rfl (hb hby dc3_46) rfl ?_
        refine st104.trans ?_
        refine XS.iload X104.here hx rfl (hb hby dc3_50) rfl ?_
        exact kt)
    by_cases hc106 : (P.getD (((p2 * cn) + p4)).toNatClampNeg 0) = (p5 + (1 : Int32))
    · skip
      obtain ⟨fs, hr, hrun, hended, hW, hsame⟩ := X104.leave (v := some (.int (1 : Int32))) (fun h => by rw [Bd.returns] at h; cases h)
      refine ⟨_, _, pre105 _ ?_, hrun, hended, _, _, rfl, ?_, ⟨_, rfl⟩, hW, hsame.mono (by decide) (by decide)⟩
      · skip
        show Steps p.tables e below (T104.setTop (mkF m 52 #[.val (.ref a1), .val (.int p2), .val (.int p3), .val (.int p4), .val (.int p5), .val (.int (P.getD (((p2 * cn) + p3)).toNatClampNeg 0)), .val (.int (p5 + (1 : Int32)))] [(.int (p5 + (1 : Int32))), (.int (P.getD (((p2 * cn) + p4)).toNatClampNeg 0))])) _
        refine XS.icmpNo X104.here hx rfl (hb hby dc3_52) rfl (teq hc106).2 ?_
        refine XS.iconst X104.here hx rfl (hb hby dc3_55) ?_
        refine XS.goto X104.here hx rfl (pc0 := 56) (pc' := 60) rfl (hb hby dc3_56) (by decide) (by decide) ?_
        show Steps p.tables e below (T104.setTop (mkF m 60 #[.val (.ref a1), .val (.int p2), .val (.int p3), .val (.int p4), .val (.int p5), .val (.int (P.getD (((p2 * cn) + p3)).toNatClampNeg 0)), .val (.int (p5 + (1 : Int32)))] [(.int (1 : Int32))])) _
        exact retN X104 hx (t := .boolean) Bd.returns (by simp) (hb hby dc3_60) hr
      · show Q_g (own_mv (P.getD (((p2 * cn) + p3)).toNatClampNeg 0) (P.getD (((p2 * cn) + p4)).toNatClampNeg 0) p5) h0 n0 _ T104.heap _
        rw [hh104]
        exact ⟨by unfold own_mv; rw [if_pos hc103, if_pos hc106], N104, rfl⟩
    · skip
      obtain ⟨fs, hr, hrun, hended, hW, hsame⟩ := X104.leave (v := some (.int (0 : Int32))) (fun h => by rw [Bd.returns] at h; cases h)
      refine ⟨_, _, pre105 _ ?_, hrun, hended, _, _, rfl, ?_, ⟨_, rfl⟩, hW, hsame.mono (by decide) (by decide)⟩
      · skip
        show Steps p.tables e below (T104.setTop (mkF m 52 #[.val (.ref a1), .val (.int p2), .val (.int p3), .val (.int p4), .val (.int p5), .val (.int (P.getD (((p2 * cn) + p3)).toNatClampNeg 0)), .val (.int (p5 + (1 : Int32)))] [(.int (p5 + (1 : Int32))), (.int (P.getD (((p2 * cn) + p4)).toNatClampNeg 0))])) _
        refine XS.icmpYes X104.here hx rfl (pc0 := 52) (pc' := 59) rfl (hb hby dc3_52) rfl (feq hc106).2 (by decide) (by decide) ?_
        refine XS.iconst X104.here hx rfl (hb hby dc3_59) ?_
        show Steps p.tables e below (T104.setTop (mkF m 60 #[.val (.ref a1), .val (.int p2), .val (.int p3), .val (.int p4), .val (.int p5), .val (.int (P.getD (((p2 * cn) + p3)).toNatClampNeg 0)), .val (.int (p5 + (1 : Int32)))] [(.int (0 : Int32))])) _
        exact retN X104 hx (t := .boolean) Bd.returns (by simp) (hb hby dc3_60) hr
      · show Q_g (own_mv (P.getD (((p2 * cn) + p3)).toNatClampNeg 0) (P.getD (((p2 * cn) + p4)).toNatClampNeg 0) p5) h0 n0 _ T104.heap _
        rw [hh104]
        exact ⟨by unfold own_mv; rw [if_pos hc103, if_neg hc106], N104, rfl⟩
  · skip
    have pre107 : ∀ t, Steps p.tables e below (T101.setTop (mkF m 30 #[.val (.ref a1), .val (.int p2), .val (.int p3), .val (.int p4), .val (.int p5), .val (.int (P.getD (((p2 * cn) + p3)).toNatClampNeg 0)), .unset] [(.int (p5 + (1 : Int32))), (.int (P.getD (((p2 * cn) + p3)).toNatClampNeg 0))])) t → Steps p.tables e below (s₁.setTop (entryFrame m #[(.ref a1), (.int p2), (.int p3), (.int p4), (.int p5)] 7)) t := fun t kt => pre102 t (by
        show Steps p.tables e below (T101.setTop (mkF m 12 #[.val (.ref a1), .val (.int p2), .val (.int p3), .val (.int p4), .val (.int p5), .val (.int (P.getD (((p2 * cn) + p3)).toNatClampNeg 0)), .unset] [(.int p5), (.int (P.getD (((p2 * cn) + p3)).toNatClampNeg 0))])) _
        refine XS.icmpYes X101.here hx rfl (pc0 := 12) (pc' := 24) rfl (hb hby dc3_12) rfl (feq hc103).2 (by decide) (by decide) ?_
        refine XS.iload X101.here hx rfl (hb hby dc3_24) rfl ?_
        refine XS.iload X101.here hx rfl (hb hby dc3_26) rfl ?_
        refine XS.iconst X101.here hx rfl (hb hby dc3_28) ?_
        refine XS.iadd X101.here hx rfl (hb hby dc3_29) rfl ?_
        exact kt)
    by_cases hc108 : (P.getD (((p2 * cn) + p3)).toNatClampNeg 0) = (p5 + (1 : Int32))
    · skip
      obtain ⟨cq109, kq109, q109a, q109b, q109c⟩ := isOf hZ hh101 Eo
      obtain ⟨_, _, ⟨T109, L109, k109, n109⟩, -, X109, ⟨Lc109, hQ109, l109, y109, z109⟩, st109⟩ := X101.virtualBack hx (y := (⟨"com/example/frontward/frontward/offline/Orderings", "position", "(II)I"⟩ : MethodName)) (z := (⟨"com/example/frontward/frontward/offline/Orderings", "position", "(II)I"⟩ : MethodName)) hown (mvT hZ (hw _ (List.mem_of_getElem? (i := 41) rfl))) (mvT hZ (hw _ (List.mem_of_getElem? (i := 42) rfl))) (notFace_of_selects (args := #[]) (mvT hZ (hw _ (List.mem_of_getElem? (i := 44) rfl)))) (mvT hZ (hw _ (List.mem_of_getElem? (i := 44) rfl))) (mvT hZ (hw _ (List.mem_of_getElem? (i := 43) rfl))) (by decide) (backOf (W := 0) (rmPos l Z a0 hw [] a1 b1 p2 p4 cn N1 P h0 n0 O0 Fp Fc Lp hj) hZ (hw _ (List.mem_of_getElem? (i := 45) rfl)) (hw _ (List.mem_of_getElem? (i := 2) rfl)) (by decide) (by decide)) q109a q109c (g := (mkF m 47 #[.val (.ref a1), .val (.int p2), .val (.int p3), .val (.int p4), .val (.int p5), .val (.int (P.getD (((p2 * cn) + p3)).toNatClampNeg 0)), .val (.int p5)] [(.int p4), (.int p2), (.ref a1)])) rfl (by rw [hml]; rfl) (Steps.refl _) (argsL := [(.int p2), (.int p4)]) (rest := []) (lenOf pd_0 rfl) rfl (by show 2 * 0 + _ ≤ _; exact Nat.le_of_eq rfl) (hb hby dc3_47) (fun _ _ => ⟨rfl, hh101, (by decide : 0 + 0 ≤ _), (by decide : 0 + 0 ≤ _)⟩)
      dsimp only [Pt.U, Pt.locs, Pt.cells, Pt.slots] at X109 l109 y109 z109 st109 hQ109
      subst l109 y109 z109
      obtain ⟨rfl, N109q, hh109⟩ := hQ109
      have N109 := Fr.app N101 N109q
      have pre110 : ∀ t, Steps p.tables e below (T109.setTop (mkF m 52 #[.val (.ref a1), .val (.int p2), .val (.int p3), .val (.int p4), .val (.int p5), .val (.int (P.getD (((p2 * cn) + p3)).toNatClampNeg 0)), .val (.int p5)] [(.int p5), (.int (P.getD (((p2 * cn) + p4)).toNatClampNeg 0))])) t → Steps p.tables e below (s₁.setTop (entryFrame m #[(.ref a1), (.int p2), (.int p3), (.int p4), (.int p5)] 7)) t := fun t kt => pre107 t (by
          show Steps p.tables e below (T101.setTop (mkF m 30 #[.val (.ref a1), .val (.int p2), .val (.int p3), .val (.int p4), .val (.int p5), .val (.int (P.getD (((p2 * cn) + p3)).toNatClampNeg 0)), .unset] [(.int (p5 + (1 : Int32))), (.int (P.getD (((p2 * cn) + p3)).toNatClampNeg 0))])) _
          refine XS.icmpNo X101.here hx rfl (hb hby dc3_30) rfl (teq hc108).2 ?_
          refine XS.iload X101.here hx rfl (hb hby dc3_33) rfl ?_
          refine XS.istore X101.here hx rfl (hb hby dc3_35) rfl (l' := #[.val (.ref a1), .val (.int p2), .val (.int p3), .val (.int p4), .val (.int p5), .val (.int (P.getD (((p2 * cn) + p3)).toNatClampNeg 0)), .val (.int p5)]) rfl ?_
          refine XS.goto X101.here hx rfl (pc0 := 37) (pc' := 44) rfl (hb hby dc3_37) (by decide) (by decide) ?_
          refine XS.aloadN X101.here hx rfl (hb hby dc3_44) rfl rfl ?_
          refine XS.iloadN X101.here hx rfl (hb hby dc3_45) rfl ?_
          refine XS.iloadN X101.here hx rfl (hb hby dc3_46) rfl ?_
          refine st109.trans ?_
          refine XS.iload X109.here hx rfl (hb hby dc3_50) rfl ?_
          exact kt)
      by_cases hc111 : (P.getD (((p2 * cn) + p4)).toNatClampNeg 0) = p5
      · skip
        obtain ⟨fs, hr, hrun, hended, hW, hsame⟩ := X109.leave (v := some (.int (1 : Int32))) (fun h => by rw [Bd.returns] at h; cases h)
        refine ⟨_, _, pre110 _ ?_, hrun, hended, _, _, rfl, ?_, ⟨_, rfl⟩, hW, hsame.mono (by decide) (by decide)⟩
        · skip
          show Steps p.tables e below (T109.setTop (mkF m 52 #[.val (.ref a1), .val (.int p2), .val (.int p3), .val (.int p4), .val (.int p5), .val (.int (P.getD (((p2 * cn) + p3)).toNatClampNeg 0)), .val (.int p5)] [(.int p5), (.int (P.getD (((p2 * cn) + p4)).toNatClampNeg 0))])) _
          refine XS.icmpNo X109.here hx rfl (hb hby dc3_52) rfl (teq hc111).2 ?_
          refine XS.iconst X109.here hx rfl (hb hby dc3_55) ?_
          refine XS.goto X109.here hx rfl (pc0 := 56) (pc' := 60) rfl (hb hby dc3_56) (by decide) (by decide) ?_
          show Steps p.tables e below (T109.setTop (mkF m 60 #[.val (.ref a1), .val (.int p2), .val (.int p3), .val (.int p4), .val (.int p5), .val (.int (P.getD (((p2 * cn) + p3)).toNatClampNeg 0)), .val (.int p5)] [(.int (1 : Int32))])) _
          exact retN X109 hx (t := .boolean) Bd.returns (by simp) (hb hby dc3_60) hr
        · show Q_g (own_mv (P.getD (((p2 * cn) + p3)).toNatClampNeg 0) (P.getD (((p2 * cn) + p4)).toNatClampNeg 0) p5) h0 n0 _ T109.heap _
          rw [hh109]
          exact ⟨by unfold own_mv; rw [if_neg hc103, if_pos hc108, if_pos hc111], N109, rfl⟩
      · skip
        obtain ⟨fs, hr, hrun, hended, hW, hsame⟩ := X109.leave (v := some (.int (0 : Int32))) (fun h => by rw [Bd.returns] at h; cases h)
        refine ⟨_, _, pre110 _ ?_, hrun, hended, _, _, rfl, ?_, ⟨_, rfl⟩, hW, hsame.mono (by decide) (by decide)⟩
        · skip
          show Steps p.tables e below (T109.setTop (mkF m 52 #[.val (.ref a1), .val (.int p2), .val (.int p3), .val (.int p4), .val (.int p5), .val (.int (P.getD (((p2 * cn) + p3)).toNatClampNeg 0)), .val (.int p5)] [(.int p5), (.int (P.getD (((p2 * cn) + p4)).toNatClampNeg 0))])) _
          refine XS.icmpYes X109.here hx rfl (pc0 := 52) (pc' := 59) rfl (hb hby dc3_52) rfl (feq hc111).2 (by decide) (by decide) ?_
          refine XS.iconst X109.here hx rfl (hb hby dc3_59) ?_
          show Steps p.tables e below (T109.setTop (mkF m 60 #[.val (.ref a1), .val (.int p2), .val (.int p3), .val (.int p4), .val (.int p5), .val (.int (P.getD (((p2 * cn) + p3)).toNatClampNeg 0)), .val (.int p5)] [(.int (0 : Int32))])) _
          exact retN X109 hx (t := .boolean) Bd.returns (by simp) (hb hby dc3_60) hr
        · show Q_g (own_mv (P.getD (((p2 * cn) + p3)).toNatClampNeg 0) (P.getD (((p2 * cn) + p4)).toNatClampNeg 0) p5) h0 n0 _ T109.heap _
          rw [hh109]
          exact ⟨by unfold own_mv; rw [if_neg hc103, if_pos hc108, if_neg hc111], N109, rfl⟩
    · skip
      obtain ⟨cq112, kq112, q112a, q112b, q112c⟩ := isOf hZ hh101 Eo
      obtain ⟨_, _, ⟨T112, L112, k112, n112⟩, -, X112, ⟨Lc112, hQ112, l112, y112, z112⟩, st112⟩ := X101.virtualBack hx (y := (⟨"com/example/frontward/frontward/offline/Orderings", "position", "(II)I"⟩ : MethodName)) (z := (⟨"com/example/frontward/frontward/offline/Orderings", "position", "(II)I"⟩ : MethodName)) hown (mvT hZ (hw _ (List.mem_of_getElem? (i := 41) rfl))) (mvT hZ (hw _ (List.mem_of_getElem? (i := 42) rfl))) (notFace_of_selects (args := #[]) (mvT hZ (hw _ (List.mem_of_getElem? (i := 44) rfl)))) (mvT hZ (hw _ (List.mem_of_getElem? (i := 44) rfl))) (mvT hZ (hw _ (List.mem_of_getElem? (i := 43) rfl))) (by decide) (backOf (W := 0) (rmPos l Z a0 hw [] a1 b1 p2 p4 cn N1 P h0 n0 O0 Fp Fc Lp hj) hZ (hw _ (List.mem_of_getElem? (i := 45) rfl)) (hw _ (List.mem_of_getElem? (i := 2) rfl)) (by decide) (by decide)) q112a q112c (g := (mkF m 47 #[.val (.ref a1), .val (.int p2), .val (.int p3), .val (.int p4), .val (.int p5), .val (.int (P.getD (((p2 * cn) + p3)).toNatClampNeg 0)), .val (.int (P.getD (((p2 * cn) + p3)).toNatClampNeg 0))] [(.int p4), (.int p2), (.ref a1)])) rfl (by rw [hml]; rfl) (Steps.refl _) (argsL := [(.int p2), (.int p4)]) (rest := []) (lenOf pd_0 rfl) rfl (by show 2 * 0 + _ ≤ _; exact Nat.le_of_eq rfl) (hb hby dc3_47) (fun _ _ => ⟨rfl, hh101, (by decide : 0 + 0 ≤ _), (by decide : 0 + 0 ≤ _)⟩)
      dsimp only [Pt.U, Pt.locs, Pt.cells, Pt.slots] at X112 l112 y112 z112 st112 hQ112
      subst l112 y112 z112
      obtain ⟨rfl, N112q, hh112⟩ := hQ112
      have N112 := Fr.app N101 N112q
      have pre113 : ∀ t, Steps p.tables e below (T112.setTop (mkF m 52 #[.val (.ref a1), .val (.int p2), .val (.int p3), .val (.int p4), .val (.int p5), .val (.int (P.getD (((p2 * cn) + p3)).toNatClampNeg 0)), .val (.int (P.getD (((p2 * cn) + p3)).toNatClampNeg 0))] [(.int (P.getD (((p2 * cn) + p3)).toNatClampNeg 0)), (.int (P.getD (((p2 * cn) + p4)).toNatClampNeg 0))])) t → Steps p.tables e below (s₁.setTop (entryFrame m #[(.ref a1), (.int p2), (.int p3), (.int p4), (.int p5)] 7)) t := fun t kt => pre107 t (by
          show Steps p.tables e below (T101.setTop (mkF m 30 #[.val (.ref a1), .val (.int p2), .val (.int p3), .val (.int p4), .val (.int p5), .val (.int (P.getD (((p2 * cn) + p3)).toNatClampNeg 0)), .unset] [(.int (p5 + (1 : Int32))), (.int (P.getD (((p2 * cn) + p3)).toNatClampNeg 0))])) _
          refine XS.icmpYes X101.here hx rfl (pc0 := 30) (pc' := 40) rfl (hb hby dc3_30) rfl (feq hc108).2 (by decide) (by decide) ?_
          refine XS.iload X101.here hx rfl (hb hby dc3_40) rfl ?_
          refine XS.istore X101.here hx rfl (hb hby dc3_42) rfl (l' := #[.val (.ref a1), .val (.int p2), .val (.int p3), .val (.int p4), .val (.int p5), .val (.int (P.getD (((p2 * cn) + p3)).toNatClampNeg 0)), .val (.int (P.getD (((p2 * cn) + p3)).toNatClampNeg 0))]) rfl ?_
          refine XS.aloadN X101.here hx rfl (hb hby dc3_44) rfl rfl ?_
          refine XS.iloadN X101.here hx rfl (hb hby dc3_45) rfl ?_
          refine XS.iloadN X101.here hx rfl (hb hby dc3_46) rfl ?_
          refine st112.trans ?_
          refine XS.iload X112.here hx rfl (hb hby dc3_50) rfl ?_
          exact kt)
      by_cases hc114 : (P.getD (((p2 * cn) + p4)).toNatClampNeg 0) = (P.getD (((p2 * cn) + p3)).toNatClampNeg 0)
      · skip
        obtain ⟨fs, hr, hrun, hended, hW, hsame⟩ := X112.leave (v := some (.int (1 : Int32))) (fun h => by rw [Bd.returns] at h; cases h)
        refine ⟨_, _, pre113 _ ?_, hrun, hended, _, _, rfl, ?_, ⟨_, rfl⟩, hW, hsame.mono (by decide) (by decide)⟩
        · skip
          show Steps p.tables e below (T112.setTop (mkF m 52 #[.val (.ref a1), .val (.int p2), .val (.int p3), .val (.int p4), .val (.int p5), .val (.int (P.getD (((p2 * cn) + p3)).toNatClampNeg 0)), .val (.int (P.getD (((p2 * cn) + p3)).toNatClampNeg 0))] [(.int (P.getD (((p2 * cn) + p3)).toNatClampNeg 0)), (.int (P.getD (((p2 * cn) + p4)).toNatClampNeg 0))])) _
          refine XS.icmpNo X112.here hx rfl (hb hby dc3_52) rfl (teq hc114).2 ?_
          refine XS.iconst X112.here hx rfl (hb hby dc3_55) ?_
          refine XS.goto X112.here hx rfl (pc0 := 56) (pc' := 60) rfl (hb hby dc3_56) (by decide) (by decide) ?_
          show Steps p.tables e below (T112.setTop (mkF m 60 #[.val (.ref a1), .val (.int p2), .val (.int p3), .val (.int p4), .val (.int p5), .val (.int (P.getD (((p2 * cn) + p3)).toNatClampNeg 0)), .val (.int (P.getD (((p2 * cn) + p3)).toNatClampNeg 0))] [(.int (1 : Int32))])) _
          exact retN X112 hx (t := .boolean) Bd.returns (by simp) (hb hby dc3_60) hr
        · show Q_g (own_mv (P.getD (((p2 * cn) + p3)).toNatClampNeg 0) (P.getD (((p2 * cn) + p4)).toNatClampNeg 0) p5) h0 n0 _ T112.heap _
          rw [hh112]
          exact ⟨by unfold own_mv; rw [if_neg hc103, if_neg hc108, if_pos hc114], N112, rfl⟩
      · skip
        obtain ⟨fs, hr, hrun, hended, hW, hsame⟩ := X112.leave (v := some (.int (0 : Int32))) (fun h => by rw [Bd.returns] at h; cases h)
        refine ⟨_, _, pre113 _ ?_, hrun, hended, _, _, rfl, ?_, ⟨_, rfl⟩, hW, hsame.mono (by decide) (by decide)⟩
        · skip
          show Steps p.tables e below (T112.setTop (mkF m 52 #[.val (.ref a1), .val (.int p2), .val (.int p3), .val (.int p4), .val (.int p5), .val (.int (P.getD (((p2 * cn) + p3)).toNatClampNeg 0)), .val (.int (P.getD (((p2 * cn) + p3)).toNatClampNeg 0))] [(.int (P.getD (((p2 * cn) + p3)).toNatClampNeg 0)), (.int (P.getD (((p2 * cn) + p4)).toNatClampNeg 0))])) _
          refine XS.icmpYes X112.here hx rfl (pc0 := 52) (pc' := 59) rfl (hb hby dc3_52) rfl (feq hc114).2 (by decide) (by decide) ?_
          refine XS.iconst X112.here hx rfl (hb hby dc3_59) ?_
          show Steps p.tables e below (T112.setTop (mkF m 60 #[.val (.ref a1), .val (.int p2), .val (.int p3), .val (.int p4), .val (.int p5), .val (.int (P.getD (((p2 * cn) + p3)).toNatClampNeg 0)), .val (.int (P.getD (((p2 * cn) + p3)).toNatClampNeg 0))] [(.int (0 : Int32))])) _
          exact retN X112 hx (t := .boolean) Bd.returns (by simp) (hb hby dc3_60) hr
        · show Q_g (own_mv (P.getD (((p2 * cn) + p3)).toNatClampNeg 0) (P.getD (((p2 * cn) + p4)).toNatClampNeg 0) p5) h0 n0 _ T112.heap _
          rw [hh112]
          exact ⟨by unfold own_mv; rw [if_neg hc103, if_neg hc108, if_neg hc114], N112, rfl⟩
def own_nth2 (c u0 u1 : Int32) : Int32 := if c = (0 : Int32) then u0 else u1
theorem own_nb2 {c u0 u1 : Int32} (h0 : own_bd 2 u0) (h1 : own_bd 2 u1) : own_bd 2 (own_nth2 c u0 u1) := by
  unfold own_nth2
  repeat' split
  all_goals assumption
def own_d2_0 (k : Nat) : Int32 := Int32.ofNat (k / 1 % 2)
theorem own_dd2_0 : ∀ k : Fin 2, own_d2_0 k.val = (0 : Int32) ∨ own_d2_0 k.val = (1 : Int32) := by decide +kernel
theorem own_pin2_0 {c : Int32} (h : c = (0 : Int32) ∨ c = (1 : Int32)) : ¬ c < 0 ∧ c < (2 : Int32) := by
  rcases h with rfl | rfl <;> decide
theorem own_nl2_0 {c u0 u1 : Int32} (h : c = (0 : Int32) ∨ c = (1 : Int32)) : ([(.int u0), (.int u1)] : List Value).getD c.toNatClampNeg (.int (0 : Int32)) = .int (own_nth2 c u0 u1) := by
  rcases h with rfl | rfl <;> rfl
theorem own_cp2_0 {c u0 u1 : Int32} (h : c = (0 : Int32) ∨ c = (1 : Int32)) : ¬ (c + (1 : Int32)) < 0 ∧ ¬ c < 0 ∧ ¬ ((1 : Int32) - c) < 0 ∧ (c + (1 : Int32)).toNatClampNeg + ((1 : Int32) - c).toNatClampNeg ≤ (2 : Int32).toNatClampNeg ∧ c.toNatClampNeg + ((1 : Int32) - c).toNatClampNeg ≤ (2 : Int32).toNatClampNeg ∧ (([(.int u0), (.int u1)] : List Value).take c.toNatClampNeg ++ ((List.range ((1 : Int32) - c).toNatClampNeg).map fun i => ([(.int u0), (.int u1)] : List Value).getD ((c + (1 : Int32)).toNatClampNeg + i) (.int (0 : Int32))) ++ ([(.int u0), (.int u1)] : List Value).drop (c.toNatClampNeg + ((1 : Int32) - c).toNatClampNeg)) = [(.int (own_sh c (0 : Int32) u0 u1)), (.int u1)] := by
  rcases h with rfl | rfl <;> exact ⟨by decide, by decide, by decide, by decide, by decide, rfl⟩
def own_d2_1 (k : Nat) : Int32 := Int32.ofNat (k / 1 % 1)
theorem own_dd2_1 : ∀ k : Fin 2, own_d2_1 k.val = (0 : Int32) := by decide +kernel
theorem own_pin2_1 {c : Int32} (h : c = (0 : Int32)) : ¬ c < 0 ∧ c < (2 : Int32) := by
  rcases h with rfl <;> decide
theorem own_nl2_1 {c u0 u1 : Int32} (h : c = (0 : Int32)) : ([(.int u0), (.int u1)] : List Value).getD c.toNatClampNeg (.int (0 : Int32)) = .int (own_nth2 c u0 u1) := by
  rcases h with rfl <;> rfl
theorem own_cp2_1 {c u0 u1 : Int32} (h : c = (0 : Int32)) : ¬ (c + (1 : Int32)) < 0 ∧ ¬ c < 0 ∧ ¬ ((0 : Int32) - c) < 0 ∧ (c + (1 : Int32)).toNatClampNeg + ((0 : Int32) - c).toNatClampNeg ≤ (2 : Int32).toNatClampNeg ∧ c.toNatClampNeg + ((0 : Int32) - c).toNatClampNeg ≤ (2 : Int32).toNatClampNeg ∧ (([(.int u0), (.int u1)] : List Value).take c.toNatClampNeg ++ ((List.range ((0 : Int32) - c).toNatClampNeg).map fun i => ([(.int u0), (.int u1)] : List Value).getD ((c + (1 : Int32)).toNatClampNeg + i) (.int (0 : Int32))) ++ ([(.int u0), (.int u1)] : List Value).drop (c.toNatClampNeg + ((0 : Int32) - c).toNatClampNeg)) = [(.int u0), (.int u1)] := by
  rcases h with rfl <;> exact ⟨by decide, by decide, by decide, by decide, by decide, rfl⟩
def own_tP2 (kk c0 c1 : Int32) (P : List Int32) : List Int32 :=
  let t0 := own_nth2 c0 (0 : Int32) (1 : Int32)
  let v0_0 := own_sh c0 (0 : Int32) (0 : Int32) (1 : Int32)
  let t1 := own_nth2 c1 v0_0 (1 : Int32)
  ((P.set ((t0 * (2 : Int32)) + kk).toNatClampNeg (0 : Int32)).set ((t1 * (2 : Int32)) + kk).toNatClampNeg (1 : Int32))
def own_tS2 (kk c0 c1 : Int32) (S : List Int32) : List Int32 := (S.set ((kk * (1 : Int32)) + (0 : Int32)).toNatClampNeg (own_sw kk c0 c1 (1 : Int32) (1 : Int32)))
def own_P2 : Nat → List Int32
  | 0 => List.replicate 4 0
  | j + 1 => own_tP2 (Int32.ofNat j) (own_d2_0 j) (own_d2_1 j) (own_P2 j)
def own_S2 : Nat → List Int32
  | 0 => List.replicate 2 0
  | j + 1 => own_tS2 (Int32.ofNat j) (own_d2_0 j) (own_d2_1 j) (own_S2 j)
def own_PL2 : List Int32 := [0, 1, 1, 0]
def own_SL2 : List Int32 := [1, 0]
set_option maxRecDepth 65536 in
theorem own_PE2 : own_P2 2 = own_PL2 := by decide +kernel
set_option maxRecDepth 65536 in
theorem own_SE2 : own_S2 2 = own_SL2 := by decide +kernel
theorem own_in2_0 : ∀ k : Fin 2, (own_d2_0 k.val < (1 : Int32)) → own_d2_0 k.val + (1 : Int32) = own_d2_0 (k.val + 1) ∧ own_d2_1 k.val = own_d2_1 (k.val + 1) := by decide +kernel
theorem own_in2_1 : ∀ k : Fin 2, (¬ (own_d2_0 k.val < (1 : Int32))) → (0 : Int32) = own_d2_0 (k.val + 1) ∧ own_d2_1 k.val = own_d2_1 (k.val + 1) := by decide +kernel
theorem own_kb2 (k : Fin 2) : own_bd 2 (Int32.ofNat k.val) ∧ Int32.ofNat k.val < (2 : Int32) := by
  have h := k.isLt; have e := own_ofNat (j := k.val) (by omega); refine ⟨⟨by omega, by omega⟩, ?_⟩
  rw [Int32.lt_iff_toInt_lt, e]; show _ < (2 : Int); omega
theorem ef_3 (m : MethodId) (x0 : Int32) (x1 : Addr) (x2 : Addr) (x3 : Int32) : entryFrame m #[(.int x0), (.ref x1), (.ref x2), (.int x3)] 6 = mkF m 0 #[.val (.int x0), .val (.ref x1), .val (.ref x2), .val (.int x3), .unset, .unset] [] := by first | (simp [entryFrame, mkF, argsToLocals, Value.category]; done) | rfl
theorem dc4_0 : decode prog_26_method_2_code 0 = .ok (.aload_n 1, 1) := by decide +kernel
theorem dc4_1 : decode prog_26_method_2_code 1 = .ok (.iload_n 3, 1) := by decide +kernel
theorem dc4_2 : decode prog_26_method_2_code 2 = .ok (.iaload, 1) := by decide +kernel
theorem dc4_3 : decode prog_26_method_2_code 3 = .ok (.istore 4, 2) := by decide +kernel
theorem dc4_5 : decode prog_26_method_2_code 5 = .ok (.aload_n 1, 1) := by decide +kernel
theorem dc4_6 : decode prog_26_method_2_code 6 = .ok (.iload_n 3, 1) := by decide +kernel
theorem dc4_7 : decode prog_26_method_2_code 7 = .ok (.iconst 1, 1) := by decide +kernel
theorem dc4_8 : decode prog_26_method_2_code 8 = .ok (.iadd, 1) := by decide +kernel
theorem dc4_9 : decode prog_26_method_2_code 9 = .ok (.iaload, 1) := by decide +kernel
theorem dc4_10 : decode prog_26_method_2_code 10 = .ok (.istore 5, 2) := by decide +kernel
theorem dc4_12 : decode prog_26_method_2_code 12 = .ok (.iload 4, 2) := by decide +kernel
theorem dc4_14 : decode prog_26_method_2_code 14 = .ok (.iload 5, 2) := by decide +kernel
theorem dc4_16 : decode prog_26_method_2_code 16 = .ok (.if_icmp .gt 29, 3) := by decide +kernel
theorem dc4_45 : decode prog_26_method_2_code 45 = .ok (.iload_n 0, 1) := by decide +kernel
theorem dc4_46 : decode prog_26_method_2_code 46 = .ok (.iload 5, 2) := by decide +kernel
theorem dc4_48 : decode prog_26_method_2_code 48 = .ok (.iload 4, 2) := by decide +kernel
theorem dc4_50 : decode prog_26_method_2_code 50 = .ok (.isub, 1) := by decide +kernel
theorem dc4_51 : decode prog_26_method_2_code 51 = .ok (.aload_n 2, 1) := by decide +kernel
theorem dc4_52 : decode prog_26_method_2_code 52 = .ok (.iload_n 3, 1) := by decide +kernel
theorem dc4_53 : decode prog_26_method_2_code 53 = .ok (.iaload, 1) := by decide +kernel
theorem dc4_54 : decode prog_26_method_2_code 54 = .ok (.imul, 1) := by decide +kernel
theorem dc4_55 : decode prog_26_method_2_code 55 = .ok (.iadd, 1) := by decide +kernel
theorem dc4_56 : decode prog_26_method_2_code 56 = .ok (.iload 4, 2) := by decide +kernel
theorem dc4_58 : decode prog_26_method_2_code 58 = .ok (.iconst 1, 1) := by decide +kernel
theorem dc4_59 : decode prog_26_method_2_code 59 = .ok (.isub, 1) := by decide +kernel
theorem dc4_60 : decode prog_26_method_2_code 60 = .ok (.iload 5, 2) := by decide +kernel
theorem dc4_62 : decode prog_26_method_2_code 62 = .ok (.isub, 1) := by decide +kernel
theorem dc4_63 : decode prog_26_method_2_code 63 = .ok (.aload_n 2, 1) := by decide +kernel
theorem dc4_64 : decode prog_26_method_2_code 64 = .ok (.iload_n 3, 1) := by decide +kernel
theorem dc4_65 : decode prog_26_method_2_code 65 = .ok (.iconst 1, 1) := by decide +kernel
theorem dc4_66 : decode prog_26_method_2_code 66 = .ok (.iadd, 1) := by decide +kernel
theorem dc4_67 : decode prog_26_method_2_code 67 = .ok (.iaload, 1) := by decide +kernel
theorem dc4_68 : decode prog_26_method_2_code 68 = .ok (.imul, 1) := by decide +kernel
theorem dc4_69 : decode prog_26_method_2_code 69 = .ok (.iadd, 1) := by decide +kernel
theorem dc4_70 : decode prog_26_method_2_code 70 = .ok (.ireturn, 1) := by decide +kernel
theorem dc4_19 : decode prog_26_method_2_code 19 = .ok (.iload_n 0, 1) := by decide +kernel
theorem dc4_20 : decode prog_26_method_2_code 20 = .ok (.iload 5, 2) := by decide +kernel
theorem dc4_22 : decode prog_26_method_2_code 22 = .ok (.iconst 1, 1) := by decide +kernel
theorem dc4_23 : decode prog_26_method_2_code 23 = .ok (.iadd, 1) := by decide +kernel
theorem dc4_24 : decode prog_26_method_2_code 24 = .ok (.iload 4, 2) := by decide +kernel
theorem dc4_26 : decode prog_26_method_2_code 26 = .ok (.isub, 1) := by decide +kernel
theorem dc4_27 : decode prog_26_method_2_code 27 = .ok (.aload_n 2, 1) := by decide +kernel
theorem dc4_28 : decode prog_26_method_2_code 28 = .ok (.iload_n 3, 1) := by decide +kernel
theorem dc4_29 : decode prog_26_method_2_code 29 = .ok (.iaload, 1) := by decide +kernel
theorem dc4_30 : decode prog_26_method_2_code 30 = .ok (.imul, 1) := by decide +kernel
theorem dc4_31 : decode prog_26_method_2_code 31 = .ok (.iadd, 1) := by decide +kernel
theorem dc4_32 : decode prog_26_method_2_code 32 = .ok (.iload 4, 2) := by decide +kernel
theorem dc4_34 : decode prog_26_method_2_code 34 = .ok (.iload 5, 2) := by decide +kernel
theorem dc4_36 : decode prog_26_method_2_code 36 = .ok (.isub, 1) := by decide +kernel
theorem dc4_37 : decode prog_26_method_2_code 37 = .ok (.aload_n 2, 1) := by decide +kernel
theorem dc4_38 : decode prog_26_method_2_code 38 = .ok (.iload_n 3, 1) := by decide +kernel
theorem dc4_39 : decode prog_26_method_2_code 39 = .ok (.iconst 1, 1) := by decide +kernel
theorem dc4_40 : decode prog_26_method_2_code 40 = .ok (.iadd, 1) := by decide +kernel
theorem dc4_41 : decode prog_26_method_2_code 41 = .ok (.iaload, 1) := by decide +kernel
theorem dc4_42 : decode prog_26_method_2_code 42 = .ok (.imul, 1) := by decide +kernel
theorem dc4_43 : decode prog_26_method_2_code 43 = .ok (.iadd, 1) := by decide +kernel
theorem dc4_44 : decode prog_26_method_2_code 44 = .ok (.ireturn, 1) := by decide +kernel
set_option maxRecDepth 65536 in
set_option maxHeartbeats 40000000 in
theorem rmSw2_0 (l : Launch) (Z : State) (a0 : Array Value) (hw : ∀ d ∈ tables_1, d.before a0 Z = true) (ws : List Jvm.Cond) (kk : Int32) (b1 b2 : Addr) (k1 k2 : ClassId) (c0 c1 : Int32) (h0 : Heap) (n0 : Nat) (O0 : Old Z n0 h0) (Vc : Arv Z h0 b1 k1 .int (2 : Int32) [(.int c0), (.int c1)] (.int (0 : Int32))) (Vp : Arv Z h0 b2 k2 .int (2 : Int32) [(.int (1 : Int32)), (.int (1 : Int32))] (.int (0 : Int32))) :
    MetFree l (⟨"com/example/frontward/frontward/offline/Orderings", "swapped", "(I[I[II)I"⟩ : MethodName) (head1 (Jvm.Cond.code (⟨"com/example/frontward/frontward/offline/Orderings", "swapped", "(I[I[II)I"⟩ : MethodName) prog_26_method_2_code 6 (some .int) :: ws) ({ frames := 0, cells := 0, slots := 0, locals := 0 } : Room)) (fun a U => a = #[(.int kk), (.ref b1), (.ref b2), (.int (0 : Int32))] ∧ Z.Warmed39 U.vm ∧ U.heap = h0) (fun _ _ _ _ _ => True) (fun _ U o U' => ∃ v L, o = .returned v ∧ Q_g (own_sw kk c0 c1 (1 : Int32) (1 : Int32)) h0 n0 v U'.heap L ∧ FrameEnd U o U' L ({ frames := 0, cells := 0, slots := 0, locals := 0 } : Room).cells ({ frames := 0, cells := 0, slots := 0, locals := 0 } : Room).slots) := by
  refine MetFree.of_bodySF (plainFor_of_name pn_0) hisR ?_
  intro p e s m args below meth c s₁ Bd hml0 hP hK
  obtain ⟨rfl, hZ, hh⟩ := hP
  have hx := Bd.exec
  have hby := Bd.bytes
  have hml : c.maxLocals = 6 := hml0
  have hown : s.vm.findClass "com/example/frontward/frontward/offline/Orderings" = some m.cls := findClass_of_methodNamed Bd.named
  have hnm := (name_of_methodNamed Bd.named Bd.method).1
  have X0 : Stand p l e ({ frames := 0, cells := 0, slots := 0, locals := 0 } : Room) s m #[(.int kk), (.ref b1), (.ref b2), (.int (0 : Int32))] below meth c s₁ [] 0 0 := Stand.of_body Bd
  have e0 : s₁.heap = h0 := by rw [← hh, Bd.state]; rfl
  have N0 := Fr.nil n0
  have pre0 : ∀ t, Steps p.tables e below (s₁.setTop (mkF m 0 #[.val (.int kk), .val (.ref b1), .val (.ref b2), .val (.int (0 : Int32)), .unset, .unset] [])) t → Steps p.tables e below (s₁.setTop (entryFrame m #[(.int kk), (.ref b1), (.ref b2), (.int (0 : Int32))] 6)) t := fun t k => castTop (ef_3 m kk b1 b2 (0 : Int32)) k
  obtain ⟨cl101, Ar101, q101, S101, N101_, H101, G101⟩ := id Vc
  have hin101 : ¬ ((0 : Int32) < 0 ∨ cl101.slots.size ≤ ((0 : Int32)).toNatClampNeg) := inb_of S101 ⟨by decide, by decide⟩
  have hat101 : cl101.slots[((0 : Int32)).toNatClampNeg]? = some (.int c0) := H101.at hin101 rfl
  obtain ⟨cl102, Ar102, q102, S102, N102_, H102, G102⟩ := id Vc
  have hin102 : ¬ ((1 : Int32) < 0 ∨ cl102.slots.size ≤ ((1 : Int32)).toNatClampNeg) := inb_of S102 ⟨by decide, by decide⟩
  have hat102 : cl102.slots[((1 : Int32)).toNatClampNeg]? = some (.int c1) := H102.at hin102 rfl
  have pre103 : ∀ t, Steps p.tables e below (s₁.setTop (mkF m 16 #[.val (.int kk), .val (.ref b1), .val (.ref b2), .val (.int (0 : Int32)), .val (.int c0), .val (.int c1)] [(.int c1), (.int c0)])) t → Steps p.tables e below (s₁.setTop (entryFrame m #[(.int kk), (.ref b1), (.ref b2), (.int (0 : Int32))] 6)) t := fun t kt => pre0 t (by
      show Steps p.tables e below (s₁.setTop (mkF m 0 #[.val (.int kk), .val (.ref b1), .val (.ref b2), .val (.int (0 : Int32)), .unset, .unset] [])) _
      refine XS.aloadN X0.here hx rfl (hb hby dc4_0) rfl rfl ?_
      refine XS.iloadN X0.here hx rfl (hb hby dc4_1) rfl ?_
      refine X0.iaload hx (j := (0 : Int32)) (v := (.int c0)) (by rw [e0]; exact Ar101.1) (State.isArrayOf_alike hZ.alike Ar101.2.1) Ar101.2.2 hin101 hat101 (g := (mkF m 2 #[.val (.int kk), .val (.ref b1), .val (.ref b2), .val (.int (0 : Int32)), .unset, .unset] [(.int (0 : Int32)), (.ref b1)])) rfl rfl (hb hby dc4_2) _ ?_
      refine XS.istore X0.here hx rfl (hb hby dc4_3) rfl (l' := #[.val (.int kk), .val (.ref b1), .val (.ref b2), .val (.int (0 : Int32)), .val (.int c0), .unset]) rfl ?_
      refine XS.aloadN X0.here hx rfl (hb hby dc4_5) rfl rfl ?_
      refine XS.iloadN X0.here hx rfl (hb hby dc4_6) rfl ?_
      refine XS.iconst X0.here hx rfl (hb hby dc4_7) ?_
      refine XS.iadd X0.here hx rfl (hb hby dc4_8) rfl ?_
      refine X0.iaload hx (j := (1 : Int32)) (v := (.int c1)) (by rw [e0]; exact Ar102.1) (State.isArrayOf_alike hZ.alike Ar102.2.1) Ar102.2.2 hin102 hat102 (g := (mkF m 9 #[.val (.int kk), .val (.ref b1), .val (.ref b2), .val (.int (0 : Int32)), .val (.int c0), .unset] [(.int (1 : Int32)), (.ref b1)])) rfl rfl (hb hby dc4_9) _ ?_
      refine XS.istore X0.here hx rfl (hb hby dc4_10) rfl (l' := #[.val (.int kk), .val (.ref b1), .val (.ref b2), .val (.int (0 : Int32)), .val (.int c0), .val (.int c1)]) rfl ?_
      refine XS.iload X0.here hx rfl (hb hby dc4_12) rfl ?_
      refine XS.iload X0.here hx rfl (hb hby dc4_14) rfl ?_
      exact kt)
  by_cases hc104 : c1 < c0
  · skip
    obtain ⟨cl105, Ar105, q105, S105, N105_, H105, G105⟩ := id Vp
    have hin105 : ¬ ((0 : Int32) < 0 ∨ cl105.slots.size ≤ ((0 : Int32)).toNatClampNeg) := inb_of S105 ⟨by decide, by decide⟩
    have hat105 : cl105.slots[((0 : Int32)).toNatClampNeg]? = some (.int (1 : Int32)) := H105.at hin105 rfl
    obtain ⟨cl106, Ar106, q106, S106, N106_, H106, G106⟩ := id Vp
    have hin106 : ¬ ((1 : Int32) < 0 ∨ cl106.slots.size ≤ ((1 : Int32)).toNatClampNeg) := inb_of S106 ⟨by decide, by decide⟩
    have hat106 : cl106.slots[((1 : Int32)).toNatClampNeg]? = some (.int (1 : Int32)) := H106.at hin106 rfl
    obtain ⟨fs, hr, hrun, hended, hW, hsame⟩ := X0.leave (v := some (.int ((kk + ((c1 - c0) * (1 : Int32))) + (((c0 - (1 : Int32)) - c1) * (1 : Int32))))) (fun h => by rw [Bd.returns] at h; cases h)
    refine ⟨_, _, pre103 _ ?_, hrun, hended, _, _, rfl, ?_, ⟨_, rfl⟩, hW, hsame.mono (by decide) (by decide)⟩
    · skip
      show Steps p.tables e below (s₁.setTop (mkF m 16 #[.val (.int kk), .val (.ref b1), .val (.ref b2), .val (.int (0 : Int32)), .val (.int c0), .val (.int c1)] [(.int c1), (.int c0)])) _
      refine XS.icmpYes X0.here hx rfl (pc0 := 16) (pc' := 45) rfl (hb hby dc4_16) rfl (tlt hc104).2.2.1 (by decide) (by decide) ?_
      refine XS.iloadN X0.here hx rfl (hb hby dc4_45) rfl ?_
      show Steps p.tables e below (s₁.setTop (mkF m 46 #[.val (.int kk), .val (.ref b1), .val (.ref b2), .val (.int (0 : Int32)), .val (.int c0), .val (.int c1)] [(.int kk)])) _
      refine XS.iload X0.here hx rfl (hb hby dc4_46) rfl ?_
      refine XS.iload X0.here hx rfl (hb hby dc4_48) rfl ?_
      refine XS.isub X0.here hx rfl (hb hby dc4_50) rfl ?_
      refine XS.aloadN X0.here hx rfl (hb hby dc4_51) rfl rfl ?_
      refine XS.iloadN X0.here hx rfl (hb hby dc4_52) rfl ?_
      refine X0.iaload hx (j := (0 : Int32)) (v := (.int (1 : Int32))) (by rw [e0]; exact Ar105.1) (State.isArrayOf_alike hZ.alike Ar105.2.1) Ar105.2.2 hin105 hat105 (g := (mkF m 53 #[.val (.int kk), .val (.ref b1), .val (.ref b2), .val (.int (0 : Int32)), .val (.int c0), .val (.int c1)] [(.int (0 : Int32)), (.ref b2), (.int (c1 - c0)), (.int kk)])) rfl rfl (hb hby dc4_53) _ ?_
      refine XS.imul X0.here hx rfl (hb hby dc4_54) rfl ?_
      refine XS.iadd X0.here hx rfl (hb hby dc4_55) rfl ?_
      refine XS.iload X0.here hx rfl (hb hby dc4_56) rfl ?_
      refine XS.iconst X0.here hx rfl (hb hby dc4_58) ?_
      refine XS.isub X0.here hx rfl (hb hby dc4_59) rfl ?_
      refine XS.iload X0.here hx rfl (hb hby dc4_60) rfl ?_
      refine XS.isub X0.here hx rfl (hb hby dc4_62) rfl ?_
      refine XS.aloadN X0.here hx rfl (hb hby dc4_63) rfl rfl ?_
      refine XS.iloadN X0.here hx rfl (hb hby dc4_64) rfl ?_
      refine XS.iconst X0.here hx rfl (hb hby dc4_65) ?_
      refine XS.iadd X0.here hx rfl (hb hby dc4_66) rfl ?_
      refine X0.iaload hx (j := (1 : Int32)) (v := (.int (1 : Int32))) (by rw [e0]; exact Ar106.1) (State.isArrayOf_alike hZ.alike Ar106.2.1) Ar106.2.2 hin106 hat106 (g := (mkF m 67 #[.val (.int kk), .val (.ref b1), .val (.ref b2), .val (.int (0 : Int32)), .val (.int c0), .val (.int c1)] [(.int (1 : Int32)), (.ref b2), (.int ((c0 - (1 : Int32)) - c1)), (.int (kk + ((c1 - c0) * (1 : Int32))))])) rfl rfl (hb hby dc4_67) _ ?_
      refine XS.imul X0.here hx rfl (hb hby dc4_68) rfl ?_
      refine XS.iadd X0.here hx rfl (hb hby dc4_69) rfl ?_
      show Steps p.tables e below (s₁.setTop (mkF m 70 #[.val (.int kk), .val (.ref b1), .val (.ref b2), .val (.int (0 : Int32)), .val (.int c0), .val (.int c1)] [(.int ((kk + ((c1 - c0) * (1 : Int32))) + (((c0 - (1 : Int32)) - c1) * (1 : Int32))))])) _
      exact retI X0 hx Bd.returns (hb hby dc4_70) hr
    · show Q_g (own_sw kk c0 c1 (1 : Int32) (1 : Int32)) h0 n0 _ s₁.heap _
      rw [e0]
      exact ⟨by simp [own_sw, hc104], N0, rfl⟩
  · skip
    obtain ⟨cl107, Ar107, q107, S107, N107_, H107, G107⟩ := id Vp
    have hin107 : ¬ ((0 : Int32) < 0 ∨ cl107.slots.size ≤ ((0 : Int32)).toNatClampNeg) := inb_of S107 ⟨by decide, by decide⟩
    have hat107 : cl107.slots[((0 : Int32)).toNatClampNeg]? = some (.int (1 : Int32)) := H107.at hin107 rfl
    obtain ⟨cl108, Ar108, q108, S108, N108_, H108, G108⟩ := id Vp
    have hin108 : ¬ ((1 : Int32) < 0 ∨ cl108.slots.size ≤ ((1 : Int32)).toNatClampNeg) := inb_of S108 ⟨by decide, by decide⟩
    have hat108 : cl108.slots[((1 : Int32)).toNatClampNeg]? = some (.int (1 : Int32)) := H108.at hin108 rfl
    obtain ⟨fs, hr, hrun, hended, hW, hsame⟩ := X0.leave (v := some (.int ((kk + (((c1 + (1 : Int32)) - c0) * (1 : Int32))) + ((c0 - c1) * (1 : Int32))))) (fun h => by rw [Bd.returns] at h; cases h)
    refine ⟨_, _, pre103 _ ?_, hrun, hended, _, _, rfl, ?_, ⟨_, rfl⟩, hW, hsame.mono (by decide) (by decide)⟩
    · skip
      show Steps p.tables e below (s₁.setTop (mkF m 16 #[.val (.int kk), .val (.ref b1), .val (.ref b2), .val (.int (0 : Int32)), .val (.int c0), .val (.int c1)] [(.int c1), (.int c0)])) _
      refine XS.icmpNo X0.here hx rfl (hb hby dc4_16) rfl (flt hc104).2.2.1 ?_
      refine XS.iloadN X0.here hx rfl (hb hby dc4_19) rfl ?_
      refine XS.iload X0.here hx rfl (hb hby dc4_20) rfl ?_
      refine XS.iconst X0.here hx rfl (hb hby dc4_22) ?_
      show Steps p.tables e below (s₁.setTop (mkF m 23 #[.val (.int kk), .val (.ref b1), .val (.ref b2), .val (.int (0 : Int32)), .val (.int c0), .val (.int c1)] [(.int (1 : Int32)), (.int c1), (.int kk)])) _
      refine XS.iadd X0.here hx rfl (hb hby dc4_23) rfl ?_
      refine XS.iload X0.here hx rfl (hb hby dc4_24) rfl ?_
      refine XS.isub X0.here hx rfl (hb hby dc4_26) rfl ?_
      refine XS.aloadN X0.here hx rfl (hb hby dc4_27) rfl rfl ?_
      refine XS.iloadN X0.here hx rfl (hb hby dc4_28) rfl ?_
      refine X0.iaload hx (j := (0 : Int32)) (v := (.int (1 : Int32))) (by rw [e0]; exact Ar107.1) (State.isArrayOf_alike hZ.alike Ar107.2.1) Ar107.2.2 hin107 hat107 (g := (mkF m 29 #[.val (.int kk), .val (.ref b1), .val (.ref b2), .val (.int (0 : Int32)), .val (.int c0), .val (.int c1)] [(.int (0 : Int32)), (.ref b2), (.int ((c1 + (1 : Int32)) - c0)), (.int kk)])) rfl rfl (hb hby dc4_29) _ ?_
      refine XS.imul X0.here hx rfl (hb hby dc4_30) rfl ?_
      refine XS.iadd X0.here hx rfl (hb hby dc4_31) rfl ?_
      refine XS.iload X0.here hx rfl (hb hby dc4_32) rfl ?_
      refine XS.iload X0.here hx rfl (hb hby dc4_34) rfl ?_
      refine XS.isub X0.here hx rfl (hb hby dc4_36) rfl ?_
      refine XS.aloadN X0.here hx rfl (hb hby dc4_37) rfl rfl ?_
      refine XS.iloadN X0.here hx rfl (hb hby dc4_38) rfl ?_
      refine XS.iconst X0.here hx rfl (hb hby dc4_39) ?_
      refine XS.iadd X0.here hx rfl (hb hby dc4_40) rfl ?_
      refine X0.iaload hx (j := (1 : Int32)) (v := (.int (1 : Int32))) (by rw [e0]; exact Ar108.1) (State.isArrayOf_alike hZ.alike Ar108.2.1) Ar108.2.2 hin108 hat108 (g := (mkF m 41 #[.val (.int kk), .val (.ref b1), .val (.ref b2), .val (.int (0 : Int32)), .val (.int c0), .val (.int c1)] [(.int (1 : Int32)), (.ref b2), (.int (c0 - c1)), (.int (kk + (((c1 + (1 : Int32)) - c0) * (1 : Int32))))])) rfl rfl (hb hby dc4_41) _ ?_
      refine XS.imul X0.here hx rfl (hb hby dc4_42) rfl ?_
      refine XS.iadd X0.here hx rfl (hb hby dc4_43) rfl ?_
      show Steps p.tables e below (s₁.setTop (mkF m 44 #[.val (.int kk), .val (.ref b1), .val (.ref b2), .val (.int (0 : Int32)), .val (.int c0), .val (.int c1)] [(.int ((kk + (((c1 + (1 : Int32)) - c0) * (1 : Int32))) + ((c0 - c1) * (1 : Int32))))])) _
      exact retI X0 hx Bd.returns (hb hby dc4_44) hr
    · show Q_g (own_sw kk c0 c1 (1 : Int32) (1 : Int32)) h0 n0 _ s₁.heap _
      rw [e0]
      exact ⟨by simp [own_sw, hc104], N0, rfl⟩
theorem dc5_112 : decode prog_26_method_1_code 112 = .ok (.iload 6, 2) := by decide +kernel
theorem dc5_114 : decode prog_26_method_1_code 114 = .ok (.aload_n 0, 1) := by decide +kernel
theorem dc5_115 : decode prog_26_method_1_code 115 = .ok (.getfield 24, 3) := by decide +kernel
theorem dc5_118 : decode prog_26_method_1_code 118 = .ok (.if_icmp .ge 194, 3) := by decide +kernel
theorem dc5_121 : decode prog_26_method_1_code 121 = .ok (.iconst 0, 1) := by decide +kernel
theorem dc5_122 : decode prog_26_method_1_code 122 = .ok (.istore 7, 2) := by decide +kernel
theorem os_0 {z0 : Value} {z1 : Value} {z2 : Value} {z3 : Value} {z4 : Value} {z5 : Value} {z6 : Value} {s7 : Slot} {s8 : Slot} {v : Int32} (h : One s7) : storeLocals #[.val z0, .val z1, .val z2, .val z3, .val z4, .val z5, .val z6, s7, s8] 7 (.int v) = some #[.val z0, .val z1, .val z2, .val z3, .val z4, .val z5, .val z6, .val (.int v), s8] := by
  rcases h with rfl | ⟨w, rfl, hw⟩
  · rfl
  · cases w <;> first | rfl | (simp [Value.category] at hw)
theorem dc5_124 : decode prog_26_method_1_code 124 = .ok (.iload 7, 2) := by decide +kernel
theorem dc5_126 : decode prog_26_method_1_code 126 = .ok (.iload_n 1, 1) := by decide +kernel
theorem dc5_127 : decode prog_26_method_1_code 127 = .ok (.if_icmp .ge 16, 3) := by decide +kernel
theorem dc5_130 : decode prog_26_method_1_code 130 = .ok (.aload 5, 2) := by decide +kernel
theorem dc5_132 : decode prog_26_method_1_code 132 = .ok (.iload 7, 2) := by decide +kernel
theorem dc5_134 : decode prog_26_method_1_code 134 = .ok (.iload 7, 2) := by decide +kernel
theorem dc5_136 : decode prog_26_method_1_code 136 = .ok (.iastore, 1) := by decide +kernel
theorem dc5_137 : decode prog_26_method_1_code 137 = .ok (.iinc 7 1, 3) := by decide +kernel
theorem dc5_140 : decode prog_26_method_1_code 140 = .ok (.goto (-16), 3) := by decide +kernel
theorem dc5_143 : decode prog_26_method_1_code 143 = .ok (.iconst 0, 1) := by decide +kernel
theorem dc5_144 : decode prog_26_method_1_code 144 = .ok (.istore 7, 2) := by decide +kernel
theorem dc5_146 : decode prog_26_method_1_code 146 = .ok (.iload 7, 2) := by decide +kernel
theorem dc5_148 : decode prog_26_method_1_code 148 = .ok (.iload_n 1, 1) := by decide +kernel
theorem dc5_149 : decode prog_26_method_1_code 149 = .ok (.if_icmp .ge 68, 3) := by decide +kernel
theorem dc5_152 : decode prog_26_method_1_code 152 = .ok (.aload 5, 2) := by decide +kernel
theorem dc5_154 : decode prog_26_method_1_code 154 = .ok (.aload 4, 2) := by decide +kernel
theorem dc5_156 : decode prog_26_method_1_code 156 = .ok (.iload 7, 2) := by decide +kernel
theorem dc5_158 : decode prog_26_method_1_code 158 = .ok (.iaload, 1) := by decide +kernel
theorem dc5_159 : decode prog_26_method_1_code 159 = .ok (.iaload, 1) := by decide +kernel
theorem dc5_160 : decode prog_26_method_1_code 160 = .ok (.istore 8, 2) := by decide +kernel
theorem os_1 {z0 : Value} {z1 : Value} {z2 : Value} {z3 : Value} {z4 : Value} {z5 : Value} {z6 : Value} {z7 : Value} {s8 : Slot} {v : Int32} (h : One s8) : storeLocals #[.val z0, .val z1, .val z2, .val z3, .val z4, .val z5, .val z6, .val z7, s8] 8 (.int v) = some #[.val z0, .val z1, .val z2, .val z3, .val z4, .val z5, .val z6, .val z7, .val (.int v)] := by
  rcases h with rfl | ⟨w, rfl, hw⟩
  · rfl
  · cases w <;> first | rfl | (simp [Value.category] at hw)
theorem dc5_162 : decode prog_26_method_1_code 162 = .ok (.aload 5, 2) := by decide +kernel
theorem dc5_164 : decode prog_26_method_1_code 164 = .ok (.aload 4, 2) := by decide +kernel
theorem dc5_166 : decode prog_26_method_1_code 166 = .ok (.iload 7, 2) := by decide +kernel
theorem dc5_168 : decode prog_26_method_1_code 168 = .ok (.iaload, 1) := by decide +kernel
theorem dc5_169 : decode prog_26_method_1_code 169 = .ok (.iconst 1, 1) := by decide +kernel
theorem dc5_170 : decode prog_26_method_1_code 170 = .ok (.iadd, 1) := by decide +kernel
theorem dc5_171 : decode prog_26_method_1_code 171 = .ok (.aload 5, 2) := by decide +kernel
theorem dc5_173 : decode prog_26_method_1_code 173 = .ok (.aload 4, 2) := by decide +kernel
theorem dc5_175 : decode prog_26_method_1_code 175 = .ok (.iload 7, 2) := by decide +kernel
theorem dc5_177 : decode prog_26_method_1_code 177 = .ok (.iaload, 1) := by decide +kernel
theorem dc5_178 : decode prog_26_method_1_code 178 = .ok (.iload_n 1, 1) := by decide +kernel
theorem dc5_179 : decode prog_26_method_1_code 179 = .ok (.iconst 1, 1) := by decide +kernel
theorem dc5_180 : decode prog_26_method_1_code 180 = .ok (.isub, 1) := by decide +kernel
theorem dc5_181 : decode prog_26_method_1_code 181 = .ok (.iload 7, 2) := by decide +kernel
theorem dc5_183 : decode prog_26_method_1_code 183 = .ok (.isub, 1) := by decide +kernel
theorem dc5_184 : decode prog_26_method_1_code 184 = .ok (.aload 4, 2) := by decide +kernel
theorem dc5_186 : decode prog_26_method_1_code 186 = .ok (.iload 7, 2) := by decide +kernel
theorem dc5_188 : decode prog_26_method_1_code 188 = .ok (.iaload, 1) := by decide +kernel
theorem dc5_189 : decode prog_26_method_1_code 189 = .ok (.isub, 1) := by decide +kernel
theorem dc5_190 : decode prog_26_method_1_code 190 = .ok (.invokestatic 35, 3) := by decide +kernel
theorem dc5_193 : decode prog_26_method_1_code 193 = .ok (.aload_n 0, 1) := by decide +kernel
theorem dc5_194 : decode prog_26_method_1_code 194 = .ok (.getfield 27, 3) := by decide +kernel
theorem dc5_197 : decode prog_26_method_1_code 197 = .ok (.iload 8, 2) := by decide +kernel
theorem dc5_199 : decode prog_26_method_1_code 199 = .ok (.aload_n 0, 1) := by decide +kernel
theorem dc5_200 : decode prog_26_method_1_code 200 = .ok (.getfield 24, 3) := by decide +kernel
theorem dc5_203 : decode prog_26_method_1_code 203 = .ok (.imul, 1) := by decide +kernel
theorem dc5_204 : decode prog_26_method_1_code 204 = .ok (.iload 6, 2) := by decide +kernel
theorem dc5_206 : decode prog_26_method_1_code 206 = .ok (.iadd, 1) := by decide +kernel
theorem dc5_207 : decode prog_26_method_1_code 207 = .ok (.iload 7, 2) := by decide +kernel
theorem dc5_209 : decode prog_26_method_1_code 209 = .ok (.i2b, 1) := by decide +kernel
theorem dc5_210 : decode prog_26_method_1_code 210 = .ok (.bastore, 1) := by decide +kernel
theorem dc5_211 : decode prog_26_method_1_code 211 = .ok (.iinc 7 1, 3) := by decide +kernel
theorem dc5_214 : decode prog_26_method_1_code 214 = .ok (.goto (-68), 3) := by decide +kernel
theorem dc5_217 : decode prog_26_method_1_code 217 = .ok (.iconst 0, 1) := by decide +kernel
theorem dc5_218 : decode prog_26_method_1_code 218 = .ok (.istore 7, 2) := by decide +kernel
theorem dc5_220 : decode prog_26_method_1_code 220 = .ok (.iload 7, 2) := by decide +kernel
theorem dc5_222 : decode prog_26_method_1_code 222 = .ok (.iload_n 1, 1) := by decide +kernel
theorem dc5_223 : decode prog_26_method_1_code 223 = .ok (.iconst 1, 1) := by decide +kernel
theorem dc5_224 : decode prog_26_method_1_code 224 = .ok (.isub, 1) := by decide +kernel
theorem dc5_225 : decode prog_26_method_1_code 225 = .ok (.if_icmp .ge 33, 3) := by decide +kernel
theorem dc5_228 : decode prog_26_method_1_code 228 = .ok (.aload_n 0, 1) := by decide +kernel
theorem dc5_229 : decode prog_26_method_1_code 229 = .ok (.getfield 31, 3) := by decide +kernel
theorem dc5_232 : decode prog_26_method_1_code 232 = .ok (.iload 6, 2) := by decide +kernel
theorem dc5_234 : decode prog_26_method_1_code 234 = .ok (.iload_n 1, 1) := by decide +kernel
theorem dc5_235 : decode prog_26_method_1_code 235 = .ok (.iconst 1, 1) := by decide +kernel
theorem dc5_236 : decode prog_26_method_1_code 236 = .ok (.isub, 1) := by decide +kernel
theorem dc5_237 : decode prog_26_method_1_code 237 = .ok (.imul, 1) := by decide +kernel
theorem dc5_238 : decode prog_26_method_1_code 238 = .ok (.iload 7, 2) := by decide +kernel
theorem dc5_240 : decode prog_26_method_1_code 240 = .ok (.iadd, 1) := by decide +kernel
theorem dc5_241 : decode prog_26_method_1_code 241 = .ok (.iload 6, 2) := by decide +kernel
theorem dc5_243 : decode prog_26_method_1_code 243 = .ok (.aload 4, 2) := by decide +kernel
theorem dc5_245 : decode prog_26_method_1_code 245 = .ok (.aload_n 2, 1) := by decide +kernel
theorem dc5_246 : decode prog_26_method_1_code 246 = .ok (.iload 7, 2) := by decide +kernel
theorem dc5_248 : decode prog_26_method_1_code 248 = .ok (.invokestatic 41, 3) := by decide +kernel
theorem pd_1 : parseMethodDescriptor "(I[I[II)I" = some ⟨[.int, (.array .int), (.array .int), .int], some .int⟩ := by decide +kernel
theorem dc5_251 : decode prog_26_method_1_code 251 = .ok (.iastore, 1) := by decide +kernel
theorem dc5_252 : decode prog_26_method_1_code 252 = .ok (.iinc 7 1, 3) := by decide +kernel
theorem dc5_255 : decode prog_26_method_1_code 255 = .ok (.goto (-35), 3) := by decide +kernel
theorem dc5_258 : decode prog_26_method_1_code 258 = .ok (.iload_n 1, 1) := by decide +kernel
theorem dc5_259 : decode prog_26_method_1_code 259 = .ok (.iconst 2, 1) := by decide +kernel
theorem dc5_260 : decode prog_26_method_1_code 260 = .ok (.isub, 1) := by decide +kernel
theorem dc5_261 : decode prog_26_method_1_code 261 = .ok (.istore 7, 2) := by decide +kernel
theorem dc5_263 : decode prog_26_method_1_code 263 = .ok (.iload 7, 2) := by decide +kernel
theorem dc5_265 : decode prog_26_method_1_code 265 = .ok (.ifCond .lt 41, 3) := by decide +kernel
theorem dc5_268 : decode prog_26_method_1_code 268 = .ok (.aload 4, 2) := by decide +kernel
theorem dc5_270 : decode prog_26_method_1_code 270 = .ok (.iload 7, 2) := by decide +kernel
theorem dc5_272 : decode prog_26_method_1_code 272 = .ok (.iaload, 1) := by decide +kernel
theorem dc5_273 : decode prog_26_method_1_code 273 = .ok (.iload_n 1, 1) := by decide +kernel
theorem dc5_274 : decode prog_26_method_1_code 274 = .ok (.iconst 1, 1) := by decide +kernel
theorem dc5_275 : decode prog_26_method_1_code 275 = .ok (.isub, 1) := by decide +kernel
theorem dc5_276 : decode prog_26_method_1_code 276 = .ok (.iload 7, 2) := by decide +kernel
theorem dc5_278 : decode prog_26_method_1_code 278 = .ok (.isub, 1) := by decide +kernel
theorem dc5_279 : decode prog_26_method_1_code 279 = .ok (.if_icmp .ge 15, 3) := by decide +kernel
theorem dc5_282 : decode prog_26_method_1_code 282 = .ok (.aload 4, 2) := by decide +kernel
theorem dc5_284 : decode prog_26_method_1_code 284 = .ok (.iload 7, 2) := by decide +kernel
theorem dc5_286 : decode prog_26_method_1_code 286 = .ok (.dup2, 1) := by decide +kernel
theorem dc5_287 : decode prog_26_method_1_code 287 = .ok (.iaload, 1) := by decide +kernel
theorem dc5_288 : decode prog_26_method_1_code 288 = .ok (.iconst 1, 1) := by decide +kernel
theorem dc5_289 : decode prog_26_method_1_code 289 = .ok (.iadd, 1) := by decide +kernel
theorem dc5_290 : decode prog_26_method_1_code 290 = .ok (.iastore, 1) := by decide +kernel
theorem dc5_291 : decode prog_26_method_1_code 291 = .ok (.goto 15, 3) := by decide +kernel
theorem dc5_306 : decode prog_26_method_1_code 306 = .ok (.iinc 6 1, 3) := by decide +kernel
theorem dc5_309 : decode prog_26_method_1_code 309 = .ok (.goto (-197), 3) := by decide +kernel
theorem dc5_294 : decode prog_26_method_1_code 294 = .ok (.aload 4, 2) := by decide +kernel
theorem dc5_296 : decode prog_26_method_1_code 296 = .ok (.iload 7, 2) := by decide +kernel
theorem dc5_298 : decode prog_26_method_1_code 298 = .ok (.iconst 0, 1) := by decide +kernel
theorem dc5_299 : decode prog_26_method_1_code 299 = .ok (.iastore, 1) := by decide +kernel
theorem dc5_300 : decode prog_26_method_1_code 300 = .ok (.iinc 7 (-1), 3) := by decide +kernel
theorem dc5_303 : decode prog_26_method_1_code 303 = .ok (.goto (-40), 3) := by decide +kernel
set_option maxRecDepth 65536 in
set_option maxHeartbeats 40000000 in
theorem tn2 {p : Program} {l : Launch} {e : Env} {s : State} {m : MethodId} {args : Array Value} {below : List Frame} {meth : Method} {c : Code} {T0 : State} {locs : List Loc} {Z : State} {a0 : Array Value} {h0 : Heap} {n0 : Nat} (a1 bv bp bs bc bu : Addr) (kv kc ku : ClassId) (w7 w8 : Slot) (k : Fin 2) (kk c0 c1 q0 q1 : Int32) (P S : List Int32)
    (X0 : Stand p l e ({ frames := 2, cells := 5, slots := 12, locals := 60 } : Room) s m args below meth c T0 locs 5 12) (hx : p.tables.exec = Jvm.exec) (hZ : Z.Warmed39 s.vm) (hw : ∀ d ∈ tables_1, d.before a0 Z = true) (hby : c.code = prog_26_method_1_code) (hml : c.maxLocals = 9) (hown : s.vm.findClass "com/example/frontward/frontward/offline/Orderings" = some m.cls) (e0 : T0.heap = h0) (N0 : Fr n0 locs) (O0 : Old Z n0 h0) (hw7 : One w7) (hw8 : One w8) (Eo : Exa Z h0 a1 "com/example/frontward/frontward/offline/Orderings") (Fi : Fld Z h0 a1 "com/example/frontward/frontward/offline/Orderings" "items" "I" (.int (2 : Int32))) (Fc : Fld Z h0 a1 "com/example/frontward/frontward/offline/Orderings" "count" "I" (.int (2 : Int32))) (Fp : Fld Z h0 a1 "com/example/frontward/frontward/offline/Orderings" "positions" "[B" (.ref bp)) (Fs : Fld Z h0 a1 "com/example/frontward/frontward/offline/Orderings" "swaps" "[I" (.ref bs)) (Vv : Arv Z h0 bv kv .int (2 : Int32) [(.int (1 : Int32)), (.int (1 : Int32))] (.int (0 : Int32))) (Vc : Arv Z h0 bc kc .int (2 : Int32) [(.int c0), (.int c1)] (.int (0 : Int32))) (Vu : Arv Z h0 bu ku .int (2 : Int32) [(.int q0), (.int q1)] (.int (0 : Int32))) (Lp : La Z h0 bp .byte (4 : Int32) P) (Ls : La Z h0 bs .int (2 : Int32) S) (ne_a1_bv : a1 ≠ bv) (ne_a1_bp : a1 ≠ bp) (ne_a1_bs : a1 ≠ bs) (ne_a1_bc : a1 ≠ bc) (ne_a1_bu : a1 ≠ bu) (ne_bv_bp : bv ≠ bp) (ne_bv_bs : bv ≠ bs) (ne_bv_bc : bv ≠ bc) (ne_bv_bu : bv ≠ bu) (ne_bp_bs : bp ≠ bs) (ne_bp_bc : bp ≠ bc) (ne_bp_bu : bp ≠ bu) (ne_bs_bc : bs ≠ bc) (ne_bs_bu : bs ≠ bu) (ne_bc_bu : bc ≠ bu) (g_bp : n0 ≤ bp) (g_bs : n0 ≤ bs) (g_bc : n0 ≤ bc) (g_bu : n0 ≤ bu) (hkk : kk = Int32.ofNat k.val) (hc0 : c0 = own_d2_0 k.val) (hc1 : c1 = own_d2_1 k.val) :
    ∃ (T' : State) (h' : Heap) (L' : List Loc) (w7' w8' : Slot), Stand p l e ({ frames := 2, cells := 5, slots := 12, locals := 60 } : Room) s m args below meth c T' L' 5 12 ∧ T'.heap = h' ∧ Fr n0 L' ∧ Old Z n0 h' ∧ Keep h0 h' [bp, bs, bc, bu] ∧ Exa Z h' a1 "com/example/frontward/frontward/offline/Orderings" ∧ Fld Z h' a1 "com/example/frontward/frontward/offline/Orderings" "items" "I" (.int (2 : Int32)) ∧ Fld Z h' a1 "com/example/frontward/frontward/offline/Orderings" "count" "I" (.int (2 : Int32)) ∧ Fld Z h' a1 "com/example/frontward/frontward/offline/Orderings" "positions" "[B" (.ref bp) ∧ Fld Z h' a1 "com/example/frontward/frontward/offline/Orderings" "swaps" "[I" (.ref bs) ∧ Arv Z h' bv kv .int (2 : Int32) [(.int (1 : Int32)), (.int (1 : Int32))] (.int (0 : Int32)) ∧ Arv Z h' bc kc .int (2 : Int32) [(.int (own_d2_0 (k.val + 1))), (.int (own_d2_1 (k.val + 1)))] (.int (0 : Int32)) ∧ (∃ q0 q1 : Int32, Arv Z h' bu ku .int (2 : Int32) [(.int q0), (.int q1)] (.int (0 : Int32))) ∧ La Z h' bp .byte (4 : Int32) (own_tP2 (Int32.ofNat k.val) (own_d2_0 k.val) (own_d2_1 k.val) P) ∧ La Z h' bs .int (2 : Int32) (own_tS2 (Int32.ofNat k.val) (own_d2_0 k.val) (own_d2_1 k.val) S) ∧ One w7' ∧ One w8' ∧ ∀ t, Steps p.tables e below (T'.setTop (mkF m 112 #[.val (.ref a1), .val (.int (2 : Int32)), .val (.ref bv), .val (.int (2 : Int32)), .val (.ref bc), .val (.ref bu), .val (.int (Int32.ofNat (k.val + 1))), w7', w8'] [])) t → Steps p.tables e below (T0.setTop (mkF m 112 #[.val (.ref a1), .val (.int (2 : Int32)), .val (.ref bv), .val (.int (2 : Int32)), .val (.ref bc), .val (.ref bu), .val (.int kk), w7, w8] [])) t := by
  have hd0 : c0 = (0 : Int32) ∨ c0 = (1 : Int32) := by rw [hc0]; exact own_dd2_0 k
  have hd1 : c1 = (0 : Int32) := by rw [hc1]; exact own_dd2_1 k
  have hkb : own_bd 2 kk := by rw [hkk]; exact (own_kb2 k).1
  have hkl : kk < (2 : Int32) := by rw [hkk]; exact (own_kb2 k).2
  have pre0 : ∀ t, Steps p.tables e below (T0.setTop (mkF m 112 #[.val (.ref a1), .val (.int (2 : Int32)), .val (.ref bv), .val (.int (2 : Int32)), .val (.ref bc), .val (.ref bu), .val (.int kk), w7, w8] [])) t → Steps p.tables e below (T0.setTop (mkF m 112 #[.val (.ref a1), .val (.int (2 : Int32)), .val (.ref bv), .val (.int (2 : Int32)), .val (.ref bc), .val (.ref bu), .val (.int kk), w7, w8] [])) t := fun _ k => k
  obtain ⟨T101, X101, e101, st101⟩ := getF X0 hx hZ hown (host := "") (Or.inl (hw _ (List.mem_of_getElem? (i := 12) rfl))) Via.refl e0 Fc (g := (mkF m 115 #[.val (.ref a1), .val (.int (2 : Int32)), .val (.ref bv), .val (.int (2 : Int32)), .val (.ref bc), .val (.ref bu), .val (.int kk), w7, w8] [(.ref a1), (.int kk)])) rfl rfl (hb hby dc5_115)
  obtain ⟨cl102, Ar102, q102, S102, N102_, H102, G102⟩ := id Vu
  have hin102 : ¬ ((0 : Int32) < 0 ∨ cl102.slots.size ≤ ((0 : Int32)).toNatClampNeg) := inb_of S102 ⟨by decide, by decide⟩
  obtain ⟨T103, h103, X103, e103, W103, st103⟩ := stI X101 hx hZ e101 Ar102 (j := (0 : Int32)) hin102 (g := (mkF m 136 #[.val (.ref a1), .val (.int (2 : Int32)), .val (.ref bv), .val (.int (2 : Int32)), .val (.ref bc), .val (.ref bu), .val (.int kk), .val (.int (0 : Int32)), w8] [(.int (0 : Int32)), (.int (0 : Int32)), (.ref bu)])) rfl rfl (hb hby dc5_136)
  have V103 : Arv Z h103 bu ku .int (2 : Int32) [(.int (0 : Int32)), (.int q1)] (.int (0 : Int32)) := Arv.set Ar102 q102 S102 N102_ H102 G102 rfl W103 0 rfl (Nat.le_of_ble_eq_true rfl)
  have N103 := Fr.snoc X103 N0 g_bu
  obtain ⟨cl104, Ar104, q104, S104, N104_, H104, G104⟩ := id V103
  have hin104 : ¬ ((1 : Int32) < 0 ∨ cl104.slots.size ≤ ((1 : Int32)).toNatClampNeg) := inb_of S104 ⟨by decide, by decide⟩
  obtain ⟨T105, h105, X105, e105, W105, st105⟩ := stI X103 hx hZ e103 Ar104 (j := (1 : Int32)) hin104 (g := (mkF m 136 #[.val (.ref a1), .val (.int (2 : Int32)), .val (.ref bv), .val (.int (2 : Int32)), .val (.ref bc), .val (.ref bu), .val (.int kk), .val (.int (1 : Int32)), w8] [(.int (1 : Int32)), (.int (1 : Int32)), (.ref bu)])) rfl rfl (hb hby dc5_136)
  have V105 : Arv Z h105 bu ku .int (2 : Int32) [(.int (0 : Int32)), (.int (1 : Int32))] (.int (0 : Int32)) := Arv.set Ar104 q104 S104 N104_ H104 G104 rfl W105 1 rfl (Nat.le_of_ble_eq_true rfl)
  have N105 := Fr.snoc X105 N103 g_bu
  have f106 := ((Vc.other W103 ne_bc_bu).other W105 ne_bc_bu)
  obtain ⟨cl107, Ar107, q107, S107, N107_, H107, G107⟩ := id f106
  have hin107 : ¬ ((0 : Int32) < 0 ∨ cl107.slots.size ≤ ((0 : Int32)).toNatClampNeg) := inb_of S107 ⟨by decide, by decide⟩
  have hat107 : cl107.slots[((0 : Int32)).toNatClampNeg]? = some (.int c0) := H107.at hin107 rfl
  obtain ⟨cl108, Ar108, q108, S108, N108_, H108, G108⟩ := id V105
  obtain ⟨it109, hit109⟩ : ∃ z, z = own_nth2 c0 (0 : Int32) (1 : Int32) := ⟨_, rfl⟩
  have bit109 : own_bd 2 it109 := by rw [hit109]; exact own_nb2 (by decide : own_bd 2 (0 : Int32)) (by decide : own_bd 2 (1 : Int32))
  have hin108 : ¬ (c0 < 0 ∨ cl108.slots.size ≤ (c0).toNatClampNeg) := inb_of S108 (own_pin2_0 hd0)
  have hat108 : cl108.slots[(c0).toNatClampNeg]? = some (.int it109) := H108.at hin108 (by rw [hit109]; exact own_nl2_0 hd0)
  obtain ⟨cl110, Ar110, q110, S110, N110_, H110, G110⟩ := id f106
  have hin110 : ¬ ((0 : Int32) < 0 ∨ cl110.slots.size ≤ ((0 : Int32)).toNatClampNeg) := inb_of S110 ⟨by decide, by decide⟩
  have hat110 : cl110.slots[((0 : Int32)).toNatClampNeg]? = some (.int c0) := H110.at hin110 rfl
  obtain ⟨cl111, Ar111, q111, S111, N111_, H111, G111⟩ := id f106
  have hin111 : ¬ ((0 : Int32) < 0 ∨ cl111.slots.size ≤ ((0 : Int32)).toNatClampNeg) := inb_of S111 ⟨by decide, by decide⟩
  have hat111 : cl111.slots[((0 : Int32)).toNatClampNeg]? = some (.int c0) := H111.at hin111 rfl
  obtain ⟨cl112, Ar112, q112, S112, N112_, H112, G112⟩ := id f106
  have hin112 : ¬ ((0 : Int32) < 0 ∨ cl112.slots.size ≤ ((0 : Int32)).toNatClampNeg) := inb_of S112 ⟨by decide, by decide⟩
  have hat112 : cl112.slots[((0 : Int32)).toNatClampNeg]? = some (.int c0) := H112.at hin112 rfl
  obtain ⟨T113, h113, L113, X113, e113, N113, K113, V113_, st113⟩ := cpA X105 hx hZ hown (hw _ (List.mem_of_getElem? (i := 19) rfl)) (hw _ (List.mem_of_getElem? (i := 22) rfl)) (hw _ (List.mem_of_getElem? (i := 20) rfl)) (hw _ (List.mem_of_getElem? (i := 21) rfl)) e105 V105 V105 (Or.inl ⟨rfl, rfl⟩) (own_cp2_0 (u0 := (0 : Int32)) (u1 := (1 : Int32)) hd0).1 (own_cp2_0 (u0 := (0 : Int32)) (u1 := (1 : Int32)) hd0).2.1 (own_cp2_0 (u0 := (0 : Int32)) (u1 := (1 : Int32)) hd0).2.2.1 (own_cp2_0 (u0 := (0 : Int32)) (u1 := (1 : Int32)) hd0).2.2.2.1 (own_cp2_0 (u0 := (0 : Int32)) (u1 := (1 : Int32)) hd0).2.2.2.2.1 rfl (Nat.le_trans (own_cp2_0 (u0 := (0 : Int32)) (u1 := (1 : Int32)) hd0).2.2.2.2.1 (by decide : (2 : Int32).toNatClampNeg ≤ 2)) N105 g_bu (g := (mkF m 190 #[.val (.ref a1), .val (.int (2 : Int32)), .val (.ref bv), .val (.int (2 : Int32)), .val (.ref bc), .val (.ref bu), .val (.int kk), .val (.int (0 : Int32)), .val (.int it109)] [(.int ((1 : Int32) - c0)), (.int c0), (.ref bu), (.int (c0 + (1 : Int32))), (.ref bu)])) rfl (by rw [hml]; rfl) rfl (hb hby dc5_190) (by decide) (W := 0) (by show 2 * 0 + _ ≤ _; exact Nat.le_of_eq rfl) (by decide)
  have V113 : Arv Z h113 bu ku .int (2 : Int32) [(.int (own_sh c0 (0 : Int32) (0 : Int32) (1 : Int32))), (.int (1 : Int32))] (.int (0 : Int32)) := by have q := V113_; rw [(own_cp2_0 (u0 := (0 : Int32)) (u1 := (1 : Int32)) hd0).2.2.2.2.2] at q; exact q
  obtain ⟨u114, hu114⟩ : ∃ z, z = (own_sh c0 (0 : Int32) (0 : Int32) (1 : Int32)) := ⟨_, rfl⟩
  rw [← hu114] at V113
  have bu114 : own_bd 2 u114 := by rw [hu114]; exact own_sh_bd (by decide : own_bd 2 (0 : Int32)) (by decide : own_bd 2 (1 : Int32))
  have f115 := (((Fp.other W103 (Or.inl ne_a1_bu)).other W105 (Or.inl ne_a1_bu)).keep K113 (ninS ne_a1_bu nin0))
  obtain ⟨T116, X116, e116, st116⟩ := getF X113 hx hZ hown (host := "") (Or.inl (hw _ (List.mem_of_getElem? (i := 15) rfl))) Via.refl e113 f115 (g := (mkF m 194 #[.val (.ref a1), .val (.int (2 : Int32)), .val (.ref bv), .val (.int (2 : Int32)), .val (.ref bc), .val (.ref bu), .val (.int kk), .val (.int (0 : Int32)), .val (.int it109)] [(.ref a1)])) rfl rfl (hb hby dc5_194)
  have f117 := (((Fc.other W103 (Or.inl ne_a1_bu)).other W105 (Or.inl ne_a1_bu)).keep K113 (ninS ne_a1_bu nin0))
  obtain ⟨T118, X118, e118, st118⟩ := getF X116 hx hZ hown (host := "") (Or.inl (hw _ (List.mem_of_getElem? (i := 12) rfl))) Via.refl e116 f117 (g := (mkF m 200 #[.val (.ref a1), .val (.int (2 : Int32)), .val (.ref bv), .val (.int (2 : Int32)), .val (.ref bc), .val (.ref bu), .val (.int kk), .val (.int (0 : Int32)), .val (.int it109)] [(.ref a1), (.int it109), (.ref bp)])) rfl rfl (hb hby dc5_200)
  have f119 := (((Lp.other W103 ne_bp_bu).other W105 ne_bp_bu).keep K113 (ninS ne_bp_bu nin0))
  obtain ⟨cl120, Ar120, hin120, up120⟩ := La.up (j := ((it109 * (2 : Int32)) + kk)) f119 (own_ix (n := 2) (cn := 2) bit109 hkb (by decide) (by decide) (by decide) (by decide) (by decide))
  obtain ⟨T121, h121, X121, e121, W121, st121⟩ := stB X118 hx hZ e118 Ar120 (j := ((it109 * (2 : Int32)) + kk)) hin120 (g := (mkF m 210 #[.val (.ref a1), .val (.int (2 : Int32)), .val (.ref bv), .val (.int (2 : Int32)), .val (.ref bc), .val (.ref bu), .val (.int kk), .val (.int (0 : Int32)), .val (.int it109)] [(.int (0 : Int32)), (.int ((it109 * (2 : Int32)) + kk)), (.ref bp)])) rfl rfl (hb hby dc5_210)
  have A121 : La Z h121 bp .byte (4 : Int32) (P.set (((it109 * (2 : Int32)) + kk)).toNatClampNeg (0 : Int32)) := up120 _ (by first | rfl | decide) _ W121
  have N121 := Fr.snoc X121 N113 g_bp
  have f122 := ((f106.keep K113 (ninS ne_bc_bu nin0)).other W121 (Ne.symm ne_bp_bc))
  obtain ⟨cl123, Ar123, q123, S123, N123_, H123, G123⟩ := id f122
  have hin123 : ¬ ((1 : Int32) < 0 ∨ cl123.slots.size ≤ ((1 : Int32)).toNatClampNeg) := inb_of S123 ⟨by decide, by decide⟩
  have hat123 : cl123.slots[((1 : Int32)).toNatClampNeg]? = some (.int c1) := H123.at hin123 rfl
  have f124 := (V113.other W121 (Ne.symm ne_bp_bu))
  obtain ⟨cl125, Ar125, q125, S125, N125_, H125, G125⟩ := id f124
  obtain ⟨it126, hit126⟩ : ∃ z, z = own_nth2 c1 u114 (1 : Int32) := ⟨_, rfl⟩
  have bit126 : own_bd 2 it126 := by rw [hit126]; exact own_nb2 bu114 (by decide : own_bd 2 (1 : Int32))
  have hin125 : ¬ (c1 < 0 ∨ cl125.slots.size ≤ (c1).toNatClampNeg) := inb_of S125 (own_pin2_1 hd1)
  have hat125 : cl125.slots[(c1).toNatClampNeg]? = some (.int it126) := H125.at hin125 (by rw [hit126]; exact own_nl2_1 hd1)
  obtain ⟨cl127, Ar127, q127, S127, N127_, H127, G127⟩ := id f122
  have hin127 : ¬ ((1 : Int32) < 0 ∨ cl127.slots.size ≤ ((1 : Int32)).toNatClampNeg) := inb_of S127 ⟨by decide, by decide⟩
  have hat127 : cl127.slots[((1 : Int32)).toNatClampNeg]? = some (.int c1) := H127.at hin127 rfl
  obtain ⟨cl128, Ar128, q128, S128, N128_, H128, G128⟩ := id f122
  have hin128 : ¬ ((1 : Int32) < 0 ∨ cl128.slots.size ≤ ((1 : Int32)).toNatClampNeg) := inb_of S128 ⟨by decide, by decide⟩
  have hat128 : cl128.slots[((1 : Int32)).toNatClampNeg]? = some (.int c1) := H128.at hin128 rfl
  obtain ⟨cl129, Ar129, q129, S129, N129_, H129, G129⟩ := id f122
  have hin129 : ¬ ((1 : Int32) < 0 ∨ cl129.slots.size ≤ ((1 : Int32)).toNatClampNeg) := inb_of S129 ⟨by decide, by decide⟩
  have hat129 : cl129.slots[((1 : Int32)).toNatClampNeg]? = some (.int c1) := H129.at hin129 rfl
  obtain ⟨T130, h130, L130, X130, e130, N130, K130, V130_, st130⟩ := cpA X121 hx hZ hown (hw _ (List.mem_of_getElem? (i := 19) rfl)) (hw _ (List.mem_of_getElem? (i := 22) rfl)) (hw _ (List.mem_of_getElem? (i := 20) rfl)) (hw _ (List.mem_of_getElem? (i := 21) rfl)) e121 f124 f124 (Or.inl ⟨rfl, rfl⟩) (own_cp2_1 (u0 := u114) (u1 := (1 : Int32)) hd1).1 (own_cp2_1 (u0 := u114) (u1 := (1 : Int32)) hd1).2.1 (own_cp2_1 (u0 := u114) (u1 := (1 : Int32)) hd1).2.2.1 (own_cp2_1 (u0 := u114) (u1 := (1 : Int32)) hd1).2.2.2.1 (own_cp2_1 (u0 := u114) (u1 := (1 : Int32)) hd1).2.2.2.2.1 rfl (Nat.le_trans (own_cp2_1 (u0 := u114) (u1 := (1 : Int32)) hd1).2.2.2.2.1 (by decide : (2 : Int32).toNatClampNeg ≤ 2)) N121 g_bu (g := (mkF m 190 #[.val (.ref a1), .val (.int (2 : Int32)), .val (.ref bv), .val (.int (2 : Int32)), .val (.ref bc), .val (.ref bu), .val (.int kk), .val (.int (1 : Int32)), .val (.int it126)] [(.int ((0 : Int32) - c1)), (.int c1), (.ref bu), (.int (c1 + (1 : Int32))), (.ref bu)])) rfl (by rw [hml]; rfl) rfl (hb hby dc5_190) (by decide) (W := 0) (by show 2 * 0 + _ ≤ _; exact Nat.le_of_eq rfl) (by decide)
  have V130 : Arv Z h130 bu ku .int (2 : Int32) [(.int u114), (.int (1 : Int32))] (.int (0 : Int32)) := by have q := V130_; rw [(own_cp2_1 (u0 := u114) (u1 := (1 : Int32)) hd1).2.2.2.2.2] at q; exact q
  have f131 := ((f115.other W121 (Or.inl ne_a1_bp)).keep K130 (ninS ne_a1_bu nin0))
  obtain ⟨T132, X132, e132, st132⟩ := getF X130 hx hZ hown (host := "") (Or.inl (hw _ (List.mem_of_getElem? (i := 15) rfl))) Via.refl e130 f131 (g := (mkF m 194 #[.val (.ref a1), .val (.int (2 : Int32)), .val (.ref bv), .val (.int (2 : Int32)), .val (.ref bc), .val (.ref bu), .val (.int kk), .val (.int (1 : Int32)), .val (.int it126)] [(.ref a1)])) rfl rfl (hb hby dc5_194)
  have f133 := ((f117.other W121 (Or.inl ne_a1_bp)).keep K130 (ninS ne_a1_bu nin0))
  obtain ⟨T134, X134, e134, st134⟩ := getF X132 hx hZ hown (host := "") (Or.inl (hw _ (List.mem_of_getElem? (i := 12) rfl))) Via.refl e132 f133 (g := (mkF m 200 #[.val (.ref a1), .val (.int (2 : Int32)), .val (.ref bv), .val (.int (2 : Int32)), .val (.ref bc), .val (.ref bu), .val (.int kk), .val (.int (1 : Int32)), .val (.int it126)] [(.ref a1), (.int it126), (.ref bp)])) rfl rfl (hb hby dc5_200)
  have f135 := (A121.keep K130 (ninS ne_bp_bu nin0))
  obtain ⟨cl136, Ar136, hin136, up136⟩ := La.up (j := ((it126 * (2 : Int32)) + kk)) f135 (own_ix (n := 2) (cn := 2) bit126 hkb (by decide) (by decide) (by decide) (by decide) (by decide))
  obtain ⟨T137, h137, X137, e137, W137, st137⟩ := stB X134 hx hZ e134 Ar136 (j := ((it126 * (2 : Int32)) + kk)) hin136 (g := (mkF m 210 #[.val (.ref a1), .val (.int (2 : Int32)), .val (.ref bv), .val (.int (2 : Int32)), .val (.ref bc), .val (.ref bu), .val (.int kk), .val (.int (1 : Int32)), .val (.int it126)] [(.int (1 : Int32)), (.int ((it126 * (2 : Int32)) + kk)), (.ref bp)])) rfl rfl (hb hby dc5_210)
  have A137 : La Z h137 bp .byte (4 : Int32) ((P.set (((it109 * (2 : Int32)) + kk)).toNatClampNeg (0 : Int32)).set (((it126 * (2 : Int32)) + kk)).toNatClampNeg (1 : Int32)) := up136 _ (by first | rfl | decide) _ W137
  have N137 := Fr.snoc X137 N130 g_bp
  have f138 := ((((((Fs.other W103 (Or.inl ne_a1_bu)).other W105 (Or.inl ne_a1_bu)).keep K113 (ninS ne_a1_bu nin0)).other W121 (Or.inl ne_a1_bp)).keep K130 (ninS ne_a1_bu nin0)).other W137 (Or.inl ne_a1_bp))
  obtain ⟨T139, X139, e139, st139⟩ := getF X137 hx hZ hown (host := "") (Or.inl (hw _ (List.mem_of_getElem? (i := 17) rfl))) Via.refl e137 f138 (g := (mkF m 229 #[.val (.ref a1), .val (.int (2 : Int32)), .val (.ref bv), .val (.int (2 : Int32)), .val (.ref bc), .val (.ref bu), .val (.int kk), .val (.int (0 : Int32)), .val (.int it126)] [(.ref a1)])) rfl rfl (hb hby dc5_229)
  have O140 : Old Z n0 h137 := ((((((O0.wr W103 g_bu).wr W105 g_bu).keep K113 (allS g_bu all0)).wr W121 g_bp).keep K130 (allS g_bu all0)).wr W137 g_bp)
  have f141 := ((f122.keep K130 (ninS ne_bc_bu nin0)).other W137 (Ne.symm ne_bp_bc))
  have f142 := ((((((Vv.other W103 ne_bv_bu).other W105 ne_bv_bu).keep K113 (ninS ne_bv_bu nin0)).other W121 ne_bv_bp).keep K130 (ninS ne_bv_bu nin0)).other W137 ne_bv_bp)
  obtain ⟨_, _, ⟨T143, L143, k143, n143⟩, -, X143, ⟨Lc143, hQ143, l143, y143, z143⟩, st143⟩ := Jvm.LawKit.callS X139 hx (y := (⟨"com/example/frontward/frontward/offline/Orderings", "swapped", "(I[I[II)I"⟩ : MethodName)) hown (mvT hZ (hw _ (List.mem_of_getElem? (i := 23) rfl))) (mvT hZ (hw _ (List.mem_of_getElem? (i := 24) rfl))) (mvT hZ (hw _ (List.mem_of_getElem? (i := 2) rfl))) (mvT hZ (hw _ (List.mem_of_getElem? (i := 25) rfl))) (by decide) (backOf (W := 2) (rmSw2_0 l Z a0 hw [] kk bc bv kc kv c0 c1 h137 n0 O140 f141 f142) hZ (hw _ (List.mem_of_getElem? (i := 25) rfl)) (hw _ (List.mem_of_getElem? (i := 2) rfl)) (by decide) (by decide)) (g := (mkF m 248 #[.val (.ref a1), .val (.int (2 : Int32)), .val (.ref bv), .val (.int (2 : Int32)), .val (.ref bc), .val (.ref bu), .val (.int kk), .val (.int (0 : Int32)), .val (.int it126)] [(.int (0 : Int32)), (.ref bv), (.ref bc), (.int kk), (.int ((kk * (1 : Int32)) + (0 : Int32))), (.ref bs)])) rfl (by rw [hml]; rfl) (argsL := [(.int kk), (.ref bc), (.ref bv), (.int (0 : Int32))]) (rest := [(.int ((kk * (1 : Int32)) + (0 : Int32))), (.ref bs)]) (lenOf pd_1 rfl) rfl (by show 2 * 0 + _ ≤ _; exact Nat.le_of_eq rfl) (hb hby dc5_248) (fun _ _ => ⟨rfl, e139, (by decide : 5 + 0 ≤ _), (by decide : 12 + 0 ≤ _)⟩)
  dsimp only [Pt.U, Pt.locs, Pt.cells, Pt.slots] at X143 l143 y143 z143 st143 hQ143
  subst l143 y143 z143
  obtain ⟨rfl, N143q, hh143⟩ := hQ143
  have N143 := Fr.app N137 N143q
  have f144 := ((((((Ls.other W103 ne_bs_bu).other W105 ne_bs_bu).keep K113 (ninS ne_bs_bu nin0)).other W121 (Ne.symm ne_bp_bs)).keep K130 (ninS ne_bs_bu nin0)).other W137 (Ne.symm ne_bp_bs))
  obtain ⟨cl145, Ar145, hin145, up145⟩ := La.up (j := ((kk * (1 : Int32)) + (0 : Int32))) f144 (own_iy (n := 1) (cn := 2) hkb (by decide) (by decide) (by decide) (by decide) (by decide) (by decide))
  obtain ⟨T146, h146, X146, e146, W146, st146⟩ := stI X143 hx hZ hh143 Ar145 (j := ((kk * (1 : Int32)) + (0 : Int32))) hin145 (g := (mkF m 251 #[.val (.ref a1), .val (.int (2 : Int32)), .val (.ref bv), .val (.int (2 : Int32)), .val (.ref bc), .val (.ref bu), .val (.int kk), .val (.int (0 : Int32)), .val (.int it126)] [(.int (own_sw kk c0 c1 (1 : Int32) (1 : Int32))), (.int ((kk * (1 : Int32)) + (0 : Int32))), (.ref bs)])) rfl rfl (hb hby dc5_251)
  have A146 : La Z h146 bs .int (2 : Int32) (S.set (((kk * (1 : Int32)) + (0 : Int32))).toNatClampNeg (own_sw kk c0 c1 (1 : Int32) (1 : Int32))) := up145 _ (by first | rfl | decide) _ W146
  have N146 := Fr.snoc X146 N143 g_bs
  have f147 := (f141.other W146 (Ne.symm ne_bs_bc))
  obtain ⟨cl148, Ar148, q148, S148, N148_, H148, G148⟩ := id f147
  have hin148 : ¬ ((0 : Int32) < 0 ∨ cl148.slots.size ≤ ((0 : Int32)).toNatClampNeg) := inb_of S148 ⟨by decide, by decide⟩
  have hat148 : cl148.slots[((0 : Int32)).toNatClampNeg]? = some (.int c0) := H148.at hin148 rfl
  have pre149 : ∀ t, Steps p.tables e below (T146.setTop (mkF m 279 #[.val (.ref a1), .val (.int (2 : Int32)), .val (.ref bv), .val (.int (2 : Int32)), .val (.ref bc), .val (.ref bu), .val (.int kk), .val (.int (0 : Int32)), .val (.int it126)] [(.int (1 : Int32)), (.int c0)])) t → Steps p.tables e below (T0.setTop (mkF m 112 #[.val (.ref a1), .val (.int (2 : Int32)), .val (.ref bv), .val (.int (2 : Int32)), .val (.ref bc), .val (.ref bu), .val (.int kk), w7, w8] [])) t := fun t kt => pre0 t (by
      show Steps p.tables e below (T0.setTop (mkF m 112 #[.val (.ref a1), .val (.int (2 : Int32)), .val (.ref bv), .val (.int (2 : Int32)), .val (.ref bc), .val (.ref bu), .val (.int kk), w7, w8] [])) _
      refine XS.iload X0.here hx rfl (hb hby dc5_112) rfl ?_
      refine XS.aloadN X0.here hx rfl (hb hby dc5_114) rfl rfl ?_
      refine st101 _ ?_
      show Steps p.tables e below (T101.setTop (mkF m 118 #[.val (.ref a1), .val (.int (2 : Int32)), .val (.ref bv), .val (.int (2 : Int32)), .val (.ref bc), .val (.ref bu), .val (.int kk), w7, w8] [(.int (2 : Int32)), (.int kk)])) _
      refine XS.icmpNo X101.here hx rfl (hb hby dc5_118) rfl (tlt hkl).2.1 ?_
      refine XS.iconst X101.here hx rfl (hb hby dc5_121) ?_
      refine XS.istore X101.here hx rfl (hb hby dc5_122) rfl (l' := #[.val (.ref a1), .val (.int (2 : Int32)), .val (.ref bv), .val (.int (2 : Int32)), .val (.ref bc), .val (.ref bu), .val (.int kk), .val (.int (0 : Int32)), w8]) (os_0 hw7) ?_
      refine XS.iload X101.here hx rfl (hb hby dc5_124) rfl ?_
      refine XS.iloadN X101.here hx rfl (hb hby dc5_126) rfl ?_
      show Steps p.tables e below (T101.setTop (mkF m 127 #[.val (.ref a1), .val (.int (2 : Int32)), .val (.ref bv), .val (.int (2 : Int32)), .val (.ref bc), .val (.ref bu), .val (.int kk), .val (.int (0 : Int32)), w8] [(.int (2 : Int32)), (.int (0 : Int32))])) _
      refine XS.icmpNo X101.here hx rfl (hb hby dc5_127) rfl (by decide) ?_
      refine XS.aload X101.here hx rfl (hb hby dc5_130) rfl rfl ?_
      refine XS.iload X101.here hx rfl (hb hby dc5_132) rfl ?_
      refine XS.iload X101.here hx rfl (hb hby dc5_134) rfl ?_
      refine st103 _ ?_
      refine XS.iinc X103.here hx rfl (hb hby dc5_137) rfl (l' := #[.val (.ref a1), .val (.int (2 : Int32)), .val (.ref bv), .val (.int (2 : Int32)), .val (.ref bc), .val (.ref bu), .val (.int kk), .val (.int (1 : Int32)), w8]) rfl ?_
      refine XS.goto X103.here hx rfl (pc0 := 140) (pc' := 124) rfl (hb hby dc5_140) (by decide) (by decide) ?_
      refine XS.iload X103.here hx rfl (hb hby dc5_124) rfl ?_
      refine XS.iloadN X103.here hx rfl (hb hby dc5_126) rfl ?_
      show Steps p.tables e below (T103.setTop (mkF m 127 #[.val (.ref a1), .val (.int (2 : Int32)), .val (.ref bv), .val (.int (2 : Int32)), .val (.ref bc), .val (.ref bu), .val (.int kk), .val (.int (1 : Int32)), w8] [(.int (2 : Int32)), (.int (1 : Int32))])) _
      refine XS.icmpNo X103.here hx rfl (hb hby dc5_127) rfl (by decide) ?_
      refine XS.aload X103.here hx rfl (hb hby dc5_130) rfl rfl ?_
      refine XS.iload X103.here hx rfl (hb hby dc5_132) rfl ?_
      refine XS.iload X103.here hx rfl (hb hby dc5_134) rfl ?_
      refine st105 _ ?_
      refine XS.iinc X105.here hx rfl (hb hby dc5_137) rfl (l' := #[.val (.ref a1), .val (.int (2 : Int32)), .val (.ref bv), .val (.int (2 : Int32)), .val (.ref bc), .val (.ref bu), .val (.int kk), .val (.int (2 : Int32)), w8]) rfl ?_
      refine XS.goto X105.here hx rfl (pc0 := 140) (pc' := 124) rfl (hb hby dc5_140) (by decide) (by decide) ?_
      show Steps p.tables e below (T105.setTop (mkF m 124 #[.val (.ref a1), .val (.int (2 : Int32)), .val (.ref bv), .val (.int (2 : Int32)), .val (.ref bc), .val (.ref bu), .val (.int kk), .val (.int (2 : Int32)), w8] [])) _
      refine XS.iload X105.here hx rfl (hb hby dc5_124) rfl ?_
      refine XS.iloadN X105.here hx rfl (hb hby dc5_126) rfl ?_
      show Steps p.tables e below (T105.setTop (mkF m 127 #[.val (.ref a1), .val (.int (2 : Int32)), .val (.ref bv), .val (.int (2 : Int32)), .val (.ref bc), .val (.ref bu), .val (.int kk), .val (.int (2 : Int32)), w8] [(.int (2 : Int32)), (.int (2 : Int32))])) _
      refine XS.icmpYes X105.here hx rfl (pc0 := 127) (pc' := 143) rfl (hb hby dc5_127) rfl (by decide) (by decide) (by decide) ?_
      refine XS.iconst X105.here hx rfl (hb hby dc5_143) ?_
      refine XS.istore X105.here hx rfl (hb hby dc5_144) rfl (l' := #[.val (.ref a1), .val (.int (2 : Int32)), .val (.ref bv), .val (.int (2 : Int32)), .val (.ref bc), .val (.ref bu), .val (.int kk), .val (.int (0 : Int32)), w8]) rfl ?_
      refine XS.iload X105.here hx rfl (hb hby dc5_146) rfl ?_
      refine XS.iloadN X105.here hx rfl (hb hby dc5_148) rfl ?_
      show Steps p.tables e below (T105.setTop (mkF m 149 #[.val (.ref a1), .val (.int (2 : Int32)), .val (.ref bv), .val (.int (2 : Int32)), .val (.ref bc), .val (.ref bu), .val (.int kk), .val (.int (0 : Int32)), w8] [(.int (2 : Int32)), (.int (0 : Int32))])) _
      refine XS.icmpNo X105.here hx rfl (hb hby dc5_149) rfl (by decide) ?_
      refine XS.aload X105.here hx rfl (hb hby dc5_152) rfl rfl ?_
      refine XS.aload X105.here hx rfl (hb hby dc5_154) rfl rfl ?_
      refine XS.iload X105.here hx rfl (hb hby dc5_156) rfl ?_
      refine X105.iaload hx (j := (0 : Int32)) (v := (.int c0)) (by rw [e105]; exact Ar107.1) (State.isArrayOf_alike hZ.alike Ar107.2.1) Ar107.2.2 hin107 hat107 (g := (mkF m 158 #[.val (.ref a1), .val (.int (2 : Int32)), .val (.ref bv), .val (.int (2 : Int32)), .val (.ref bc), .val (.ref bu), .val (.int kk), .val (.int (0 : Int32)), w8] [(.int (0 : Int32)), (.ref bc), (.ref bu)])) rfl rfl (hb hby dc5_158) _ ?_
      refine X105.iaload hx (j := c0) (v := (.int it109)) (by rw [e105]; exact Ar108.1) (State.isArrayOf_alike hZ.alike Ar108.2.1) Ar108.2.2 hin108 hat108 (g := (mkF m 159 #[.val (.ref a1), .val (.int (2 : Int32)), .val (.ref bv), .val (.int (2 : Int32)), .val (.ref bc), .val (.ref bu), .val (.int kk), .val (.int (0 : Int32)), w8] [(.int c0), (.ref bu)])) rfl rfl (hb hby dc5_159) _ ?_
      refine XS.istore X105.here hx rfl (hb hby dc5_160) rfl (l' := #[.val (.ref a1), .val (.int (2 : Int32)), .val (.ref bv), .val (.int (2 : Int32)), .val (.ref bc), .val (.ref bu), .val (.int kk), .val (.int (0 : Int32)), .val (.int it109)]) (os_1 hw8) ?_
      refine XS.aload X105.here hx rfl (hb hby dc5_162) rfl rfl ?_
      refine XS.aload X105.here hx rfl (hb hby dc5_164) rfl rfl ?_
      refine XS.iload X105.here hx rfl (hb hby dc5_166) rfl ?_
      refine X105.iaload hx (j := (0 : Int32)) (v := (.int c0)) (by rw [e105]; exact Ar110.1) (State.isArrayOf_alike hZ.alike Ar110.2.1) Ar110.2.2 hin110 hat110 (g := (mkF m 168 #[.val (.ref a1), .val (.int (2 : Int32)), .val (.ref bv), .val (.int (2 : Int32)), .val (.ref bc), .val (.ref bu), .val (.int kk), .val (.int (0 : Int32)), .val (.int it109)] [(.int (0 : Int32)), (.ref bc), (.ref bu)])) rfl rfl (hb hby dc5_168) _ ?_
      refine XS.iconst X105.here hx rfl (hb hby dc5_169) ?_
      refine XS.iadd X105.here hx rfl (hb hby dc5_170) rfl ?_
      refine XS.aload X105.here hx rfl (hb hby dc5_171) rfl rfl ?_
      refine XS.aload X105.here hx rfl (hb hby dc5_173) rfl rfl ?_
      refine XS.iload X105.here hx rfl (hb hby dc5_175) rfl ?_
      refine X105.iaload hx (j := (0 : Int32)) (v := (.int c0)) (by rw [e105]; exact Ar111.1) (State.isArrayOf_alike hZ.alike Ar111.2.1) Ar111.2.2 hin111 hat111 (g := (mkF m 177 #[.val (.ref a1), .val (.int (2 : Int32)), .val (.ref bv), .val (.int (2 : Int32)), .val (.ref bc), .val (.ref bu), .val (.int kk), .val (.int (0 : Int32)), .val (.int it109)] [(.int (0 : Int32)), (.ref bc), (.ref bu), (.int (c0 + (1 : Int32))), (.ref bu)])) rfl rfl (hb hby dc5_177) _ ?_
      refine XS.iloadN X105.here hx rfl (hb hby dc5_178) rfl ?_
      show Steps p.tables e below (T105.setTop (mkF m 179 #[.val (.ref a1), .val (.int (2 : Int32)), .val (.ref bv), .val (.int (2 : Int32)), .val (.ref bc), .val (.ref bu), .val (.int kk), .val (.int (0 : Int32)), .val (.int it109)] [(.int (2 : Int32)), (.int c0), (.ref bu), (.int (c0 + (1 : Int32))), (.ref bu)])) _
      refine XS.iconst X105.here hx rfl (hb hby dc5_179) ?_
      refine XS.isub X105.here hx rfl (hb hby dc5_180) rfl ?_
      refine XS.iload X105.here hx rfl (hb hby dc5_181) rfl ?_
      refine XS.isub X105.here hx rfl (hb hby dc5_183) rfl ?_
      refine XS.aload X105.here hx rfl (hb hby dc5_184) rfl rfl ?_
      refine XS.iload X105.here hx rfl (hb hby dc5_186) rfl ?_
      refine X105.iaload hx (j := (0 : Int32)) (v := (.int c0)) (by rw [e105]; exact Ar112.1) (State.isArrayOf_alike hZ.alike Ar112.2.1) Ar112.2.2 hin112 hat112 (g := (mkF m 188 #[.val (.ref a1), .val (.int (2 : Int32)), .val (.ref bv), .val (.int (2 : Int32)), .val (.ref bc), .val (.ref bu), .val (.int kk), .val (.int (0 : Int32)), .val (.int it109)] [(.int (0 : Int32)), (.ref bc), (.int (1 : Int32)), (.int c0), (.ref bu), (.int (c0 + (1 : Int32))), (.ref bu)])) rfl rfl (hb hby dc5_188) _ ?_
      refine XS.isub X105.here hx rfl (hb hby dc5_189) rfl ?_
      refine st113 _ ?_
      refine XS.aloadN X113.here hx rfl (hb hby dc5_193) rfl rfl ?_
      refine st116 _ ?_
      refine XS.iload X116.here hx rfl (hb hby dc5_197) rfl ?_
      refine XS.aloadN X116.here hx rfl (hb hby dc5_199) rfl rfl ?_
      refine st118 _ ?_
      refine XS.imul X118.here hx rfl (hb hby dc5_203) rfl ?_
      refine XS.iload X118.here hx rfl (hb hby dc5_204) rfl ?_
      refine XS.iadd X118.here hx rfl (hb hby dc5_206) rfl ?_
      refine XS.iload X118.here hx rfl (hb hby dc5_207) rfl ?_
      refine XS.i2b X118.here hx rfl (hb hby dc5_209) rfl ?_
      refine st121 _ ?_
      refine XS.iinc X121.here hx rfl (hb hby dc5_211) rfl (l' := #[.val (.ref a1), .val (.int (2 : Int32)), .val (.ref bv), .val (.int (2 : Int32)), .val (.ref bc), .val (.ref bu), .val (.int kk), .val (.int (1 : Int32)), .val (.int it109)]) rfl ?_
      refine XS.goto X121.here hx rfl (pc0 := 214) (pc' := 146) rfl (hb hby dc5_214) (by decide) (by decide) ?_
      refine XS.iload X121.here hx rfl (hb hby dc5_146) rfl ?_
      refine XS.iloadN X121.here hx rfl (hb hby dc5_148) rfl ?_
      show Steps p.tables e below (T121.setTop (mkF m 149 #[.val (.ref a1), .val (.int (2 : Int32)), .val (.ref bv), .val (.int (2 : Int32)), .val (.ref bc), .val (.ref bu), .val (.int kk), .val (.int (1 : Int32)), .val (.int it109)] [(.int (2 : Int32)), (.int (1 : Int32))])) _
      refine XS.icmpNo X121.here hx rfl (hb hby dc5_149) rfl (by decide) ?_
      show Steps p.tables e below (T121.setTop (mkF m 152 #[.val (.ref a1), .val (.int (2 : Int32)), .val (.ref bv), .val (.int (2 : Int32)), .val (.ref bc), .val (.ref bu), .val (.int kk), .val (.int (1 : Int32)), .val (.int it109)] [])) _
      refine XS.aload X121.here hx rfl (hb hby dc5_152) rfl rfl ?_
      refine XS.aload X121.here hx rfl (hb hby dc5_154) rfl rfl ?_
      refine XS.iload X121.here hx rfl (hb hby dc5_156) rfl ?_
      refine X121.iaload hx (j := (1 : Int32)) (v := (.int c1)) (by rw [e121]; exact Ar123.1) (State.isArrayOf_alike hZ.alike Ar123.2.1) Ar123.2.2 hin123 hat123 (g := (mkF m 158 #[.val (.ref a1), .val (.int (2 : Int32)), .val (.ref bv), .val (.int (2 : Int32)), .val (.ref bc), .val (.ref bu), .val (.int kk), .val (.int (1 : Int32)), .val (.int it109)] [(.int (1 : Int32)), (.ref bc), (.ref bu)])) rfl rfl (hb hby dc5_158) _ ?_
      refine X121.iaload hx (j := c1) (v := (.int it126)) (by rw [e121]; exact Ar125.1) (State.isArrayOf_alike hZ.alike Ar125.2.1) Ar125.2.2 hin125 hat125 (g := (mkF m 159 #[.val (.ref a1), .val (.int (2 : Int32)), .val (.ref bv), .val (.int (2 : Int32)), .val (.ref bc), .val (.ref bu), .val (.int kk), .val (.int (1 : Int32)), .val (.int it109)] [(.int c1), (.ref bu)])) rfl rfl (hb hby dc5_159) _ ?_
      refine XS.istore X121.here hx rfl (hb hby dc5_160) rfl (l' := #[.val (.ref a1), .val (.int (2 : Int32)), .val (.ref bv), .val (.int (2 : Int32)), .val (.ref bc), .val (.ref bu), .val (.int kk), .val (.int (1 : Int32)), .val (.int it126)]) rfl ?_
      refine XS.aload X121.here hx rfl (hb hby dc5_162) rfl rfl ?_
      refine XS.aload X121.here hx rfl (hb hby dc5_164) rfl rfl ?_
      refine XS.iload X121.here hx rfl (hb hby dc5_166) rfl ?_
      refine X121.iaload hx (j := (1 : Int32)) (v := (.int c1)) (by rw [e121]; exact Ar127.1) (State.isArrayOf_alike hZ.alike Ar127.2.1) Ar127.2.2 hin127 hat127 (g := (mkF m 168 #[.val (.ref a1), .val (.int (2 : Int32)), .val (.ref bv), .val (.int (2 : Int32)), .val (.ref bc), .val (.ref bu), .val (.int kk), .val (.int (1 : Int32)), .val (.int it126)] [(.int (1 : Int32)), (.ref bc), (.ref bu)])) rfl rfl (hb hby dc5_168) _ ?_
      refine XS.iconst X121.here hx rfl (hb hby dc5_169) ?_
      refine XS.iadd X121.here hx rfl (hb hby dc5_170) rfl ?_
      refine XS.aload X121.here hx rfl (hb hby dc5_171) rfl rfl ?_
      refine XS.aload X121.here hx rfl (hb hby dc5_173) rfl rfl ?_
      refine XS.iload X121.here hx rfl (hb hby dc5_175) rfl ?_
      refine X121.iaload hx (j := (1 : Int32)) (v := (.int c1)) (by rw [e121]; exact Ar128.1) (State.isArrayOf_alike hZ.alike Ar128.2.1) Ar128.2.2 hin128 hat128 (g := (mkF m 177 #[.val (.ref a1), .val (.int (2 : Int32)), .val (.ref bv), .val (.int (2 : Int32)), .val (.ref bc), .val (.ref bu), .val (.int kk), .val (.int (1 : Int32)), .val (.int it126)] [(.int (1 : Int32)), (.ref bc), (.ref bu), (.int (c1 + (1 : Int32))), (.ref bu)])) rfl rfl (hb hby dc5_177) _ ?_
      refine XS.iloadN X121.here hx rfl (hb hby dc5_178) rfl ?_
      refine XS.iconst X121.here hx rfl (hb hby dc5_179) ?_
      refine XS.isub X121.here hx rfl (hb hby dc5_180) rfl ?_
      refine XS.iload X121.here hx rfl (hb hby dc5_181) rfl ?_
      refine XS.isub X121.here hx rfl (hb hby dc5_183) rfl ?_
      refine XS.aload X121.here hx rfl (hb hby dc5_184) rfl rfl ?_
      refine XS.iload X121.here hx rfl (hb hby dc5_186) rfl ?_
      refine X121.iaload hx (j := (1 : Int32)) (v := (.int c1)) (by rw [e121]; exact Ar129.1) (State.isArrayOf_alike hZ.alike Ar129.2.1) Ar129.2.2 hin129 hat129 (g := (mkF m 188 #[.val (.ref a1), .val (.int (2 : Int32)), .val (.ref bv), .val (.int (2 : Int32)), .val (.ref bc), .val (.ref bu), .val (.int kk), .val (.int (1 : Int32)), .val (.int it126)] [(.int (1 : Int32)), (.ref bc), (.int (0 : Int32)), (.int c1), (.ref bu), (.int (c1 + (1 : Int32))), (.ref bu)])) rfl rfl (hb hby dc5_188) _ ?_
      refine XS.isub X121.here hx rfl (hb hby dc5_189) rfl ?_
      show Steps p.tables e below (T121.setTop (mkF m 190 #[.val (.ref a1), .val (.int (2 : Int32)), .val (.ref bv), .val (.int (2 : Int32)), .val (.ref bc), .val (.ref bu), .val (.int kk), .val (.int (1 : Int32)), .val (.int it126)] [(.int ((0 : Int32) - c1)), (.int c1), (.ref bu), (.int (c1 + (1 : Int32))), (.ref bu)])) _
      refine st130 _ ?_
      refine XS.aloadN X130.here hx rfl (hb hby dc5_193) rfl rfl ?_
      refine st132 _ ?_
      refine XS.iload X132.here hx rfl (hb hby dc5_197) rfl ?_
      refine XS.aloadN X132.here hx rfl (hb hby dc5_199) rfl rfl ?_
      refine st134 _ ?_
      refine XS.imul X134.here hx rfl (hb hby dc5_203) rfl ?_
      refine XS.iload X134.here hx rfl (hb hby dc5_204) rfl ?_
      refine XS.iadd X134.here hx rfl (hb hby dc5_206) rfl ?_
      refine XS.iload X134.here hx rfl (hb hby dc5_207) rfl ?_
      refine XS.i2b X134.here hx rfl (hb hby dc5_209) rfl ?_
      refine st137 _ ?_
      refine XS.iinc X137.here hx rfl (hb hby dc5_211) rfl (l' := #[.val (.ref a1), .val (.int (2 : Int32)), .val (.ref bv), .val (.int (2 : Int32)), .val (.ref bc), .val (.ref bu), .val (.int kk), .val (.int (2 : Int32)), .val (.int it126)]) rfl ?_
      refine XS.goto X137.here hx rfl (pc0 := 214) (pc' := 146) rfl (hb hby dc5_214) (by decide) (by decide) ?_
      refine XS.iload X137.here hx rfl (hb hby dc5_146) rfl ?_
      refine XS.iloadN X137.here hx rfl (hb hby dc5_148) rfl ?_
      show Steps p.tables e below (T137.setTop (mkF m 149 #[.val (.ref a1), .val (.int (2 : Int32)), .val (.ref bv), .val (.int (2 : Int32)), .val (.ref bc), .val (.ref bu), .val (.int kk), .val (.int (2 : Int32)), .val (.int it126)] [(.int (2 : Int32)), (.int (2 : Int32))])) _
      refine XS.icmpYes X137.here hx rfl (pc0 := 149) (pc' := 217) rfl (hb hby dc5_149) rfl (by decide) (by decide) (by decide) ?_
      refine XS.iconst X137.here hx rfl (hb hby dc5_217) ?_
      refine XS.istore X137.here hx rfl (hb hby dc5_218) rfl (l' := #[.val (.ref a1), .val (.int (2 : Int32)), .val (.ref bv), .val (.int (2 : Int32)), .val (.ref bc), .val (.ref bu), .val (.int kk), .val (.int (0 : Int32)), .val (.int it126)]) rfl ?_
      refine XS.iload X137.here hx rfl (hb hby dc5_220) rfl ?_
      refine XS.iloadN X137.here hx rfl (hb hby dc5_222) rfl ?_
      refine XS.iconst X137.here hx rfl (hb hby dc5_223) ?_
      refine XS.isub X137.here hx rfl (hb hby dc5_224) rfl ?_
      show Steps p.tables e below (T137.setTop (mkF m 225 #[.val (.ref a1), .val (.int (2 : Int32)), .val (.ref bv), .val (.int (2 : Int32)), .val (.ref bc), .val (.ref bu), .val (.int kk), .val (.int (0 : Int32)), .val (.int it126)] [(.int (1 : Int32)), (.int (0 : Int32))])) _
      refine XS.icmpNo X137.here hx rfl (hb hby dc5_225) rfl (by decide) ?_
      refine XS.aloadN X137.here hx rfl (hb hby dc5_228) rfl rfl ?_
      show Steps p.tables e below (T137.setTop (mkF m 229 #[.val (.ref a1), .val (.int (2 : Int32)), .val (.ref bv), .val (.int (2 : Int32)), .val (.ref bc), .val (.ref bu), .val (.int kk), .val (.int (0 : Int32)), .val (.int it126)] [(.ref a1)])) _
      refine st139 _ ?_
      refine XS.iload X139.here hx rfl (hb hby dc5_232) rfl ?_
      refine XS.iloadN X139.here hx rfl (hb hby dc5_234) rfl ?_
      refine XS.iconst X139.here hx rfl (hb hby dc5_235) ?_
      refine XS.isub X139.here hx rfl (hb hby dc5_236) rfl ?_
      refine XS.imul X139.here hx rfl (hb hby dc5_237) rfl ?_
      refine XS.iload X139.here hx rfl (hb hby dc5_238) rfl ?_
      refine XS.iadd X139.here hx rfl (hb hby dc5_240) rfl ?_
      refine XS.iload X139.here hx rfl (hb hby dc5_241) rfl ?_
      refine XS.aload X139.here hx rfl (hb hby dc5_243) rfl rfl ?_
      refine XS.aloadN X139.here hx rfl (hb hby dc5_245) rfl rfl ?_
      refine XS.iload X139.here hx rfl (hb hby dc5_246) rfl ?_
      refine st143 _ ?_
      refine st146 _ ?_
      refine XS.iinc X146.here hx rfl (hb hby dc5_252) rfl (l' := #[.val (.ref a1), .val (.int (2 : Int32)), .val (.ref bv), .val (.int (2 : Int32)), .val (.ref bc), .val (.ref bu), .val (.int kk), .val (.int (1 : Int32)), .val (.int it126)]) rfl ?_
      refine XS.goto X146.here hx rfl (pc0 := 255) (pc' := 220) rfl (hb hby dc5_255) (by decide) (by decide) ?_
      refine XS.iload X146.here hx rfl (hb hby dc5_220) rfl ?_
      refine XS.iloadN X146.here hx rfl (hb hby dc5_222) rfl ?_
      refine XS.iconst X146.here hx rfl (hb hby dc5_223) ?_
      refine XS.isub X146.here hx rfl (hb hby dc5_224) rfl ?_
      show Steps p.tables e below (T146.setTop (mkF m 225 #[.val (.ref a1), .val (.int (2 : Int32)), .val (.ref bv), .val (.int (2 : Int32)), .val (.ref bc), .val (.ref bu), .val (.int kk), .val (.int (1 : Int32)), .val (.int it126)] [(.int (1 : Int32)), (.int (1 : Int32))])) _
      refine XS.icmpYes X146.here hx rfl (pc0 := 225) (pc' := 258) rfl (hb hby dc5_225) rfl (by decide) (by decide) (by decide) ?_
      refine XS.iloadN X146.here hx rfl (hb hby dc5_258) rfl ?_
      refine XS.iconst X146.here hx rfl (hb hby dc5_259) ?_
      refine XS.isub X146.here hx rfl (hb hby dc5_260) rfl ?_
      refine XS.istore X146.here hx rfl (hb hby dc5_261) rfl (l' := #[.val (.ref a1), .val (.int (2 : Int32)), .val (.ref bv), .val (.int (2 : Int32)), .val (.ref bc), .val (.ref bu), .val (.int kk), .val (.int (0 : Int32)), .val (.int it126)]) rfl ?_
      show Steps p.tables e below (T146.setTop (mkF m 263 #[.val (.ref a1), .val (.int (2 : Int32)), .val (.ref bv), .val (.int (2 : Int32)), .val (.ref bc), .val (.ref bu), .val (.int kk), .val (.int (0 : Int32)), .val (.int it126)] [])) _
      refine XS.iload X146.here hx rfl (hb hby dc5_263) rfl ?_
      show Steps p.tables e below (T146.setTop (mkF m 265 #[.val (.ref a1), .val (.int (2 : Int32)), .val (.ref bv), .val (.int (2 : Int32)), .val (.ref bc), .val (.ref bu), .val (.int kk), .val (.int (0 : Int32)), .val (.int it126)] [(.int (0 : Int32))])) _
      refine XS.ifNo X146.here hx rfl (hb hby dc5_265) rfl (by decide) ?_
      refine XS.aload X146.here hx rfl (hb hby dc5_268) rfl rfl ?_
      refine XS.iload X146.here hx rfl (hb hby dc5_270) rfl ?_
      refine X146.iaload hx (j := (0 : Int32)) (v := (.int c0)) (by rw [e146]; exact Ar148.1) (State.isArrayOf_alike hZ.alike Ar148.2.1) Ar148.2.2 hin148 hat148 (g := (mkF m 272 #[.val (.ref a1), .val (.int (2 : Int32)), .val (.ref bv), .val (.int (2 : Int32)), .val (.ref bc), .val (.ref bu), .val (.int kk), .val (.int (0 : Int32)), .val (.int it126)] [(.int (0 : Int32)), (.ref bc)])) rfl rfl (hb hby dc5_272) _ ?_
      refine XS.iloadN X146.here hx rfl (hb hby dc5_273) rfl ?_
      refine XS.iconst X146.here hx rfl (hb hby dc5_274) ?_
      refine XS.isub X146.here hx rfl (hb hby dc5_275) rfl ?_
      refine XS.iload X146.here hx rfl (hb hby dc5_276) rfl ?_
      refine XS.isub X146.here hx rfl (hb hby dc5_278) rfl ?_
      exact kt)
  by_cases hc150 : c0 < (1 : Int32)
  · skip
    obtain ⟨cl151, Ar151, q151, S151, N151_, H151, G151⟩ := id f147
    have hin151 : ¬ ((0 : Int32) < 0 ∨ cl151.slots.size ≤ ((0 : Int32)).toNatClampNeg) := inb_of S151 ⟨by decide, by decide⟩
    have hat151 : cl151.slots[((0 : Int32)).toNatClampNeg]? = some (.int c0) := H151.at hin151 rfl
    obtain ⟨cl152, Ar152, q152, S152, N152_, H152, G152⟩ := id f147
    have hin152 : ¬ ((0 : Int32) < 0 ∨ cl152.slots.size ≤ ((0 : Int32)).toNatClampNeg) := inb_of S152 ⟨by decide, by decide⟩
    obtain ⟨T153, h153, X153, e153, W153, st153⟩ := stI X146 hx hZ e146 Ar152 (j := (0 : Int32)) hin152 (g := (mkF m 290 #[.val (.ref a1), .val (.int (2 : Int32)), .val (.ref bv), .val (.int (2 : Int32)), .val (.ref bc), .val (.ref bu), .val (.int kk), .val (.int (0 : Int32)), .val (.int it126)] [(.int (c0 + (1 : Int32))), (.int (0 : Int32)), (.ref bc)])) rfl rfl (hb hby dc5_290)
    have V153 : Arv Z h153 bc kc .int (2 : Int32) [(.int (c0 + (1 : Int32))), (.int c1)] (.int (0 : Int32)) := Arv.set Ar152 q152 S152 N152_ H152 G152 rfl W153 0 rfl (Nat.le_of_ble_eq_true rfl)
    have N153 := Fr.snoc X153 N146 g_bc
    have pre154 : ∀ t, Steps p.tables e below (T153.setTop (mkF m 112 #[.val (.ref a1), .val (.int (2 : Int32)), .val (.ref bv), .val (.int (2 : Int32)), .val (.ref bc), .val (.ref bu), .val (.int (kk + (1 : Int32))), .val (.int (0 : Int32)), .val (.int it126)] [])) t → Steps p.tables e below (T0.setTop (mkF m 112 #[.val (.ref a1), .val (.int (2 : Int32)), .val (.ref bv), .val (.int (2 : Int32)), .val (.ref bc), .val (.ref bu), .val (.int kk), w7, w8] [])) t := fun t kt => pre149 t (by
        show Steps p.tables e below (T146.setTop (mkF m 279 #[.val (.ref a1), .val (.int (2 : Int32)), .val (.ref bv), .val (.int (2 : Int32)), .val (.ref bc), .val (.ref bu), .val (.int kk), .val (.int (0 : Int32)), .val (.int it126)] [(.int (1 : Int32)), (.int c0)])) _
        refine XS.icmpNo X146.here hx rfl (hb hby dc5_279) rfl (tlt hc150).2.1 ?_
        refine XS.aload X146.here hx rfl (hb hby dc5_282) rfl rfl ?_
        refine XS.iload X146.here hx rfl (hb hby dc5_284) rfl ?_
        jvm_step X146.here [X146.here.top, hx, (hb hby dc5_286), Value.category]
        refine X146.iaload hx (j := (0 : Int32)) (v := (.int c0)) (by rw [e146]; exact Ar151.1) (State.isArrayOf_alike hZ.alike Ar151.2.1) Ar151.2.2 hin151 hat151 (g := (mkF m 287 #[.val (.ref a1), .val (.int (2 : Int32)), .val (.ref bv), .val (.int (2 : Int32)), .val (.ref bc), .val (.ref bu), .val (.int kk), .val (.int (0 : Int32)), .val (.int it126)] [(.int (0 : Int32)), (.ref bc), (.int (0 : Int32)), (.ref bc)])) rfl rfl (hb hby dc5_287) _ ?_
        refine XS.iconst X146.here hx rfl (hb hby dc5_288) ?_
        refine XS.iadd X146.here hx rfl (hb hby dc5_289) rfl ?_
        refine st153 _ ?_
        refine XS.goto X153.here hx rfl (pc0 := 291) (pc' := 306) rfl (hb hby dc5_291) (by decide) (by decide) ?_
        refine XS.iinc X153.here hx rfl (hb hby dc5_306) rfl (l' := #[.val (.ref a1), .val (.int (2 : Int32)), .val (.ref bv), .val (.int (2 : Int32)), .val (.ref bc), .val (.ref bu), .val (.int (kk + (1 : Int32))), .val (.int (0 : Int32)), .val (.int it126)]) rfl ?_
        refine XS.goto X153.here hx rfl (pc0 := 309) (pc' := 112) rfl (hb hby dc5_309) (by decide) (by decide) ?_
        exact kt)
    have K155 : Keep h0 h153 [bp, bs, bc, bu] := (Keep.wr (Keep.wr (Keep.wr (Keep.trans (Keep.wr (Keep.trans (Keep.wr (Keep.wr (Keep.refl h0 [bp, bs, bc, bu]) W103 (Or.inl (List.mem_of_getElem? (i := 3) rfl))) W105 (Or.inl (List.mem_of_getElem? (i := 3) rfl))) K113 (allS (P := fun x => x ∈ [bp, bs, bc, bu] ∨ h0.size ≤ x) (Or.inl (List.mem_of_getElem? (i := 3) rfl)) all0)) W121 (Or.inl (List.mem_of_getElem? (i := 0) rfl))) K130 (allS (P := fun x => x ∈ [bp, bs, bc, bu] ∨ h0.size ≤ x) (Or.inl (List.mem_of_getElem? (i := 3) rfl)) all0)) W137 (Or.inl (List.mem_of_getElem? (i := 0) rfl))) W146 (Or.inl (List.mem_of_getElem? (i := 1) rfl))) W153 (Or.inl (List.mem_of_getElem? (i := 2) rfl)))
    have O156 : Old Z n0 h153 := ((O140.wr W146 g_bs).wr W153 g_bc)
    have f157 := (((V130.other W137 (Ne.symm ne_bp_bu)).other W146 (Ne.symm ne_bs_bu)).other W153 (Ne.symm ne_bc_bu))
    have f158 := ((A137.other W146 ne_bp_bs).other W153 ne_bp_bc)
    have f159 := (A146.other W153 ne_bs_bc)
    have f160 := ((f142.other W146 ne_bv_bs).other W153 ne_bv_bc)
    have f161 := ((((((((Eo.wr W103).wr W105).keep K113).wr W121).keep K130).wr W137).wr W146).wr W153)
    have f162 := ((((((((Fi.other W103 (Or.inl ne_a1_bu)).other W105 (Or.inl ne_a1_bu)).keep K113 (ninS ne_a1_bu nin0)).other W121 (Or.inl ne_a1_bp)).keep K130 (ninS ne_a1_bu nin0)).other W137 (Or.inl ne_a1_bp)).other W146 (Or.inl ne_a1_bs)).other W153 (Or.inl ne_a1_bc))
    have f163 := (((f133.other W137 (Or.inl ne_a1_bp)).other W146 (Or.inl ne_a1_bs)).other W153 (Or.inl ne_a1_bc))
    have f164 := (((f131.other W137 (Or.inl ne_a1_bp)).other W146 (Or.inl ne_a1_bs)).other W153 (Or.inl ne_a1_bc))
    have f165 := ((f138.other W146 (Or.inl ne_a1_bs)).other W153 (Or.inl ne_a1_bc))
    subst hkk
    subst hc0 hc1
    obtain ⟨r0, r1⟩ := own_in2_0 k hc150
    have Vz : Arv Z h153 bc kc .int (2 : Int32) [(.int (own_d2_0 (k.val + 1))), (.int (own_d2_1 (k.val + 1)))] (.int (0 : Int32)) := by
      rw [← r0, ← r1]; exact V153
    refine ⟨_, _, _, .val (.int (0 : Int32)), .val (.int it126), X153, e153, N153, O156, K155, f161, f162, f163, f164, f165, f160, Vz, ⟨_, _, f157⟩, ?_, ?_, One.val rfl, One.val rfl, ?_⟩
    · subst hit109 hu114 hit126; exact f158
    · subst hit109 hu114 hit126; exact f159
    · intro t kt; refine pre154 t ?_; rw [own_next]; exact kt
  · skip
    obtain ⟨cl166, Ar166, q166, S166, N166_, H166, G166⟩ := id f147
    have hin166 : ¬ ((0 : Int32) < 0 ∨ cl166.slots.size ≤ ((0 : Int32)).toNatClampNeg) := inb_of S166 ⟨by decide, by decide⟩
    obtain ⟨T167, h167, X167, e167, W167, st167⟩ := stI X146 hx hZ e146 Ar166 (j := (0 : Int32)) hin166 (g := (mkF m 299 #[.val (.ref a1), .val (.int (2 : Int32)), .val (.ref bv), .val (.int (2 : Int32)), .val (.ref bc), .val (.ref bu), .val (.int kk), .val (.int (0 : Int32)), .val (.int it126)] [(.int (0 : Int32)), (.int (0 : Int32)), (.ref bc)])) rfl rfl (hb hby dc5_299)
    have V167 : Arv Z h167 bc kc .int (2 : Int32) [(.int (0 : Int32)), (.int c1)] (.int (0 : Int32)) := Arv.set Ar166 q166 S166 N166_ H166 G166 rfl W167 0 rfl (Nat.le_of_ble_eq_true rfl)
    have N167 := Fr.snoc X167 N146 g_bc
    have pre168 : ∀ t, Steps p.tables e below (T167.setTop (mkF m 112 #[.val (.ref a1), .val (.int (2 : Int32)), .val (.ref bv), .val (.int (2 : Int32)), .val (.ref bc), .val (.ref bu), .val (.int (kk + (1 : Int32))), .val (.int (-1 : Int32)), .val (.int it126)] [])) t → Steps p.tables e below (T0.setTop (mkF m 112 #[.val (.ref a1), .val (.int (2 : Int32)), .val (.ref bv), .val (.int (2 : Int32)), .val (.ref bc), .val (.ref bu), .val (.int kk), w7, w8] [])) t := fun t kt => pre149 t (by
        show Steps p.tables e below (T146.setTop (mkF m 279 #[.val (.ref a1), .val (.int (2 : Int32)), .val (.ref bv), .val (.int (2 : Int32)), .val (.ref bc), .val (.ref bu), .val (.int kk), .val (.int (0 : Int32)), .val (.int it126)] [(.int (1 : Int32)), (.int c0)])) _
        refine XS.icmpYes X146.here hx rfl (pc0 := 279) (pc' := 294) rfl (hb hby dc5_279) rfl (flt hc150).2.1 (by decide) (by decide) ?_
        refine XS.aload X146.here hx rfl (hb hby dc5_294) rfl rfl ?_
        refine XS.iload X146.here hx rfl (hb hby dc5_296) rfl ?_
        show Steps p.tables e below (T146.setTop (mkF m 298 #[.val (.ref a1), .val (.int (2 : Int32)), .val (.ref bv), .val (.int (2 : Int32)), .val (.ref bc), .val (.ref bu), .val (.int kk), .val (.int (0 : Int32)), .val (.int it126)] [(.int (0 : Int32)), (.ref bc)])) _
        refine XS.iconst X146.here hx rfl (hb hby dc5_298) ?_
        refine st167 _ ?_
        refine XS.iinc X167.here hx rfl (hb hby dc5_300) rfl (l' := #[.val (.ref a1), .val (.int (2 : Int32)), .val (.ref bv), .val (.int (2 : Int32)), .val (.ref bc), .val (.ref bu), .val (.int kk), .val (.int (-1 : Int32)), .val (.int it126)]) rfl ?_
        refine XS.goto X167.here hx rfl (pc0 := 303) (pc' := 263) rfl (hb hby dc5_303) (by decide) (by decide) ?_
        refine XS.iload X167.here hx rfl (hb hby dc5_263) rfl ?_
        show Steps p.tables e below (T167.setTop (mkF m 265 #[.val (.ref a1), .val (.int (2 : Int32)), .val (.ref bv), .val (.int (2 : Int32)), .val (.ref bc), .val (.ref bu), .val (.int kk), .val (.int (-1 : Int32)), .val (.int it126)] [(.int (-1 : Int32))])) _
        refine XS.ifYes X167.here hx rfl (pc0 := 265) (pc' := 306) rfl (hb hby dc5_265) rfl (by decide) (by decide) (by decide) ?_
        refine XS.iinc X167.here hx rfl (hb hby dc5_306) rfl (l' := #[.val (.ref a1), .val (.int (2 : Int32)), .val (.ref bv), .val (.int (2 : Int32)), .val (.ref bc), .val (.ref bu), .val (.int (kk + (1 : Int32))), .val (.int (-1 : Int32)), .val (.int it126)]) rfl ?_
        refine XS.goto X167.here hx rfl (pc0 := 309) (pc' := 112) rfl (hb hby dc5_309) (by decide) (by decide) ?_
        exact kt)
    have K169 : Keep h0 h167 [bp, bs, bc, bu] := (Keep.wr (Keep.wr (Keep.wr (Keep.trans (Keep.wr (Keep.trans (Keep.wr (Keep.wr (Keep.refl h0 [bp, bs, bc, bu]) W103 (Or.inl (List.mem_of_getElem? (i := 3) rfl))) W105 (Or.inl (List.mem_of_getElem? (i := 3) rfl))) K113 (allS (P := fun x => x ∈ [bp, bs, bc, bu] ∨ h0.size ≤ x) (Or.inl (List.mem_of_getElem? (i := 3) rfl)) all0)) W121 (Or.inl (List.mem_of_getElem? (i := 0) rfl))) K130 (allS (P := fun x => x ∈ [bp, bs, bc, bu] ∨ h0.size ≤ x) (Or.inl (List.mem_of_getElem? (i := 3) rfl)) all0)) W137 (Or.inl (List.mem_of_getElem? (i := 0) rfl))) W146 (Or.inl (List.mem_of_getElem? (i := 1) rfl))) W167 (Or.inl (List.mem_of_getElem? (i := 2) rfl)))
    have O170 : Old Z n0 h167 := ((O140.wr W146 g_bs).wr W167 g_bc)
    have f171 := (((V130.other W137 (Ne.symm ne_bp_bu)).other W146 (Ne.symm ne_bs_bu)).other W167 (Ne.symm ne_bc_bu))
    have f172 := ((A137.other W146 ne_bp_bs).other W167 ne_bp_bc)
    have f173 := (A146.other W167 ne_bs_bc)
    have f174 := ((f142.other W146 ne_bv_bs).other W167 ne_bv_bc)
    have f175 := ((((((((Eo.wr W103).wr W105).keep K113).wr W121).keep K130).wr W137).wr W146).wr W167)
    have f176 := ((((((((Fi.other W103 (Or.inl ne_a1_bu)).other W105 (Or.inl ne_a1_bu)).keep K113 (ninS ne_a1_bu nin0)).other W121 (Or.inl ne_a1_bp)).keep K130 (ninS ne_a1_bu nin0)).other W137 (Or.inl ne_a1_bp)).other W146 (Or.inl ne_a1_bs)).other W167 (Or.inl ne_a1_bc))
    have f177 := (((f133.other W137 (Or.inl ne_a1_bp)).other W146 (Or.inl ne_a1_bs)).other W167 (Or.inl ne_a1_bc))
    have f178 := (((f131.other W137 (Or.inl ne_a1_bp)).other W146 (Or.inl ne_a1_bs)).other W167 (Or.inl ne_a1_bc))
    have f179 := ((f138.other W146 (Or.inl ne_a1_bs)).other W167 (Or.inl ne_a1_bc))
    subst hkk
    subst hc0 hc1
    obtain ⟨r0, r1⟩ := own_in2_1 k hc150
    have Vz : Arv Z h167 bc kc .int (2 : Int32) [(.int (own_d2_0 (k.val + 1))), (.int (own_d2_1 (k.val + 1)))] (.int (0 : Int32)) := by
      rw [← r0, ← r1]; exact V167
    refine ⟨_, _, _, .val (.int (-1 : Int32)), .val (.int it126), X167, e167, N167, O170, K169, f175, f176, f177, f178, f179, f174, Vz, ⟨_, _, f171⟩, ?_, ?_, One.val rfl, One.val rfl, ?_⟩
    · subst hit109 hu114 hit126; exact f172
    · subst hit109 hu114 hit126; exact f173
    · intro t kt; refine pre168 t ?_; rw [own_next]; exact kt
set_option maxRecDepth 65536 in
set_option maxHeartbeats 40000000 in
theorem lv2 {p : Program} {l : Launch} {e : Env} {s : State} {m : MethodId} {args : Array Value} {below : List Frame} {meth : Method} {c : Code} {T0 : State} {locs : List Loc} {Z : State} {a0 : Array Value} {h0 : Heap} {n0 : Nat} (a1 bv bp bs bc bu : Addr) (w7 w8 : Slot)
    (X0 : Stand p l e ({ frames := 2, cells := 5, slots := 12, locals := 60 } : Room) s m args below meth c T0 locs 5 12) (hx : p.tables.exec = Jvm.exec) (hZ : Z.Warmed39 s.vm) (hw : ∀ d ∈ tables_1, d.before a0 Z = true) (hby : c.code = prog_26_method_1_code) (hml : c.maxLocals = 9) (hown : s.vm.findClass "com/example/frontward/frontward/offline/Orderings" = some m.cls) (e0 : T0.heap = h0) (N0 : Fr n0 locs) (O0 : Old Z n0 h0) (Fc : Fld Z h0 a1 "com/example/frontward/frontward/offline/Orderings" "count" "I" (.int (2 : Int32))) :
    ∃ (T' : State), Stand p l e ({ frames := 2, cells := 5, slots := 12, locals := 60 } : Room) s m args below meth c T' locs 5 12 ∧ T'.heap = h0 ∧ ∀ t, Steps p.tables e below (T'.setTop (mkF m 312 #[.val (.ref a1), .val (.int (2 : Int32)), .val (.ref bv), .val (.int (2 : Int32)), .val (.ref bc), .val (.ref bu), .val (.int (2 : Int32)), w7, w8] [])) t → Steps p.tables e below (T0.setTop (mkF m 112 #[.val (.ref a1), .val (.int (2 : Int32)), .val (.ref bv), .val (.int (2 : Int32)), .val (.ref bc), .val (.ref bu), .val (.int (2 : Int32)), w7, w8] [])) t := by
  have pre0 : ∀ t, Steps p.tables e below (T0.setTop (mkF m 112 #[.val (.ref a1), .val (.int (2 : Int32)), .val (.ref bv), .val (.int (2 : Int32)), .val (.ref bc), .val (.ref bu), .val (.int (2 : Int32)), w7, w8] [])) t → Steps p.tables e below (T0.setTop (mkF m 112 #[.val (.ref a1), .val (.int (2 : Int32)), .val (.ref bv), .val (.int (2 : Int32)), .val (.ref bc), .val (.ref bu), .val (.int (2 : Int32)), w7, w8] [])) t := fun _ k => k
  obtain ⟨T101, X101, e101, st101⟩ := getF X0 hx hZ hown (host := "") (Or.inl (hw _ (List.mem_of_getElem? (i := 12) rfl))) Via.refl e0 Fc (g := (mkF m 115 #[.val (.ref a1), .val (.int (2 : Int32)), .val (.ref bv), .val (.int (2 : Int32)), .val (.ref bc), .val (.ref bu), .val (.int (2 : Int32)), w7, w8] [(.ref a1), (.int (2 : Int32))])) rfl rfl (hb hby dc5_115)
  have pre102 : ∀ t, Steps p.tables e below (T101.setTop (mkF m 312 #[.val (.ref a1), .val (.int (2 : Int32)), .val (.ref bv), .val (.int (2 : Int32)), .val (.ref bc), .val (.ref bu), .val (.int (2 : Int32)), w7, w8] [])) t → Steps p.tables e below (T0.setTop (mkF m 112 #[.val (.ref a1), .val (.int (2 : Int32)), .val (.ref bv), .val (.int (2 : Int32)), .val (.ref bc), .val (.ref bu), .val (.int (2 : Int32)), w7, w8] [])) t := fun t kt => pre0 t (by
      show Steps p.tables e below (T0.setTop (mkF m 112 #[.val (.ref a1), .val (.int (2 : Int32)), .val (.ref bv), .val (.int (2 : Int32)), .val (.ref bc), .val (.ref bu), .val (.int (2 : Int32)), w7, w8] [])) _
      refine XS.iload X0.here hx rfl (hb hby dc5_112) rfl ?_
      refine XS.aloadN X0.here hx rfl (hb hby dc5_114) rfl rfl ?_
      refine st101 _ ?_
      show Steps p.tables e below (T101.setTop (mkF m 118 #[.val (.ref a1), .val (.int (2 : Int32)), .val (.ref bv), .val (.int (2 : Int32)), .val (.ref bc), .val (.ref bu), .val (.int (2 : Int32)), w7, w8] [(.int (2 : Int32)), (.int (2 : Int32))])) _
      refine XS.icmpYes X101.here hx rfl (pc0 := 118) (pc' := 312) rfl (hb hby dc5_118) rfl (by decide) (by decide) (by decide) ?_
      exact kt)
  exact ⟨_, X101, e101, pre102⟩
theorem lp2 {p : Program} {l : Launch} {e : Env} {s : State} {m : MethodId} {args : Array Value} {below : List Frame} {meth : Method} {c : Code} {Z : State} {a0 : Array Value} {n0 : Nat} (a1 bv bp bs bc bu : Addr) (kv kc ku : ClassId) (hx : p.tables.exec = Jvm.exec) (hZ : Z.Warmed39 s.vm) (hw : ∀ d ∈ tables_1, d.before a0 Z = true) (hby : c.code = prog_26_method_1_code) (hml : c.maxLocals = 9) (hown : s.vm.findClass "com/example/frontward/frontward/offline/Orderings" = some m.cls) (ne_a1_bv : a1 ≠ bv) (ne_a1_bp : a1 ≠ bp) (ne_a1_bs : a1 ≠ bs) (ne_a1_bc : a1 ≠ bc) (ne_a1_bu : a1 ≠ bu) (ne_bv_bp : bv ≠ bp) (ne_bv_bs : bv ≠ bs) (ne_bv_bc : bv ≠ bc) (ne_bv_bu : bv ≠ bu) (ne_bp_bs : bp ≠ bs) (ne_bp_bc : bp ≠ bc) (ne_bp_bu : bp ≠ bu) (ne_bs_bc : bs ≠ bc) (ne_bs_bu : bs ≠ bu) (ne_bc_bu : bc ≠ bu) (g_bp : n0 ≤ bp) (g_bs : n0 ≤ bs) (g_bc : n0 ≤ bc) (g_bu : n0 ≤ bu) :
    ∀ (j k : Nat) (T0 : State) (h0 : Heap) (locs : List Loc) (w7 w8 : Slot), k + j = 2 → Stand p l e ({ frames := 2, cells := 5, slots := 12, locals := 60 } : Room) s m args below meth c T0 locs 5 12 → T0.heap = h0 → Fr n0 locs → Old Z n0 h0 → (One w7) → (One w8) → (Exa Z h0 a1 "com/example/frontward/frontward/offline/Orderings") → (Fld Z h0 a1 "com/example/frontward/frontward/offline/Orderings" "items" "I" (.int (2 : Int32))) → (Fld Z h0 a1 "com/example/frontward/frontward/offline/Orderings" "count" "I" (.int (2 : Int32))) → (Fld Z h0 a1 "com/example/frontward/frontward/offline/Orderings" "positions" "[B" (.ref bp)) → (Fld Z h0 a1 "com/example/frontward/frontward/offline/Orderings" "swaps" "[I" (.ref bs)) → (Arv Z h0 bv kv .int (2 : Int32) [(.int (1 : Int32)), (.int (1 : Int32))] (.int (0 : Int32))) → (Arv Z h0 bc kc .int (2 : Int32) [(.int (own_d2_0 k)), (.int (own_d2_1 k))] (.int (0 : Int32))) → (∃ q0 q1 : Int32, Arv Z h0 bu ku .int (2 : Int32) [(.int q0), (.int q1)] (.int (0 : Int32))) → (La Z h0 bp .byte (4 : Int32) (own_P2 k)) → (La Z h0 bs .int (2 : Int32) (own_S2 k)) →
    ∃ (T' : State) (h' : Heap) (L' : List Loc) (w7' w8' : Slot), Stand p l e ({ frames := 2, cells := 5, slots := 12, locals := 60 } : Room) s m args below meth c T' L' 5 12 ∧ T'.heap = h' ∧ Fr n0 L' ∧ Old Z n0 h' ∧ Keep h0 h' [bp, bs, bc, bu] ∧ Exa Z h' a1 "com/example/frontward/frontward/offline/Orderings" ∧ Fld Z h' a1 "com/example/frontward/frontward/offline/Orderings" "items" "I" (.int (2 : Int32)) ∧ Fld Z h' a1 "com/example/frontward/frontward/offline/Orderings" "count" "I" (.int (2 : Int32)) ∧ Fld Z h' a1 "com/example/frontward/frontward/offline/Orderings" "positions" "[B" (.ref bp) ∧ Fld Z h' a1 "com/example/frontward/frontward/offline/Orderings" "swaps" "[I" (.ref bs) ∧ La Z h' bp .byte (4 : Int32) (own_P2 2) ∧ La Z h' bs .int (2 : Int32) (own_S2 2) ∧ ∀ t, Steps p.tables e below (T'.setTop (mkF m 312 #[.val (.ref a1), .val (.int (2 : Int32)), .val (.ref bv), .val (.int (2 : Int32)), .val (.ref bc), .val (.ref bu), .val (.int (2 : Int32)), w7', w8'] [])) t → Steps p.tables e below (T0.setTop (mkF m 112 #[.val (.ref a1), .val (.int (2 : Int32)), .val (.ref bv), .val (.int (2 : Int32)), .val (.ref bc), .val (.ref bu), .val (.int (Int32.ofNat k)), w7, w8] [])) t := by
  intro j
  induction j with
  | zero =>
    intro k T0 h0 locs w7 w8 hk X0 e0 N0 O0 hw7 hw8 Eo Fi Fc Fp Fs Vv Vc Vu Lp Ls
    have hk' : k = 2 := by omega
    subst hk'
    obtain ⟨T', X', e', st⟩ := lv2 a1 bv bp bs bc bu w7 w8 X0 hx hZ hw hby hml hown e0 N0 O0 Fc
    exact ⟨T', h0, locs, w7, w8, X', e', N0, O0, Keep.refl _ _, Eo, Fi, Fc, Fp, Fs, Lp, Ls, st⟩
  | succ j ih =>
    intro k T0 h0 locs w7 w8 hk X0 e0 N0 O0 hw7 hw8 Eo Fi Fc Fp Fs Vv Vc Vu Lp Ls
    obtain ⟨q0, q1, Vu⟩ := Vu
    obtain ⟨T1, h1, L1, x7, x8, X1, e1, N1, O1, K1, Eo1, Fi1, Fc1, Fp1, Fs1, Vv1, Vc1, Vu1, Lp1, Ls1, o7, o8, st1⟩ := tn2 a1 bv bp bs bc bu kv kc ku w7 w8 ⟨k, by omega⟩ (Int32.ofNat k) (own_d2_0 k) (own_d2_1 k) q0 q1 (own_P2 k) (own_S2 k) X0 hx hZ hw hby hml hown e0 N0 O0 hw7 hw8 Eo Fi Fc Fp Fs Vv Vc Vu Lp Ls ne_a1_bv ne_a1_bp ne_a1_bs ne_a1_bc ne_a1_bu ne_bv_bp ne_bv_bs ne_bv_bc ne_bv_bu ne_bp_bs ne_bp_bc ne_bp_bu ne_bs_bc ne_bs_bu ne_bc_bu g_bp g_bs g_bc g_bu rfl rfl rfl
    obtain ⟨T2, h2, L2, y7, y8, X2, e2, N2, O2, K2, Eo2, Fi2, Fc2, Fp2, Fs2, Lp2, Ls2, st2⟩ := ih (k + 1) T1 h1 L1 x7 x8 (by omega) X1 e1 N1 O1 o7 o8 Eo1 Fi1 Fc1 Fp1 Fs1 Vv1 Vc1 Vu1 Lp1 Ls1
    exact ⟨T2, h2, L2, y7, y8, X2, e2, N2, O2, Keep.trans K1 K2 (fun x hx => Or.inl hx), Eo2, Fi2, Fc2, Fp2, Fs2, Lp2, Ls2, fun t kt => st1 t (st2 t kt)⟩
def QC2 (Z : State) (a1 : Addr) (h0 : Heap) (n0 : Nat) (v : Option Value) (h : Heap) (L : List Loc) : Prop := v = none ∧ Fr n0 L ∧ Keep h0 h [a1] ∧ ∃ bp bs : Addr, Exa Z h a1 "com/example/frontward/frontward/offline/Orderings" ∧ Fld Z h a1 "com/example/frontward/frontward/offline/Orderings" "items" "I" (.int (2 : Int32)) ∧ Fld Z h a1 "com/example/frontward/frontward/offline/Orderings" "count" "I" (.int (2 : Int32)) ∧ Fld Z h a1 "com/example/frontward/frontward/offline/Orderings" "positions" "[B" (.ref bp) ∧ Fld Z h a1 "com/example/frontward/frontward/offline/Orderings" "swaps" "[I" (.ref bs) ∧ La Z h bp .byte (4 : Int32) own_PL2 ∧ La Z h bs .int (2 : Int32) own_SL2
theorem ef_4 (m : MethodId) (x0 : Addr) (x1 : Int32) : entryFrame m #[(.ref x0), (.int x1)] 9 = mkF m 0 #[.val (.ref x0), .val (.int x1), .unset, .unset, .unset, .unset, .unset, .unset, .unset] [] := by first | (simp [entryFrame, mkF, argsToLocals, Value.category]; done) | rfl
theorem dc5_0 : decode prog_26_method_1_code 0 = .ok (.aload_n 0, 1) := by decide +kernel
theorem dc5_1 : decode prog_26_method_1_code 1 = .ok (.invokespecial 1, 3) := by decide +kernel
theorem dc5_4 : decode prog_26_method_1_code 4 = .ok (.iload_n 1, 1) := by decide +kernel
theorem dc5_5 : decode prog_26_method_1_code 5 = .ok (.iconst 1, 1) := by decide +kernel
theorem dc5_6 : decode prog_26_method_1_code 6 = .ok (.if_icmp .lt 9, 3) := by decide +kernel
theorem dc5_9 : decode prog_26_method_1_code 9 = .ok (.iload_n 1, 1) := by decide +kernel
theorem dc5_10 : decode prog_26_method_1_code 10 = .ok (.bipush 10, 2) := by decide +kernel
theorem dc5_12 : decode prog_26_method_1_code 12 = .ok (.if_icmp .le 17, 3) := by decide +kernel
theorem dc5_29 : decode prog_26_method_1_code 29 = .ok (.iload_n 1, 1) := by decide +kernel
theorem dc5_30 : decode prog_26_method_1_code 30 = .ok (.newarray .int, 2) := by decide +kernel
theorem dc5_32 : decode prog_26_method_1_code 32 = .ok (.astore_n 2, 1) := by decide +kernel
theorem dc5_33 : decode prog_26_method_1_code 33 = .ok (.iconst 1, 1) := by decide +kernel
theorem dc5_34 : decode prog_26_method_1_code 34 = .ok (.istore_n 3, 1) := by decide +kernel
theorem dc5_35 : decode prog_26_method_1_code 35 = .ok (.iload_n 1, 1) := by decide +kernel
theorem dc5_36 : decode prog_26_method_1_code 36 = .ok (.iconst 1, 1) := by decide +kernel
theorem dc5_37 : decode prog_26_method_1_code 37 = .ok (.isub, 1) := by decide +kernel
theorem dc5_38 : decode prog_26_method_1_code 38 = .ok (.istore 4, 2) := by decide +kernel
theorem dc5_40 : decode prog_26_method_1_code 40 = .ok (.iload 4, 2) := by decide +kernel
theorem dc5_42 : decode prog_26_method_1_code 42 = .ok (.ifCond .lt 21, 3) := by decide +kernel
theorem dc5_45 : decode prog_26_method_1_code 45 = .ok (.aload_n 2, 1) := by decide +kernel
theorem dc5_46 : decode prog_26_method_1_code 46 = .ok (.iload 4, 2) := by decide +kernel
theorem dc5_48 : decode prog_26_method_1_code 48 = .ok (.iload_n 3, 1) := by decide +kernel
theorem dc5_49 : decode prog_26_method_1_code 49 = .ok (.iastore, 1) := by decide +kernel
theorem dc5_50 : decode prog_26_method_1_code 50 = .ok (.iload_n 3, 1) := by decide +kernel
theorem dc5_51 : decode prog_26_method_1_code 51 = .ok (.iload_n 1, 1) := by decide +kernel
theorem dc5_52 : decode prog_26_method_1_code 52 = .ok (.iload 4, 2) := by decide +kernel
theorem dc5_54 : decode prog_26_method_1_code 54 = .ok (.isub, 1) := by decide +kernel
theorem dc5_55 : decode prog_26_method_1_code 55 = .ok (.imul, 1) := by decide +kernel
theorem dc5_56 : decode prog_26_method_1_code 56 = .ok (.istore_n 3, 1) := by decide +kernel
theorem dc5_57 : decode prog_26_method_1_code 57 = .ok (.iinc 4 (-1), 3) := by decide +kernel
theorem dc5_60 : decode prog_26_method_1_code 60 = .ok (.goto (-20), 3) := by decide +kernel
theorem dc5_63 : decode prog_26_method_1_code 63 = .ok (.aload_n 0, 1) := by decide +kernel
theorem dc5_64 : decode prog_26_method_1_code 64 = .ok (.iload_n 1, 1) := by decide +kernel
theorem dc5_65 : decode prog_26_method_1_code 65 = .ok (.putfield 18, 3) := by decide +kernel
theorem dc5_68 : decode prog_26_method_1_code 68 = .ok (.aload_n 0, 1) := by decide +kernel
theorem dc5_69 : decode prog_26_method_1_code 69 = .ok (.iload_n 3, 1) := by decide +kernel
theorem dc5_70 : decode prog_26_method_1_code 70 = .ok (.putfield 24, 3) := by decide +kernel
theorem dc5_73 : decode prog_26_method_1_code 73 = .ok (.aload_n 0, 1) := by decide +kernel
theorem dc5_74 : decode prog_26_method_1_code 74 = .ok (.iload_n 1, 1) := by decide +kernel
theorem dc5_75 : decode prog_26_method_1_code 75 = .ok (.aload_n 0, 1) := by decide +kernel
theorem dc5_76 : decode prog_26_method_1_code 76 = .ok (.getfield 24, 3) := by decide +kernel
theorem dc5_79 : decode prog_26_method_1_code 79 = .ok (.imul, 1) := by decide +kernel
theorem dc5_80 : decode prog_26_method_1_code 80 = .ok (.newarray .byte, 2) := by decide +kernel
theorem dc5_82 : decode prog_26_method_1_code 82 = .ok (.putfield 27, 3) := by decide +kernel
theorem dc5_85 : decode prog_26_method_1_code 85 = .ok (.aload_n 0, 1) := by decide +kernel
theorem dc5_86 : decode prog_26_method_1_code 86 = .ok (.iload_n 1, 1) := by decide +kernel
theorem dc5_87 : decode prog_26_method_1_code 87 = .ok (.iconst 1, 1) := by decide +kernel
theorem dc5_88 : decode prog_26_method_1_code 88 = .ok (.isub, 1) := by decide +kernel
theorem dc5_89 : decode prog_26_method_1_code 89 = .ok (.aload_n 0, 1) := by decide +kernel
theorem dc5_90 : decode prog_26_method_1_code 90 = .ok (.getfield 24, 3) := by decide +kernel
theorem dc5_93 : decode prog_26_method_1_code 93 = .ok (.imul, 1) := by decide +kernel
theorem dc5_94 : decode prog_26_method_1_code 94 = .ok (.newarray .int, 2) := by decide +kernel
theorem dc5_96 : decode prog_26_method_1_code 96 = .ok (.putfield 31, 3) := by decide +kernel
theorem dc5_99 : decode prog_26_method_1_code 99 = .ok (.iload_n 1, 1) := by decide +kernel
theorem dc5_100 : decode prog_26_method_1_code 100 = .ok (.newarray .int, 2) := by decide +kernel
theorem dc5_102 : decode prog_26_method_1_code 102 = .ok (.astore 4, 2) := by decide +kernel
theorem dc5_104 : decode prog_26_method_1_code 104 = .ok (.iload_n 1, 1) := by decide +kernel
theorem dc5_105 : decode prog_26_method_1_code 105 = .ok (.newarray .int, 2) := by decide +kernel
theorem dc5_107 : decode prog_26_method_1_code 107 = .ok (.astore 5, 2) := by decide +kernel
theorem dc5_109 : decode prog_26_method_1_code 109 = .ok (.iconst 0, 1) := by decide +kernel
theorem dc5_110 : decode prog_26_method_1_code 110 = .ok (.istore 6, 2) := by decide +kernel
theorem dc5_312 : decode prog_26_method_1_code 312 = .ok (.return_, 1) := by decide +kernel
set_option maxRecDepth 65536 in
set_option maxHeartbeats 40000000 in
theorem rmC2 (l : Launch) (Z : State) (a0 : Array Value) (hw : ∀ d ∈ tables_1, d.before a0 Z = true) (ws : List Jvm.Cond) (a1 : Addr) (h0 : Heap) (n0 : Nat) (O0 : Old Z n0 h0) (E1 : Exa Z h0 a1 "com/example/frontward/frontward/offline/Orderings") (F_items : Fld Z h0 a1 "com/example/frontward/frontward/offline/Orderings" "items" "I" (.int (0 : Int32))) (F_count : Fld Z h0 a1 "com/example/frontward/frontward/offline/Orderings" "count" "I" (.int (0 : Int32))) (F_positions : Fld Z h0 a1 "com/example/frontward/frontward/offline/Orderings" "positions" "[B" .null) (F_swaps : Fld Z h0 a1 "com/example/frontward/frontward/offline/Orderings" "swaps" "[I" .null) (g1 : n0 ≤ a1) :
    MetFree l (⟨"com/example/frontward/frontward/offline/Orderings", "<init>", "(I)V"⟩ : MethodName) (head1 (Jvm.Cond.code (⟨"com/example/frontward/frontward/offline/Orderings", "<init>", "(I)V"⟩ : MethodName) prog_26_method_1_code 9 none :: ws) ({ frames := 2, cells := 5, slots := 12, locals := 60 } : Room)) (fun a U => a = #[(.ref a1), (.int (2 : Int32))] ∧ Z.Warmed39 U.vm ∧ U.heap = h0) (fun _ _ _ _ _ => True) (fun _ U o U' => ∃ v L, o = .returned v ∧ QC2 Z a1 h0 n0 v U'.heap L ∧ FrameEnd U o U' L ({ frames := 2, cells := 5, slots := 12, locals := 60 } : Room).cells ({ frames := 2, cells := 5, slots := 12, locals := 60 } : Room).slots) := by
  refine MetFree.of_bodySF (plainFor_of_name pn_0) hisR ?_
  intro p e s m args below meth c s₁ Bd hml0 hP hK
  obtain ⟨rfl, hZ, hh⟩ := hP
  have hx := Bd.exec
  have hby := Bd.bytes
  have hml : c.maxLocals = 9 := hml0
  have hown : s.vm.findClass "com/example/frontward/frontward/offline/Orderings" = some m.cls := findClass_of_methodNamed Bd.named
  have hnm := (name_of_methodNamed Bd.named Bd.method).1
  have X0 : Stand p l e ({ frames := 2, cells := 5, slots := 12, locals := 60 } : Room) s m #[(.ref a1), (.int (2 : Int32))] below meth c s₁ [] 0 0 := Stand.of_body Bd
  have e0 : s₁.heap = h0 := by rw [← hh, Bd.state]; rfl
  have N0 := Fr.nil n0
  have pre0 : ∀ t, Steps p.tables e below (s₁.setTop (mkF m 0 #[.val (.ref a1), .val (.int (2 : Int32)), .unset, .unset, .unset, .unset, .unset, .unset, .unset] [])) t → Steps p.tables e below (s₁.setTop (entryFrame m #[(.ref a1), (.int (2 : Int32))] 9)) t := fun t k => castTop (ef_4 m a1 (2 : Int32)) k
  obtain ⟨T101, X101, e101, st101⟩ := initO X0 hx hZ hown (hw _ (List.mem_of_getElem? (i := 6) rfl)) (hw _ (List.mem_of_getElem? (i := 7) rfl)) (hw _ (List.mem_of_getElem? (i := 8) rfl)) e0 (g := (mkF m 1 #[.val (.ref a1), .val (.int (2 : Int32)), .unset, .unset, .unset, .unset, .unset, .unset, .unset] [(.ref a1)])) rfl (by rw [hml]; rfl) rfl (hb hby dc5_1) (by decide) (W := 0) (by show 2 * 0 + _ ≤ _; exact Nat.le_of_eq rfl) (by decide)
  obtain ⟨T102, h102, k102, X102, e102, E102, A102, st102⟩ := newP X101 hx hZ (hw _ (List.mem_of_getElem? (i := 9) rfl)) e101 (g := (mkF m 30 #[.val (.ref a1), .val (.int (2 : Int32)), .unset, .unset, .unset, .unset, .unset, .unset, .unset] [(.int (2 : Int32))])) rfl (hb hby dc5_30) rfl (by decide) (cap := 2) (by decide) (by decide) (by decide) (by decide)
  obtain ⟨b102, g102⟩ : ∃ z, z = h0.size := ⟨_, rfl⟩
  rw [← g102] at A102 st102
  have gb102 : n0 ≤ b102 := by rw [g102, ← O0.1]; exact O0.2.1
  have ne102_a1 : a1 ≠ b102 := by rw [g102]; exact Nat.ne_of_lt (E1).lt
  have sz102 : h0.size ≤ b102 := by rw [g102]; exact ((Keep.refl h0 [a1])).1
  have V102 : Arv Z h102 b102 k102 .int (2 : Int32) [(.int (0 : Int32)), (.int (0 : Int32))] (.int (0 : Int32)) := (Arv.new A102 (by decide)).pad (pad_rep [] (.int (0 : Int32)) 2)
  obtain ⟨cl103, Ar103, q103, S103, N103_, H103, G103⟩ := id V102
  have hin103 : ¬ ((1 : Int32) < 0 ∨ cl103.slots.size ≤ ((1 : Int32)).toNatClampNeg) := inb_of S103 ⟨by decide, by decide⟩
  obtain ⟨T104, h104, X104, e104, W104, st104⟩ := stI X102 hx hZ e102 Ar103 (j := (1 : Int32)) hin103 (g := (mkF m 49 #[.val (.ref a1), .val (.int (2 : Int32)), .val (.ref b102), .val (.int (1 : Int32)), .val (.int (1 : Int32)), .unset, .unset, .unset, .unset] [(.int (1 : Int32)), (.int (1 : Int32)), (.ref b102)])) rfl rfl (hb hby dc5_49)
  have V104 : Arv Z h104 b102 k102 .int (2 : Int32) [(.int (0 : Int32)), (.int (1 : Int32))] (.int (0 : Int32)) := Arv.set Ar103 q103 S103 N103_ H103 G103 rfl W104 1 rfl (Nat.le_of_ble_eq_true rfl)
  have N104 := Fr.snoc X104 N0 gb102
  obtain ⟨cl105, Ar105, q105, S105, N105_, H105, G105⟩ := id V104
  have hin105 : ¬ ((0 : Int32) < 0 ∨ cl105.slots.size ≤ ((0 : Int32)).toNatClampNeg) := inb_of S105 ⟨by decide, by decide⟩
  obtain ⟨T106, h106, X106, e106, W106, st106⟩ := stI X104 hx hZ e104 Ar105 (j := (0 : Int32)) hin105 (g := (mkF m 49 #[.val (.ref a1), .val (.int (2 : Int32)), .val (.ref b102), .val (.int (1 : Int32)), .val (.int (0 : Int32)), .unset, .unset, .unset, .unset] [(.int (1 : Int32)), (.int (0 : Int32)), (.ref b102)])) rfl rfl (hb hby dc5_49)
  have V106 : Arv Z h106 b102 k102 .int (2 : Int32) [(.int (1 : Int32)), (.int (1 : Int32))] (.int (0 : Int32)) := Arv.set Ar105 q105 S105 N105_ H105 G105 rfl W106 0 rfl (Nat.le_of_ble_eq_true rfl)
  have N106 := Fr.snoc X106 N104 gb102
  have f107 := (((E1.ext E102).wr W104).wr W106)
  have f108 := (((F_items.ext E102).other W104 (Or.inl ne102_a1)).other W106 (Or.inl ne102_a1))
  obtain ⟨T109, h109, X109, e109, W109, st109⟩ := putF X106 hx hZ hown (host := "") (Or.inl (hw _ (List.mem_of_getElem? (i := 10) rfl))) Via.refl e106 f108 f107 (Or.inr ⟨(hw _ (List.mem_of_getElem? (i := 11) rfl)), rfl, hnm⟩) (hw _ (List.mem_of_getElem? (i := 1) rfl)) (ty := .int) (by decide) rfl rfl (g := (mkF m 65 #[.val (.ref a1), .val (.int (2 : Int32)), .val (.ref b102), .val (.int (2 : Int32)), .val (.int (-1 : Int32)), .unset, .unset, .unset, .unset] [(.int (2 : Int32)), (.ref a1)])) rfl rfl (hb hby dc5_65)
  have Fw109 : Fld Z h109 a1 "com/example/frontward/frontward/offline/Orderings" "items" "I" (.int (2 : Int32)) := Fld.same W109 f108
  have N109 := Fr.snoc X109 N106 g1
  have f110 := (f107.wr W109)
  have f111 := ((((F_count.ext E102).other W104 (Or.inl ne102_a1)).other W106 (Or.inl ne102_a1)).other W109 (Or.inr (slot_ne (Or.inr (hw _ (List.mem_of_getElem? (i := 13) rfl))) (Or.inr (hw _ (List.mem_of_getElem? (i := 11) rfl))) (by decide) (t := .int) (t' := .int) (by decide) (by decide))))
  obtain ⟨T112, h112, X112, e112, W112, st112⟩ := putF X109 hx hZ hown (host := "") (Or.inl (hw _ (List.mem_of_getElem? (i := 12) rfl))) Via.refl e109 f111 f110 (Or.inr ⟨(hw _ (List.mem_of_getElem? (i := 13) rfl)), rfl, hnm⟩) (hw _ (List.mem_of_getElem? (i := 1) rfl)) (ty := .int) (by decide) rfl rfl (g := (mkF m 70 #[.val (.ref a1), .val (.int (2 : Int32)), .val (.ref b102), .val (.int (2 : Int32)), .val (.int (-1 : Int32)), .unset, .unset, .unset, .unset] [(.int (2 : Int32)), (.ref a1)])) rfl rfl (hb hby dc5_70)
  have Fw112 : Fld Z h112 a1 "com/example/frontward/frontward/offline/Orderings" "count" "I" (.int (2 : Int32)) := Fld.same W112 f111
  have N112 := Fr.snoc X112 N109 g1
  obtain ⟨T113, X113, e113, st113⟩ := getF X112 hx hZ hown (host := "") (Or.inl (hw _ (List.mem_of_getElem? (i := 12) rfl))) Via.refl e112 Fw112 (g := (mkF m 76 #[.val (.ref a1), .val (.int (2 : Int32)), .val (.ref b102), .val (.int (2 : Int32)), .val (.int (-1 : Int32)), .unset, .unset, .unset, .unset] [(.ref a1), (.int (2 : Int32)), (.ref a1)])) rfl rfl (hb hby dc5_76)
  have O114 : Old Z n0 h112 := (((((O0.ext E102).wr W104 gb102).wr W106 gb102).wr W109 g1).wr W112 g1)
  obtain ⟨T115, h115, k115, X115, e115, E115, A115, st115⟩ := newP X113 hx hZ (hw _ (List.mem_of_getElem? (i := 14) rfl)) e113 (g := (mkF m 80 #[.val (.ref a1), .val (.int (2 : Int32)), .val (.ref b102), .val (.int (2 : Int32)), .val (.int (-1 : Int32)), .unset, .unset, .unset, .unset] [(.int (4 : Int32)), (.ref a1)])) rfl (hb hby dc5_80) rfl (by decide) (cap := 4) (by decide) (by decide) (by decide) (by decide)
  obtain ⟨b115, g115⟩ : ∃ z, z = h112.size := ⟨_, rfl⟩
  rw [← g115] at A115 st115
  have gb115 : n0 ≤ b115 := by rw [g115, ← O114.1]; exact O114.2.1
  have f116 := (f110.wr W112)
  have ne115_a1 : a1 ≠ b115 := by rw [g115]; exact Nat.ne_of_lt (f116).lt
  have f117 := ((V106.other W109 (Ne.symm ne102_a1)).other W112 (Ne.symm ne102_a1))
  have ne115_b102 : b102 ≠ b115 := by rw [g115]; exact Nat.ne_of_lt (f117).lt
  have K118 : Keep h0 h112 [a1] := (Keep.wr (Keep.wr (Keep.wr (Keep.wr (Keep.ext (Keep.refl h0 [a1]) E102) W104 (Or.inr sz102)) W106 (Or.inr sz102)) W109 (Or.inl (List.mem_of_getElem? (i := 0) rfl))) W112 (Or.inl (List.mem_of_getElem? (i := 0) rfl)))
  have sz115 : h0.size ≤ b115 := by rw [g115]; exact (K118).1
  have V115 : Arv Z h115 b115 k115 .byte (4 : Int32) [(.int (0 : Int32)), (.int (0 : Int32)), (.int (0 : Int32)), (.int (0 : Int32))] (.int (0 : Int32)) := (Arv.new A115 (by decide)).pad (pad_rep [] (.int (0 : Int32)) 4)
  have f119 := (f116.ext E115)
  have f120 := ((((((F_positions.ext E102).other W104 (Or.inl ne102_a1)).other W106 (Or.inl ne102_a1)).other W109 (Or.inr (slot_ne (Or.inr (hw _ (List.mem_of_getElem? (i := 16) rfl))) (Or.inr (hw _ (List.mem_of_getElem? (i := 11) rfl))) (by decide) (t := (.array .byte)) (t' := .int) (by decide) (by decide)))).other W112 (Or.inr (slot_ne (Or.inr (hw _ (List.mem_of_getElem? (i := 16) rfl))) (Or.inr (hw _ (List.mem_of_getElem? (i := 13) rfl))) (by decide) (t := (.array .byte)) (t' := .int) (by decide) (by decide)))).ext E115)
  obtain ⟨T121, h121, X121, e121, W121, st121⟩ := putF X115 hx hZ hown (host := "") (Or.inl (hw _ (List.mem_of_getElem? (i := 15) rfl))) Via.refl e115 f120 f119 (Or.inr ⟨(hw _ (List.mem_of_getElem? (i := 16) rfl)), rfl, hnm⟩) (hw _ (List.mem_of_getElem? (i := 1) rfl)) (ty := (.array .byte)) (by decide) rfl rfl (g := (mkF m 82 #[.val (.ref a1), .val (.int (2 : Int32)), .val (.ref b102), .val (.int (2 : Int32)), .val (.int (-1 : Int32)), .unset, .unset, .unset, .unset] [(.ref b115), (.ref a1)])) rfl rfl (hb hby dc5_82)
  have Fw121 : Fld Z h121 a1 "com/example/frontward/frontward/offline/Orderings" "positions" "[B" (.ref b115) := Fld.same W121 f120
  have N121 := Fr.snoc X121 N112 g1
  have f122 := ((Fw112.ext E115).other W121 (Or.inr (slot_ne (Or.inr (hw _ (List.mem_of_getElem? (i := 13) rfl))) (Or.inr (hw _ (List.mem_of_getElem? (i := 16) rfl))) (by decide) (t := .int) (t' := (.array .byte)) (by decide) (by decide))))
  obtain ⟨T123, X123, e123, st123⟩ := getF X121 hx hZ hown (host := "") (Or.inl (hw _ (List.mem_of_getElem? (i := 12) rfl))) Via.refl e121 f122 (g := (mkF m 90 #[.val (.ref a1), .val (.int (2 : Int32)), .val (.ref b102), .val (.int (2 : Int32)), .val (.int (-1 : Int32)), .unset, .unset, .unset, .unset] [(.ref a1), (.int (1 : Int32)), (.ref a1)])) rfl rfl (hb hby dc5_90)
  have O124 : Old Z n0 h121 := ((O114.ext E115).wr W121 g1)
  obtain ⟨T125, h125, k125, X125, e125, E125, A125, st125⟩ := newP X123 hx hZ (hw _ (List.mem_of_getElem? (i := 9) rfl)) e123 (g := (mkF m 94 #[.val (.ref a1), .val (.int (2 : Int32)), .val (.ref b102), .val (.int (2 : Int32)), .val (.int (-1 : Int32)), .unset, .unset, .unset, .unset] [(.int (2 : Int32)), (.ref a1)])) rfl (hb hby dc5_94) rfl (by decide) (cap := 2) (by decide) (by decide) (by decide) (by decide)
  obtain ⟨b125, g125⟩ : ∃ z, z = h121.size := ⟨_, rfl⟩
  rw [← g125] at A125 st125
  have gb125 : n0 ≤ b125 := by rw [g125, ← O124.1]; exact O124.2.1
  have f126 := (f119.wr W121)
  have ne125_a1 : a1 ≠ b125 := by rw [g125]; exact Nat.ne_of_lt (f126).lt
  have f127 := ((f117.ext E115).other W121 (Ne.symm ne102_a1))
  have ne125_b102 : b102 ≠ b125 := by rw [g125]; exact Nat.ne_of_lt (f127).lt
  have f128 := (V115.other W121 (Ne.symm ne115_a1))
  have ne125_b115 : b115 ≠ b125 := by rw [g125]; exact Nat.ne_of_lt (f128).lt
  have K129 : Keep h0 h121 [a1] := (Keep.wr (Keep.ext K118 E115) W121 (Or.inl (List.mem_of_getElem? (i := 0) rfl)))
  have sz125 : h0.size ≤ b125 := by rw [g125]; exact (K129).1
  have V125 : Arv Z h125 b125 k125 .int (2 : Int32) [(.int (0 : Int32)), (.int (0 : Int32))] (.int (0 : Int32)) := (Arv.new A125 (by decide)).pad (pad_rep [] (.int (0 : Int32)) 2)
  have f130 := (f126.ext E125)
  have f131 := ((((((((F_swaps.ext E102).other W104 (Or.inl ne102_a1)).other W106 (Or.inl ne102_a1)).other W109 (Or.inr (slot_ne (Or.inr (hw _ (List.mem_of_getElem? (i := 18) rfl))) (Or.inr (hw _ (List.mem_of_getElem? (i := 11) rfl))) (by decide) (t := (.array .int)) (t' := .int) (by decide) (by decide)))).other W112 (Or.inr (slot_ne (Or.inr (hw _ (List.mem_of_getElem? (i := 18) rfl))) (Or.inr (hw _ (List.mem_of_getElem? (i := 13) rfl))) (by decide) (t := (.array .int)) (t' := .int) (by decide) (by decide)))).ext E115).other W121 (Or.inr (slot_ne (Or.inr (hw _ (List.mem_of_getElem? (i := 18) rfl))) (Or.inr (hw _ (List.mem_of_getElem? (i := 16) rfl))) (by decide) (t := (.array .int)) (t' := (.array .byte)) (by decide) (by decide)))).ext E125)
  obtain ⟨T132, h132, X132, e132, W132, st132⟩ := putF X125 hx hZ hown (host := "") (Or.inl (hw _ (List.mem_of_getElem? (i := 17) rfl))) Via.refl e125 f131 f130 (Or.inr ⟨(hw _ (List.mem_of_getElem? (i := 18) rfl)), rfl, hnm⟩) (hw _ (List.mem_of_getElem? (i := 1) rfl)) (ty := (.array .int)) (by decide) rfl rfl (g := (mkF m 96 #[.val (.ref a1), .val (.int (2 : Int32)), .val (.ref b102), .val (.int (2 : Int32)), .val (.int (-1 : Int32)), .unset, .unset, .unset, .unset] [(.ref b125), (.ref a1)])) rfl rfl (hb hby dc5_96)
  have Fw132 : Fld Z h132 a1 "com/example/frontward/frontward/offline/Orderings" "swaps" "[I" (.ref b125) := Fld.same W132 f131
  have N132 := Fr.snoc X132 N121 g1
  have O133 : Old Z n0 h132 := ((O124.ext E125).wr W132 g1)
  obtain ⟨T134, h134, k134, X134, e134, E134, A134, st134⟩ := newP X132 hx hZ (hw _ (List.mem_of_getElem? (i := 9) rfl)) e132 (g := (mkF m 100 #[.val (.ref a1), .val (.int (2 : Int32)), .val (.ref b102), .val (.int (2 : Int32)), .val (.int (-1 : Int32)), .unset, .unset, .unset, .unset] [(.int (2 : Int32))])) rfl (hb hby dc5_100) rfl (by decide) (cap := 2) (by decide) (by decide) (by decide) (by decide)
  obtain ⟨b134, g134⟩ : ∃ z, z = h132.size := ⟨_, rfl⟩
  rw [← g134] at A134 st134
  have gb134 : n0 ≤ b134 := by rw [g134, ← O133.1]; exact O133.2.1
  have f135 := (f130.wr W132)
  have ne134_a1 : a1 ≠ b134 := by rw [g134]; exact Nat.ne_of_lt (f135).lt
  have f136 := ((f127.ext E125).other W132 (Ne.symm ne102_a1))
  have ne134_b102 : b102 ≠ b134 := by rw [g134]; exact Nat.ne_of_lt (f136).lt
  have f137 := ((f128.ext E125).other W132 (Ne.symm ne115_a1))
  have ne134_b115 : b115 ≠ b134 := by rw [g134]; exact Nat.ne_of_lt (f137).lt
  have f138 := (V125.other W132 (Ne.symm ne125_a1))
  have ne134_b125 : b125 ≠ b134 := by rw [g134]; exact Nat.ne_of_lt (f138).lt
  have K139 : Keep h0 h132 [a1] := (Keep.wr (Keep.ext K129 E125) W132 (Or.inl (List.mem_of_getElem? (i := 0) rfl)))
  have sz134 : h0.size ≤ b134 := by rw [g134]; exact (K139).1
  have V134 : Arv Z h134 b134 k134 .int (2 : Int32) [(.int (0 : Int32)), (.int (0 : Int32))] (.int (0 : Int32)) := (Arv.new A134 (by decide)).pad (pad_rep [] (.int (0 : Int32)) 2)
  have O140 : Old Z n0 h134 := (O133.ext E134)
  obtain ⟨T141, h141, k141, X141, e141, E141, A141, st141⟩ := newP X134 hx hZ (hw _ (List.mem_of_getElem? (i := 9) rfl)) e134 (g := (mkF m 105 #[.val (.ref a1), .val (.int (2 : Int32)), .val (.ref b102), .val (.int (2 : Int32)), .val (.ref b134), .unset, .unset, .unset, .unset] [(.int (2 : Int32))])) rfl (hb hby dc5_105) rfl (by decide) (cap := 2) (by decide) (by decide) (by decide) (by decide)
  obtain ⟨b141, g141⟩ : ∃ z, z = h134.size := ⟨_, rfl⟩
  rw [← g141] at A141 st141
  have gb141 : n0 ≤ b141 := by rw [g141, ← O140.1]; exact O140.2.1
  have f142 := (f135.ext E134)
  have ne141_a1 : a1 ≠ b141 := by rw [g141]; exact Nat.ne_of_lt (f142).lt
  have f143 := (f136.ext E134)
  have ne141_b102 : b102 ≠ b141 := by rw [g141]; exact Nat.ne_of_lt (f143).lt
  have f144 := (f137.ext E134)
  have ne141_b115 : b115 ≠ b141 := by rw [g141]; exact Nat.ne_of_lt (f144).lt
  have f145 := (f138.ext E134)
  have ne141_b125 : b125 ≠ b141 := by rw [g141]; exact Nat.ne_of_lt (f145).lt
  have ne141_b134 : b134 ≠ b141 := by rw [g141]; exact Nat.ne_of_lt (V134).lt
  have K146 : Keep h0 h134 [a1] := (Keep.ext K139 E134)
  have sz141 : h0.size ≤ b141 := by rw [g141]; exact (K146).1
  have V141 : Arv Z h141 b141 k141 .int (2 : Int32) [(.int (0 : Int32)), (.int (0 : Int32))] (.int (0 : Int32)) := (Arv.new A141 (by decide)).pad (pad_rep [] (.int (0 : Int32)) 2)
  have pre147 : ∀ t, Steps p.tables e below (T141.setTop (mkF m 112 #[.val (.ref a1), .val (.int (2 : Int32)), .val (.ref b102), .val (.int (2 : Int32)), .val (.ref b134), .val (.ref b141), .val (.int (0 : Int32)), .unset, .unset] [])) t → Steps p.tables e below (s₁.setTop (entryFrame m #[(.ref a1), (.int (2 : Int32))] 9)) t := fun t kt => pre0 t (by
      show Steps p.tables e below (s₁.setTop (mkF m 0 #[.val (.ref a1), .val (.int (2 : Int32)), .unset, .unset, .unset, .unset, .unset, .unset, .unset] [])) _
      refine XS.aloadN X0.here hx rfl (hb hby dc5_0) rfl rfl ?_
      refine st101 _ ?_
      refine XS.iloadN X101.here hx rfl (hb hby dc5_4) rfl ?_
      refine XS.iconst X101.here hx rfl (hb hby dc5_5) ?_
      show Steps p.tables e below (T101.setTop (mkF m 6 #[.val (.ref a1), .val (.int (2 : Int32)), .unset, .unset, .unset, .unset, .unset, .unset, .unset] [(.int (1 : Int32)), (.int (2 : Int32))])) _
      refine XS.icmpNo X101.here hx rfl (hb hby dc5_6) rfl (by decide) ?_
      refine XS.iloadN X101.here hx rfl (hb hby dc5_9) rfl ?_
      refine XS.bipush X101.here hx rfl (hb hby dc5_10) ?_
      show Steps p.tables e below (T101.setTop (mkF m 12 #[.val (.ref a1), .val (.int (2 : Int32)), .unset, .unset, .unset, .unset, .unset, .unset, .unset] [(.int (10 : Int32)), (.int (2 : Int32))])) _
      refine XS.icmpYes X101.here hx rfl (pc0 := 12) (pc' := 29) rfl (hb hby dc5_12) rfl (by decide) (by decide) (by decide) ?_
      refine XS.iloadN X101.here hx rfl (hb hby dc5_29) rfl ?_
      refine st102 _ ?_
      refine XS.astoreN X102.here hx rfl (hb hby dc5_32) rfl rfl (l' := #[.val (.ref a1), .val (.int (2 : Int32)), .val (.ref b102), .unset, .unset, .unset, .unset, .unset, .unset]) rfl ?_
      refine XS.iconst X102.here hx rfl (hb hby dc5_33) ?_
      refine XS.istoreN X102.here hx rfl (hb hby dc5_34) rfl (l' := #[.val (.ref a1), .val (.int (2 : Int32)), .val (.ref b102), .val (.int (1 : Int32)), .unset, .unset, .unset, .unset, .unset]) rfl ?_
      refine XS.iloadN X102.here hx rfl (hb hby dc5_35) rfl ?_
      refine XS.iconst X102.here hx rfl (hb hby dc5_36) ?_
      refine XS.isub X102.here hx rfl (hb hby dc5_37) rfl ?_
      refine XS.istore X102.here hx rfl (hb hby dc5_38) rfl (l' := #[.val (.ref a1), .val (.int (2 : Int32)), .val (.ref b102), .val (.int (1 : Int32)), .val (.int (1 : Int32)), .unset, .unset, .unset, .unset]) rfl ?_
      refine XS.iload X102.here hx rfl (hb hby dc5_40) rfl ?_
      show Steps p.tables e below (T102.setTop (mkF m 42 #[.val (.ref a1), .val (.int (2 : Int32)), .val (.ref b102), .val (.int (1 : Int32)), .val (.int (1 : Int32)), .unset, .unset, .unset, .unset] [(.int (1 : Int32))])) _
      refine XS.ifNo X102.here hx rfl (hb hby dc5_42) rfl (by decide) ?_
      refine XS.aloadN X102.here hx rfl (hb hby dc5_45) rfl rfl ?_
      refine XS.iload X102.here hx rfl (hb hby dc5_46) rfl ?_
      refine XS.iloadN X102.here hx rfl (hb hby dc5_48) rfl ?_
      refine st104 _ ?_
      refine XS.iloadN X104.here hx rfl (hb hby dc5_50) rfl ?_
      show Steps p.tables e below (T104.setTop (mkF m 51 #[.val (.ref a1), .val (.int (2 : Int32)), .val (.ref b102), .val (.int (1 : Int32)), .val (.int (1 : Int32)), .unset, .unset, .unset, .unset] [(.int (1 : Int32))])) _
      refine XS.iloadN X104.here hx rfl (hb hby dc5_51) rfl ?_
      refine XS.iload X104.here hx rfl (hb hby dc5_52) rfl ?_
      refine XS.isub X104.here hx rfl (hb hby dc5_54) rfl ?_
      refine XS.imul X104.here hx rfl (hb hby dc5_55) rfl ?_
      refine XS.istoreN X104.here hx rfl (hb hby dc5_56) rfl (l' := #[.val (.ref a1), .val (.int (2 : Int32)), .val (.ref b102), .val (.int (1 : Int32)), .val (.int (1 : Int32)), .unset, .unset, .unset, .unset]) rfl ?_
      refine XS.iinc X104.here hx rfl (hb hby dc5_57) rfl (l' := #[.val (.ref a1), .val (.int (2 : Int32)), .val (.ref b102), .val (.int (1 : Int32)), .val (.int (0 : Int32)), .unset, .unset, .unset, .unset]) rfl ?_
      refine XS.goto X104.here hx rfl (pc0 := 60) (pc' := 40) rfl (hb hby dc5_60) (by decide) (by decide) ?_
      refine XS.iload X104.here hx rfl (hb hby dc5_40) rfl ?_
      show Steps p.tables e below (T104.setTop (mkF m 42 #[.val (.ref a1), .val (.int (2 : Int32)), .val (.ref b102), .val (.int (1 : Int32)), .val (.int (0 : Int32)), .unset, .unset, .unset, .unset] [(.int (0 : Int32))])) _
      refine XS.ifNo X104.here hx rfl (hb hby dc5_42) rfl (by decide) ?_
      refine XS.aloadN X104.here hx rfl (hb hby dc5_45) rfl rfl ?_
      refine XS.iload X104.here hx rfl (hb hby dc5_46) rfl ?_
      refine XS.iloadN X104.here hx rfl (hb hby dc5_48) rfl ?_
      refine st106 _ ?_
      refine XS.iloadN X106.here hx rfl (hb hby dc5_50) rfl ?_
      refine XS.iloadN X106.here hx rfl (hb hby dc5_51) rfl ?_
      refine XS.iload X106.here hx rfl (hb hby dc5_52) rfl ?_
      refine XS.isub X106.here hx rfl (hb hby dc5_54) rfl ?_
      refine XS.imul X106.here hx rfl (hb hby dc5_55) rfl ?_
      refine XS.istoreN X106.here hx rfl (hb hby dc5_56) rfl (l' := #[.val (.ref a1), .val (.int (2 : Int32)), .val (.ref b102), .val (.int (2 : Int32)), .val (.int (0 : Int32)), .unset, .unset, .unset, .unset]) rfl ?_
      refine XS.iinc X106.here hx rfl (hb hby dc5_57) rfl (l' := #[.val (.ref a1), .val (.int (2 : Int32)), .val (.ref b102), .val (.int (2 : Int32)), .val (.int (-1 : Int32)), .unset, .unset, .unset, .unset]) rfl ?_
      refine XS.goto X106.here hx rfl (pc0 := 60) (pc' := 40) rfl (hb hby dc5_60) (by decide) (by decide) ?_
      refine XS.iload X106.here hx rfl (hb hby dc5_40) rfl ?_
      show Steps p.tables e below (T106.setTop (mkF m 42 #[.val (.ref a1), .val (.int (2 : Int32)), .val (.ref b102), .val (.int (2 : Int32)), .val (.int (-1 : Int32)), .unset, .unset, .unset, .unset] [(.int (-1 : Int32))])) _
      refine XS.ifYes X106.here hx rfl (pc0 := 42) (pc' := 63) rfl (hb hby dc5_42) rfl (by decide) (by decide) (by decide) ?_
      refine XS.aloadN X106.here hx rfl (hb hby dc5_63) rfl rfl ?_
      refine XS.iloadN X106.here hx rfl (hb hby dc5_64) rfl ?_
      show Steps p.tables e below (T106.setTop (mkF m 65 #[.val (.ref a1), .val (.int (2 : Int32)), .val (.ref b102), .val (.int (2 : Int32)), .val (.int (-1 : Int32)), .unset, .unset, .unset, .unset] [(.int (2 : Int32)), (.ref a1)])) _
      refine st109 _ ?_
      refine XS.aloadN X109.here hx rfl (hb hby dc5_68) rfl rfl ?_
      refine XS.iloadN X109.here hx rfl (hb hby dc5_69) rfl ?_
      refine st112 _ ?_
      refine XS.aloadN X112.here hx rfl (hb hby dc5_73) rfl rfl ?_
      refine XS.iloadN X112.here hx rfl (hb hby dc5_74) rfl ?_
      refine XS.aloadN X112.here hx rfl (hb hby dc5_75) rfl rfl ?_
      refine st113 _ ?_
      refine XS.imul X113.here hx rfl (hb hby dc5_79) rfl ?_
      refine st115 _ ?_
      refine st121 _ ?_
      refine XS.aloadN X121.here hx rfl (hb hby dc5_85) rfl rfl ?_
      refine XS.iloadN X121.here hx rfl (hb hby dc5_86) rfl ?_
      refine XS.iconst X121.here hx rfl (hb hby dc5_87) ?_
      refine XS.isub X121.here hx rfl (hb hby dc5_88) rfl ?_
      refine XS.aloadN X121.here hx rfl (hb hby dc5_89) rfl rfl ?_
      refine st123 _ ?_
      refine XS.imul X123.here hx rfl (hb hby dc5_93) rfl ?_
      refine st125 _ ?_
      refine st132 _ ?_
      refine XS.iloadN X132.here hx rfl (hb hby dc5_99) rfl ?_
      refine st134 _ ?_
      refine XS.astore X134.here hx rfl (hb hby dc5_102) rfl rfl (l' := #[.val (.ref a1), .val (.int (2 : Int32)), .val (.ref b102), .val (.int (2 : Int32)), .val (.ref b134), .unset, .unset, .unset, .unset]) rfl ?_
      refine XS.iloadN X134.here hx rfl (hb hby dc5_104) rfl ?_
      refine st141 _ ?_
      show Steps p.tables e below (T141.setTop (mkF m 107 #[.val (.ref a1), .val (.int (2 : Int32)), .val (.ref b102), .val (.int (2 : Int32)), .val (.ref b134), .unset, .unset, .unset, .unset] [(.ref b141)])) _
      refine XS.astore X141.here hx rfl (hb hby dc5_107) rfl rfl (l' := #[.val (.ref a1), .val (.int (2 : Int32)), .val (.ref b102), .val (.int (2 : Int32)), .val (.ref b134), .val (.ref b141), .unset, .unset, .unset]) rfl ?_
      refine XS.iconst X141.here hx rfl (hb hby dc5_109) ?_
      refine XS.istore X141.here hx rfl (hb hby dc5_110) rfl (l' := #[.val (.ref a1), .val (.int (2 : Int32)), .val (.ref b102), .val (.int (2 : Int32)), .val (.ref b134), .val (.ref b141), .val (.int (0 : Int32)), .unset, .unset]) rfl ?_
      exact kt)
  have f148 := (f142.ext E141)
  have f149 := (((((((Fw109.other W112 (Or.inr (slot_ne (Or.inr (hw _ (List.mem_of_getElem? (i := 11) rfl))) (Or.inr (hw _ (List.mem_of_getElem? (i := 13) rfl))) (by decide) (t := .int) (t' := .int) (by decide) (by decide)))).ext E115).other W121 (Or.inr (slot_ne (Or.inr (hw _ (List.mem_of_getElem? (i := 11) rfl))) (Or.inr (hw _ (List.mem_of_getElem? (i := 16) rfl))) (by decide) (t := .int) (t' := (.array .byte)) (by decide) (by decide)))).ext E125).other W132 (Or.inr (slot_ne (Or.inr (hw _ (List.mem_of_getElem? (i := 11) rfl))) (Or.inr (hw _ (List.mem_of_getElem? (i := 18) rfl))) (by decide) (t := .int) (t' := (.array .int)) (by decide) (by decide)))).ext E134).ext E141)
  have f150 := ((((f122.ext E125).other W132 (Or.inr (slot_ne (Or.inr (hw _ (List.mem_of_getElem? (i := 13) rfl))) (Or.inr (hw _ (List.mem_of_getElem? (i := 18) rfl))) (by decide) (t := .int) (t' := (.array .int)) (by decide) (by decide)))).ext E134).ext E141)
  have f151 := ((((Fw121.ext E125).other W132 (Or.inr (slot_ne (Or.inr (hw _ (List.mem_of_getElem? (i := 16) rfl))) (Or.inr (hw _ (List.mem_of_getElem? (i := 18) rfl))) (by decide) (t := (.array .byte)) (t' := (.array .int)) (by decide) (by decide)))).ext E134).ext E141)
  have f152 := ((Fw132.ext E134).ext E141)
  have f153 := (f143.ext E141)
  have f154 := (V134.ext E141)
  have f155 := (f144.ext E141)
  have f156 := (f145.ext E141)
  have O157 : Old Z n0 h141 := (O140.ext E141)
  have K158 : Keep h0 h141 [a1] := (Keep.ext K146 E141)
  obtain ⟨TL, hL, LL, x7, x8, XL, eL, NL, OL, KL, EoL, FiL, FcL, FpL, FsL, LpL, LsL, stL⟩ := lp2 a1 b102 b115 b125 b134 b141 k102 k134 k141 hx hZ hw hby hml hown ne102_a1 ne115_a1 ne125_a1 ne134_a1 ne141_a1 ne115_b102 ne125_b102 ne134_b102 ne141_b102 ne125_b115 ne134_b115 ne141_b115 ne134_b125 ne141_b125 ne141_b134 gb115 gb125 gb134 gb141 2 0 _ _ _ _ _ rfl X141 e141 N132 O157 One.u One.u f148 f149 f150 f151 f152 f153 f154 ⟨_, _, V141⟩ (show La Z h141 b115 .byte (4 : Int32) (List.replicate 4 0) from ⟨_, f155, rfl⟩) (show La Z h141 b125 .int (2 : Int32) (List.replicate 2 0) from ⟨_, f156, rfl⟩)
  rw [own_PE2] at LpL
  rw [own_SE2] at LsL
  obtain ⟨fs, hr, hrun, hended, hW, hsame⟩ := XL.leave (v := none) (fun _ => rfl)
  have K159 : Keep h0 hL [a1] := (Keep.trans K158 KL (allS (P := fun x => x ∈ [a1] ∨ h0.size ≤ x) (Or.inr sz115) (allS (P := fun x => x ∈ [a1] ∨ h0.size ≤ x) (Or.inr sz125) (allS (P := fun x => x ∈ [a1] ∨ h0.size ≤ x) (Or.inr sz134) (allS (P := fun x => x ∈ [a1] ∨ h0.size ≤ x) (Or.inr sz141) all0)))))
  refine ⟨_, _, pre147 _ ?_, hrun, hended, _, _, rfl, ?_, ⟨_, rfl⟩, hW, hsame.mono (by decide) (by decide)⟩
  · skip
    refine stL _ ?_
    show Steps p.tables e below (TL.setTop (mkF m 312 #[.val (.ref a1), .val (.int (2 : Int32)), .val (.ref b102), .val (.int (2 : Int32)), .val (.ref b134), .val (.ref b141), .val (.int (2 : Int32)), x7, x8] [])) _
    exact XL.returnOut hx Bd.returns (hb hby dc5_312) hr
  · show QC2 Z a1 h0 n0 _ TL.heap _
    rw [eL]
    exact ⟨rfl, NL, K159, b115, b125, EoL, FiL, FcL, FpL, FsL, LpL, LsL⟩
def own_W2 (q f : Int32) : Prop := ¬ ((own_SL2.getD ((q * ((2 : Int32) - (1 : Int32))) + f).toNatClampNeg 0) < (0 : Int32)) ∧ (own_SL2.getD ((q * ((2 : Int32) - (1 : Int32))) + f).toNatClampNeg 0) < (2 : Int32) ∧ own_mv (own_PL2.getD ((((0 : Int32) * (2 : Int32)) + q)).toNatClampNeg 0) (own_PL2.getD ((((0 : Int32) * (2 : Int32)) + (own_SL2.getD ((q * ((2 : Int32) - (1 : Int32))) + f).toNatClampNeg 0))).toNatClampNeg 0) f = 1 ∧ own_mv (own_PL2.getD ((((1 : Int32) * (2 : Int32)) + q)).toNatClampNeg 0) (own_PL2.getD ((((1 : Int32) * (2 : Int32)) + (own_SL2.getD ((q * ((2 : Int32) - (1 : Int32))) + f).toNatClampNeg 0))).toNatClampNeg 0) f = 1
instance (q f : Int32) : Decidable (own_W2 q f) := by unfold own_W2; infer_instance
set_option maxRecDepth 65536 in
theorem own_w2 : ∀ k : Fin 2, ∀ f : Fin 1, own_W2 (Int32.ofNat k.val) (Int32.ofNat f.val) := by decide +kernel
def own_nth3 (c u0 u1 u2 : Int32) : Int32 := if c = (0 : Int32) then u0 else if c = (1 : Int32) then u1 else u2
theorem own_nb3 {c u0 u1 u2 : Int32} (h0 : own_bd 3 u0) (h1 : own_bd 3 u1) (h2 : own_bd 3 u2) : own_bd 3 (own_nth3 c u0 u1 u2) := by
  unfold own_nth3
  repeat' split
  all_goals assumption
def own_d3_0 (k : Nat) : Int32 := Int32.ofNat (k / 2 % 3)
theorem own_dd3_0 : ∀ k : Fin 6, own_d3_0 k.val = (0 : Int32) ∨ own_d3_0 k.val = (1 : Int32) ∨ own_d3_0 k.val = (2 : Int32) := by decide +kernel
theorem own_pin3_0 {c : Int32} (h : c = (0 : Int32) ∨ c = (1 : Int32) ∨ c = (2 : Int32)) : ¬ c < 0 ∧ c < (3 : Int32) := by
  rcases h with rfl | rfl | rfl <;> decide
theorem own_nl3_0 {c u0 u1 u2 : Int32} (h : c = (0 : Int32) ∨ c = (1 : Int32) ∨ c = (2 : Int32)) : ([(.int u0), (.int u1), (.int u2)] : List Value).getD c.toNatClampNeg (.int (0 : Int32)) = .int (own_nth3 c u0 u1 u2) := by
  rcases h with rfl | rfl | rfl <;> rfl
theorem own_cp3_0 {c u0 u1 u2 : Int32} (h : c = (0 : Int32) ∨ c = (1 : Int32) ∨ c = (2 : Int32)) : ¬ (c + (1 : Int32)) < 0 ∧ ¬ c < 0 ∧ ¬ ((2 : Int32) - c) < 0 ∧ (c + (1 : Int32)).toNatClampNeg + ((2 : Int32) - c).toNatClampNeg ≤ (3 : Int32).toNatClampNeg ∧ c.toNatClampNeg + ((2 : Int32) - c).toNatClampNeg ≤ (3 : Int32).toNatClampNeg ∧ (([(.int u0), (.int u1), (.int u2)] : List Value).take c.toNatClampNeg ++ ((List.range ((2 : Int32) - c).toNatClampNeg).map fun i => ([(.int u0), (.int u1), (.int u2)] : List Value).getD ((c + (1 : Int32)).toNatClampNeg + i) (.int (0 : Int32))) ++ ([(.int u0), (.int u1), (.int u2)] : List Value).drop (c.toNatClampNeg + ((2 : Int32) - c).toNatClampNeg)) = [(.int (own_sh c (0 : Int32) u0 u1)), (.int (own_sh c (1 : Int32) u1 u2)), (.int u2)] := by
  rcases h with rfl | rfl | rfl <;> exact ⟨by decide, by decide, by decide, by decide, by decide, rfl⟩
def own_d3_1 (k : Nat) : Int32 := Int32.ofNat (k / 1 % 2)
theorem own_dd3_1 : ∀ k : Fin 6, own_d3_1 k.val = (0 : Int32) ∨ own_d3_1 k.val = (1 : Int32) := by decide +kernel
theorem own_pin3_1 {c : Int32} (h : c = (0 : Int32) ∨ c = (1 : Int32)) : ¬ c < 0 ∧ c < (3 : Int32) := by
  rcases h with rfl | rfl <;> decide
theorem own_nl3_1 {c u0 u1 u2 : Int32} (h : c = (0 : Int32) ∨ c = (1 : Int32)) : ([(.int u0), (.int u1), (.int u2)] : List Value).getD c.toNatClampNeg (.int (0 : Int32)) = .int (own_nth3 c u0 u1 u2) := by
  rcases h with rfl | rfl <;> rfl
theorem own_cp3_1 {c u0 u1 u2 : Int32} (h : c = (0 : Int32) ∨ c = (1 : Int32)) : ¬ (c + (1 : Int32)) < 0 ∧ ¬ c < 0 ∧ ¬ ((1 : Int32) - c) < 0 ∧ (c + (1 : Int32)).toNatClampNeg + ((1 : Int32) - c).toNatClampNeg ≤ (3 : Int32).toNatClampNeg ∧ c.toNatClampNeg + ((1 : Int32) - c).toNatClampNeg ≤ (3 : Int32).toNatClampNeg ∧ (([(.int u0), (.int u1), (.int u2)] : List Value).take c.toNatClampNeg ++ ((List.range ((1 : Int32) - c).toNatClampNeg).map fun i => ([(.int u0), (.int u1), (.int u2)] : List Value).getD ((c + (1 : Int32)).toNatClampNeg + i) (.int (0 : Int32))) ++ ([(.int u0), (.int u1), (.int u2)] : List Value).drop (c.toNatClampNeg + ((1 : Int32) - c).toNatClampNeg)) = [(.int (own_sh c (0 : Int32) u0 u1)), (.int u1), (.int u2)] := by
  rcases h with rfl | rfl <;> exact ⟨by decide, by decide, by decide, by decide, by decide, rfl⟩
def own_d3_2 (k : Nat) : Int32 := Int32.ofNat (k / 1 % 1)
theorem own_dd3_2 : ∀ k : Fin 6, own_d3_2 k.val = (0 : Int32) := by decide +kernel
theorem own_pin3_2 {c : Int32} (h : c = (0 : Int32)) : ¬ c < 0 ∧ c < (3 : Int32) := by
  rcases h with rfl <;> decide
theorem own_nl3_2 {c u0 u1 u2 : Int32} (h : c = (0 : Int32)) : ([(.int u0), (.int u1), (.int u2)] : List Value).getD c.toNatClampNeg (.int (0 : Int32)) = .int (own_nth3 c u0 u1 u2) := by
  rcases h with rfl <;> rfl
theorem own_cp3_2 {c u0 u1 u2 : Int32} (h : c = (0 : Int32)) : ¬ (c + (1 : Int32)) < 0 ∧ ¬ c < 0 ∧ ¬ ((0 : Int32) - c) < 0 ∧ (c + (1 : Int32)).toNatClampNeg + ((0 : Int32) - c).toNatClampNeg ≤ (3 : Int32).toNatClampNeg ∧ c.toNatClampNeg + ((0 : Int32) - c).toNatClampNeg ≤ (3 : Int32).toNatClampNeg ∧ (([(.int u0), (.int u1), (.int u2)] : List Value).take c.toNatClampNeg ++ ((List.range ((0 : Int32) - c).toNatClampNeg).map fun i => ([(.int u0), (.int u1), (.int u2)] : List Value).getD ((c + (1 : Int32)).toNatClampNeg + i) (.int (0 : Int32))) ++ ([(.int u0), (.int u1), (.int u2)] : List Value).drop (c.toNatClampNeg + ((0 : Int32) - c).toNatClampNeg)) = [(.int u0), (.int u1), (.int u2)] := by
  rcases h with rfl <;> exact ⟨by decide, by decide, by decide, by decide, by decide, rfl⟩
def own_tP3 (kk c0 c1 c2 : Int32) (P : List Int32) : List Int32 :=
  let t0 := own_nth3 c0 (0 : Int32) (1 : Int32) (2 : Int32)
  let v0_0 := own_sh c0 (0 : Int32) (0 : Int32) (1 : Int32)
  let v0_1 := own_sh c0 (1 : Int32) (1 : Int32) (2 : Int32)
  let t1 := own_nth3 c1 v0_0 v0_1 (2 : Int32)
  let v1_0 := own_sh c1 (0 : Int32) v0_0 v0_1
  let t2 := own_nth3 c2 v1_0 v0_1 (2 : Int32)
  (((P.set ((t0 * (6 : Int32)) + kk).toNatClampNeg (0 : Int32)).set ((t1 * (6 : Int32)) + kk).toNatClampNeg (1 : Int32)).set ((t2 * (6 : Int32)) + kk).toNatClampNeg (2 : Int32))
def own_tS3 (kk c0 c1 c2 : Int32) (S : List Int32) : List Int32 := ((S.set ((kk * (2 : Int32)) + (0 : Int32)).toNatClampNeg (own_sw kk c0 c1 (2 : Int32) (1 : Int32))).set ((kk * (2 : Int32)) + (1 : Int32)).toNatClampNeg (own_sw kk c1 c2 (1 : Int32) (1 : Int32)))
def own_P3 : Nat → List Int32
  | 0 => List.replicate 18 0
  | j + 1 => own_tP3 (Int32.ofNat j) (own_d3_0 j) (own_d3_1 j) (own_d3_2 j) (own_P3 j)
def own_S3 : Nat → List Int32
  | 0 => List.replicate 12 0
  | j + 1 => own_tS3 (Int32.ofNat j) (own_d3_0 j) (own_d3_1 j) (own_d3_2 j) (own_S3 j)
def own_PL3 : List Int32 := [0, 0, 1, 2, 1, 2, 1, 2, 0, 0, 2, 1, 2, 1, 2, 1, 0, 0]
def own_SL3 : List Int32 := [2, 1, 4, 0, 0, 3, 5, 2, 1, 5, 3, 4]
set_option maxRecDepth 65536 in
theorem own_PE3 : own_P3 6 = own_PL3 := by decide +kernel
set_option maxRecDepth 65536 in
theorem own_SE3 : own_S3 6 = own_SL3 := by decide +kernel
theorem own_in3_0 : ∀ k : Fin 6, (own_d3_1 k.val < (1 : Int32)) → own_d3_0 k.val = own_d3_0 (k.val + 1) ∧ own_d3_1 k.val + (1 : Int32) = own_d3_1 (k.val + 1) ∧ own_d3_2 k.val = own_d3_2 (k.val + 1) := by decide +kernel
theorem own_in3_1 : ∀ k : Fin 6, (¬ (own_d3_1 k.val < (1 : Int32))) → (own_d3_0 k.val < (2 : Int32)) → own_d3_0 k.val + (1 : Int32) = own_d3_0 (k.val + 1) ∧ (0 : Int32) = own_d3_1 (k.val + 1) ∧ own_d3_2 k.val = own_d3_2 (k.val + 1) := by decide +kernel
theorem own_in3_2 : ∀ k : Fin 6, (¬ (own_d3_1 k.val < (1 : Int32))) → (¬ (own_d3_0 k.val < (2 : Int32))) → (0 : Int32) = own_d3_0 (k.val + 1) ∧ (0 : Int32) = own_d3_1 (k.val + 1) ∧ own_d3_2 k.val = own_d3_2 (k.val + 1) := by decide +kernel
theorem own_kb3 (k : Fin 6) : own_bd 6 (Int32.ofNat k.val) ∧ Int32.ofNat k.val < (6 : Int32) := by
  have h := k.isLt; have e := own_ofNat (j := k.val) (by omega); refine ⟨⟨by omega, by omega⟩, ?_⟩
  rw [Int32.lt_iff_toInt_lt, e]; show _ < (6 : Int); omega
set_option maxRecDepth 65536 in
set_option maxHeartbeats 40000000 in
theorem rmSw3_0 (l : Launch) (Z : State) (a0 : Array Value) (hw : ∀ d ∈ tables_1, d.before a0 Z = true) (ws : List Jvm.Cond) (kk : Int32) (b1 b2 : Addr) (k1 k2 : ClassId) (c0 c1 c2 : Int32) (h0 : Heap) (n0 : Nat) (O0 : Old Z n0 h0) (Vc : Arv Z h0 b1 k1 .int (3 : Int32) [(.int c0), (.int c1), (.int c2)] (.int (0 : Int32))) (Vp : Arv Z h0 b2 k2 .int (3 : Int32) [(.int (2 : Int32)), (.int (1 : Int32)), (.int (1 : Int32))] (.int (0 : Int32))) :
    MetFree l (⟨"com/example/frontward/frontward/offline/Orderings", "swapped", "(I[I[II)I"⟩ : MethodName) (head1 (Jvm.Cond.code (⟨"com/example/frontward/frontward/offline/Orderings", "swapped", "(I[I[II)I"⟩ : MethodName) prog_26_method_2_code 6 (some .int) :: ws) ({ frames := 0, cells := 0, slots := 0, locals := 0 } : Room)) (fun a U => a = #[(.int kk), (.ref b1), (.ref b2), (.int (0 : Int32))] ∧ Z.Warmed39 U.vm ∧ U.heap = h0) (fun _ _ _ _ _ => True) (fun _ U o U' => ∃ v L, o = .returned v ∧ Q_g (own_sw kk c0 c1 (2 : Int32) (1 : Int32)) h0 n0 v U'.heap L ∧ FrameEnd U o U' L ({ frames := 0, cells := 0, slots := 0, locals := 0 } : Room).cells ({ frames := 0, cells := 0, slots := 0, locals := 0 } : Room).slots) := by
  refine MetFree.of_bodySF (plainFor_of_name pn_0) hisR ?_
  intro p e s m args below meth c s₁ Bd hml0 hP hK
  obtain ⟨rfl, hZ, hh⟩ := hP
  have hx := Bd.exec
  have hby := Bd.bytes
  have hml : c.maxLocals = 6 := hml0
  have hown : s.vm.findClass "com/example/frontward/frontward/offline/Orderings" = some m.cls := findClass_of_methodNamed Bd.named
  have hnm := (name_of_methodNamed Bd.named Bd.method).1
  have X0 : Stand p l e ({ frames := 0, cells := 0, slots := 0, locals := 0 } : Room) s m #[(.int kk), (.ref b1), (.ref b2), (.int (0 : Int32))] below meth c s₁ [] 0 0 := Stand.of_body Bd
  have e0 : s₁.heap = h0 := by rw [← hh, Bd.state]; rfl
  have N0 := Fr.nil n0
  have pre0 : ∀ t, Steps p.tables e below (s₁.setTop (mkF m 0 #[.val (.int kk), .val (.ref b1), .val (.ref b2), .val (.int (0 : Int32)), .unset, .unset] [])) t → Steps p.tables e below (s₁.setTop (entryFrame m #[(.int kk), (.ref b1), (.ref b2), (.int (0 : Int32))] 6)) t := fun t k => castTop (ef_3 m kk b1 b2 (0 : Int32)) k
  obtain ⟨cl101, Ar101, q101, S101, N101_, H101, G101⟩ := id Vc
  have hin101 : ¬ ((0 : Int32) < 0 ∨ cl101.slots.size ≤ ((0 : Int32)).toNatClampNeg) := inb_of S101 ⟨by decide, by decide⟩
  have hat101 : cl101.slots[((0 : Int32)).toNatClampNeg]? = some (.int c0) := H101.at hin101 rfl
  obtain ⟨cl102, Ar102, q102, S102, N102_, H102, G102⟩ := id Vc
  have hin102 : ¬ ((1 : Int32) < 0 ∨ cl102.slots.size ≤ ((1 : Int32)).toNatClampNeg) := inb_of S102 ⟨by decide, by decide⟩
  have hat102 : cl102.slots[((1 : Int32)).toNatClampNeg]? = some (.int c1) := H102.at hin102 rfl
  have pre103 : ∀ t, Steps p.tables e below (s₁.setTop (mkF m 16 #[.val (.int kk), .val (.ref b1), .val (.ref b2), .val (.int (0 : Int32)), .val (.int c0), .val (.int c1)] [(.int c1), (.int c0)])) t → Steps p.tables e below (s₁.setTop (entryFrame m #[(.int kk), (.ref b1), (.ref b2), (.int (0 : Int32))] 6)) t := fun t kt => pre0 t (by
      show Steps p.tables e below (s₁.setTop (mkF m 0 #[.val (.int kk), .val (.ref b1), .val (.ref b2), .val (.int (0 : Int32)), .unset, .unset] [])) _
      refine XS.aloadN X0.here hx rfl (hb hby dc4_0) rfl rfl ?_
      refine XS.iloadN X0.here hx rfl (hb hby dc4_1) rfl ?_
      refine X0.iaload hx (j := (0 : Int32)) (v := (.int c0)) (by rw [e0]; exact Ar101.1) (State.isArrayOf_alike hZ.alike Ar101.2.1) Ar101.2.2 hin101 hat101 (g := (mkF m 2 #[.val (.int kk), .val (.ref b1), .val (.ref b2), .val (.int (0 : Int32)), .unset, .unset] [(.int (0 : Int32)), (.ref b1)])) rfl rfl (hb hby dc4_2) _ ?_
      refine XS.istore X0.here hx rfl (hb hby dc4_3) rfl (l' := #[.val (.int kk), .val (.ref b1), .val (.ref b2), .val (.int (0 : Int32)), .val (.int c0), .unset]) rfl ?_
      refine XS.aloadN X0.here hx rfl (hb hby dc4_5) rfl rfl ?_
      refine XS.iloadN X0.here hx rfl (hb hby dc4_6) rfl ?_
      refine XS.iconst X0.here hx rfl (hb hby dc4_7) ?_
      refine XS.iadd X0.here hx rfl (hb hby dc4_8) rfl ?_
      refine X0.iaload hx (j := (1 : Int32)) (v := (.int c1)) (by rw [e0]; exact Ar102.1) (State.isArrayOf_alike hZ.alike Ar102.2.1) Ar102.2.2 hin102 hat102 (g := (mkF m 9 #[.val (.int kk), .val (.ref b1), .val (.ref b2), .val (.int (0 : Int32)), .val (.int c0), .unset] [(.int (1 : Int32)), (.ref b1)])) rfl rfl (hb hby dc4_9) _ ?_
      refine XS.istore X0.here hx rfl (hb hby dc4_10) rfl (l' := #[.val (.int kk), .val (.ref b1), .val (.ref b2), .val (.int (0 : Int32)), .val (.int c0), .val (.int c1)]) rfl ?_
      refine XS.iload X0.here hx rfl (hb hby dc4_12) rfl ?_
      refine XS.iload X0.here hx rfl (hb hby dc4_14) rfl ?_
      exact kt)
  by_cases hc104 : c1 < c0
  · skip
    obtain ⟨cl105, Ar105, q105, S105, N105_, H105, G105⟩ := id Vp
    have hin105 : ¬ ((0 : Int32) < 0 ∨ cl105.slots.size ≤ ((0 : Int32)).toNatClampNeg) := inb_of S105 ⟨by decide, by decide⟩
    have hat105 : cl105.slots[((0 : Int32)).toNatClampNeg]? = some (.int (2 : Int32)) := H105.at hin105 rfl
    obtain ⟨cl106, Ar106, q106, S106, N106_, H106, G106⟩ := id Vp
    have hin106 : ¬ ((1 : Int32) < 0 ∨ cl106.slots.size ≤ ((1 : Int32)).toNatClampNeg) := inb_of S106 ⟨by decide, by decide⟩
    have hat106 : cl106.slots[((1 : Int32)).toNatClampNeg]? = some (.int (1 : Int32)) := H106.at hin106 rfl
    obtain ⟨fs, hr, hrun, hended, hW, hsame⟩ := X0.leave (v := some (.int ((kk + ((c1 - c0) * (2 : Int32))) + (((c0 - (1 : Int32)) - c1) * (1 : Int32))))) (fun h => by rw [Bd.returns] at h; cases h)
    refine ⟨_, _, pre103 _ ?_, hrun, hended, _, _, rfl, ?_, ⟨_, rfl⟩, hW, hsame.mono (by decide) (by decide)⟩
    · skip
      show Steps p.tables e below (s₁.setTop (mkF m 16 #[.val (.int kk), .val (.ref b1), .val (.ref b2), .val (.int (0 : Int32)), .val (.int c0), .val (.int c1)] [(.int c1), (.int c0)])) _
      refine XS.icmpYes X0.here hx rfl (pc0 := 16) (pc' := 45) rfl (hb hby dc4_16) rfl (tlt hc104).2.2.1 (by decide) (by decide) ?_
      refine XS.iloadN X0.here hx rfl (hb hby dc4_45) rfl ?_
      show Steps p.tables e below (s₁.setTop (mkF m 46 #[.val (.int kk), .val (.ref b1), .val (.ref b2), .val (.int (0 : Int32)), .val (.int c0), .val (.int c1)] [(.int kk)])) _
      refine XS.iload X0.here hx rfl (hb hby dc4_46) rfl ?_
      refine XS.iload X0.here hx rfl (hb hby dc4_48) rfl ?_
      refine XS.isub X0.here hx rfl (hb hby dc4_50) rfl ?_
      refine XS.aloadN X0.here hx rfl (hb hby dc4_51) rfl rfl ?_
      refine XS.iloadN X0.here hx rfl (hb hby dc4_52) rfl ?_
      refine X0.iaload hx (j := (0 : Int32)) (v := (.int (2 : Int32))) (by rw [e0]; exact Ar105.1) (State.isArrayOf_alike hZ.alike Ar105.2.1) Ar105.2.2 hin105 hat105 (g := (mkF m 53 #[.val (.int kk), .val (.ref b1), .val (.ref b2), .val (.int (0 : Int32)), .val (.int c0), .val (.int c1)] [(.int (0 : Int32)), (.ref b2), (.int (c1 - c0)), (.int kk)])) rfl rfl (hb hby dc4_53) _ ?_
      refine XS.imul X0.here hx rfl (hb hby dc4_54) rfl ?_
      refine XS.iadd X0.here hx rfl (hb hby dc4_55) rfl ?_
      refine XS.iload X0.here hx rfl (hb hby dc4_56) rfl ?_
      refine XS.iconst X0.here hx rfl (hb hby dc4_58) ?_
      refine XS.isub X0.here hx rfl (hb hby dc4_59) rfl ?_
      refine XS.iload X0.here hx rfl (hb hby dc4_60) rfl ?_
      refine XS.isub X0.here hx rfl (hb hby dc4_62) rfl ?_
      refine XS.aloadN X0.here hx rfl (hb hby dc4_63) rfl rfl ?_
      refine XS.iloadN X0.here hx rfl (hb hby dc4_64) rfl ?_
      refine XS.iconst X0.here hx rfl (hb hby dc4_65) ?_
      refine XS.iadd X0.here hx rfl (hb hby dc4_66) rfl ?_
      refine X0.iaload hx (j := (1 : Int32)) (v := (.int (1 : Int32))) (by rw [e0]; exact Ar106.1) (State.isArrayOf_alike hZ.alike Ar106.2.1) Ar106.2.2 hin106 hat106 (g := (mkF m 67 #[.val (.int kk), .val (.ref b1), .val (.ref b2), .val (.int (0 : Int32)), .val (.int c0), .val (.int c1)] [(.int (1 : Int32)), (.ref b2), (.int ((c0 - (1 : Int32)) - c1)), (.int (kk + ((c1 - c0) * (2 : Int32))))])) rfl rfl (hb hby dc4_67) _ ?_
      refine XS.imul X0.here hx rfl (hb hby dc4_68) rfl ?_
      refine XS.iadd X0.here hx rfl (hb hby dc4_69) rfl ?_
      show Steps p.tables e below (s₁.setTop (mkF m 70 #[.val (.int kk), .val (.ref b1), .val (.ref b2), .val (.int (0 : Int32)), .val (.int c0), .val (.int c1)] [(.int ((kk + ((c1 - c0) * (2 : Int32))) + (((c0 - (1 : Int32)) - c1) * (1 : Int32))))])) _
      exact retI X0 hx Bd.returns (hb hby dc4_70) hr
    · show Q_g (own_sw kk c0 c1 (2 : Int32) (1 : Int32)) h0 n0 _ s₁.heap _
      rw [e0]
      exact ⟨by simp [own_sw, hc104], N0, rfl⟩
  · skip
    obtain ⟨cl107, Ar107, q107, S107, N107_, H107, G107⟩ := id Vp
    have hin107 : ¬ ((0 : Int32) < 0 ∨ cl107.slots.size ≤ ((0 : Int32)).toNatClampNeg) := inb_of S107 ⟨by decide, by decide⟩
    have hat107 : cl107.slots[((0 : Int32)).toNatClampNeg]? = some (.int (2 : Int32)) := H107.at hin107 rfl
    obtain ⟨cl108, Ar108, q108, S108, N108_, H108, G108⟩ := id Vp
    have hin108 : ¬ ((1 : Int32) < 0 ∨ cl108.slots.size ≤ ((1 : Int32)).toNatClampNeg) := inb_of S108 ⟨by decide, by decide⟩
    have hat108 : cl108.slots[((1 : Int32)).toNatClampNeg]? = some (.int (1 : Int32)) := H108.at hin108 rfl
    obtain ⟨fs, hr, hrun, hended, hW, hsame⟩ := X0.leave (v := some (.int ((kk + (((c1 + (1 : Int32)) - c0) * (2 : Int32))) + ((c0 - c1) * (1 : Int32))))) (fun h => by rw [Bd.returns] at h; cases h)
    refine ⟨_, _, pre103 _ ?_, hrun, hended, _, _, rfl, ?_, ⟨_, rfl⟩, hW, hsame.mono (by decide) (by decide)⟩
    · skip
      show Steps p.tables e below (s₁.setTop (mkF m 16 #[.val (.int kk), .val (.ref b1), .val (.ref b2), .val (.int (0 : Int32)), .val (.int c0), .val (.int c1)] [(.int c1), (.int c0)])) _
      refine XS.icmpNo X0.here hx rfl (hb hby dc4_16) rfl (flt hc104).2.2.1 ?_
      refine XS.iloadN X0.here hx rfl (hb hby dc4_19) rfl ?_
      refine XS.iload X0.here hx rfl (hb hby dc4_20) rfl ?_
      refine XS.iconst X0.here hx rfl (hb hby dc4_22) ?_
      show Steps p.tables e below (s₁.setTop (mkF m 23 #[.val (.int kk), .val (.ref b1), .val (.ref b2), .val (.int (0 : Int32)), .val (.int c0), .val (.int c1)] [(.int (1 : Int32)), (.int c1), (.int kk)])) _
      refine XS.iadd X0.here hx rfl (hb hby dc4_23) rfl ?_
      refine XS.iload X0.here hx rfl (hb hby dc4_24) rfl ?_
      refine XS.isub X0.here hx rfl (hb hby dc4_26) rfl ?_
      refine XS.aloadN X0.here hx rfl (hb hby dc4_27) rfl rfl ?_
      refine XS.iloadN X0.here hx rfl (hb hby dc4_28) rfl ?_
      refine X0.iaload hx (j := (0 : Int32)) (v := (.int (2 : Int32))) (by rw [e0]; exact Ar107.1) (State.isArrayOf_alike hZ.alike Ar107.2.1) Ar107.2.2 hin107 hat107 (g := (mkF m 29 #[.val (.int kk), .val (.ref b1), .val (.ref b2), .val (.int (0 : Int32)), .val (.int c0), .val (.int c1)] [(.int (0 : Int32)), (.ref b2), (.int ((c1 + (1 : Int32)) - c0)), (.int kk)])) rfl rfl (hb hby dc4_29) _ ?_
      refine XS.imul X0.here hx rfl (hb hby dc4_30) rfl ?_
      refine XS.iadd X0.here hx rfl (hb hby dc4_31) rfl ?_
      refine XS.iload X0.here hx rfl (hb hby dc4_32) rfl ?_
      refine XS.iload X0.here hx rfl (hb hby dc4_34) rfl ?_
      refine XS.isub X0.here hx rfl (hb hby dc4_36) rfl ?_
      refine XS.aloadN X0.here hx rfl (hb hby dc4_37) rfl rfl ?_
      refine XS.iloadN X0.here hx rfl (hb hby dc4_38) rfl ?_
      refine XS.iconst X0.here hx rfl (hb hby dc4_39) ?_
      refine XS.iadd X0.here hx rfl (hb hby dc4_40) rfl ?_
      refine X0.iaload hx (j := (1 : Int32)) (v := (.int (1 : Int32))) (by rw [e0]; exact Ar108.1) (State.isArrayOf_alike hZ.alike Ar108.2.1) Ar108.2.2 hin108 hat108 (g := (mkF m 41 #[.val (.int kk), .val (.ref b1), .val (.ref b2), .val (.int (0 : Int32)), .val (.int c0), .val (.int c1)] [(.int (1 : Int32)), (.ref b2), (.int (c0 - c1)), (.int (kk + (((c1 + (1 : Int32)) - c0) * (2 : Int32))))])) rfl rfl (hb hby dc4_41) _ ?_
      refine XS.imul X0.here hx rfl (hb hby dc4_42) rfl ?_
      refine XS.iadd X0.here hx rfl (hb hby dc4_43) rfl ?_
      show Steps p.tables e below (s₁.setTop (mkF m 44 #[.val (.int kk), .val (.ref b1), .val (.ref b2), .val (.int (0 : Int32)), .val (.int c0), .val (.int c1)] [(.int ((kk + (((c1 + (1 : Int32)) - c0) * (2 : Int32))) + ((c0 - c1) * (1 : Int32))))])) _
      exact retI X0 hx Bd.returns (hb hby dc4_44) hr
    · show Q_g (own_sw kk c0 c1 (2 : Int32) (1 : Int32)) h0 n0 _ s₁.heap _
      rw [e0]
      exact ⟨by simp [own_sw, hc104], N0, rfl⟩
set_option maxRecDepth 65536 in
set_option maxHeartbeats 40000000 in
theorem rmSw3_1 (l : Launch) (Z : State) (a0 : Array Value) (hw : ∀ d ∈ tables_1, d.before a0 Z = true) (ws : List Jvm.Cond) (kk : Int32) (b1 b2 : Addr) (k1 k2 : ClassId) (c0 c1 c2 : Int32) (h0 : Heap) (n0 : Nat) (O0 : Old Z n0 h0) (Vc : Arv Z h0 b1 k1 .int (3 : Int32) [(.int c0), (.int c1), (.int c2)] (.int (0 : Int32))) (Vp : Arv Z h0 b2 k2 .int (3 : Int32) [(.int (2 : Int32)), (.int (1 : Int32)), (.int (1 : Int32))] (.int (0 : Int32))) :
    MetFree l (⟨"com/example/frontward/frontward/offline/Orderings", "swapped", "(I[I[II)I"⟩ : MethodName) (head1 (Jvm.Cond.code (⟨"com/example/frontward/frontward/offline/Orderings", "swapped", "(I[I[II)I"⟩ : MethodName) prog_26_method_2_code 6 (some .int) :: ws) ({ frames := 0, cells := 0, slots := 0, locals := 0 } : Room)) (fun a U => a = #[(.int kk), (.ref b1), (.ref b2), (.int (1 : Int32))] ∧ Z.Warmed39 U.vm ∧ U.heap = h0) (fun _ _ _ _ _ => True) (fun _ U o U' => ∃ v L, o = .returned v ∧ Q_g (own_sw kk c1 c2 (1 : Int32) (1 : Int32)) h0 n0 v U'.heap L ∧ FrameEnd U o U' L ({ frames := 0, cells := 0, slots := 0, locals := 0 } : Room).cells ({ frames := 0, cells := 0, slots := 0, locals := 0 } : Room).slots) := by
  refine MetFree.of_bodySF (plainFor_of_name pn_0) hisR ?_
  intro p e s m args below meth c s₁ Bd hml0 hP hK
  obtain ⟨rfl, hZ, hh⟩ := hP
  have hx := Bd.exec
  have hby := Bd.bytes
  have hml : c.maxLocals = 6 := hml0
  have hown : s.vm.findClass "com/example/frontward/frontward/offline/Orderings" = some m.cls := findClass_of_methodNamed Bd.named
  have hnm := (name_of_methodNamed Bd.named Bd.method).1
  have X0 : Stand p l e ({ frames := 0, cells := 0, slots := 0, locals := 0 } : Room) s m #[(.int kk), (.ref b1), (.ref b2), (.int (1 : Int32))] below meth c s₁ [] 0 0 := Stand.of_body Bd
  have e0 : s₁.heap = h0 := by rw [← hh, Bd.state]; rfl
  have N0 := Fr.nil n0
  have pre0 : ∀ t, Steps p.tables e below (s₁.setTop (mkF m 0 #[.val (.int kk), .val (.ref b1), .val (.ref b2), .val (.int (1 : Int32)), .unset, .unset] [])) t → Steps p.tables e below (s₁.setTop (entryFrame m #[(.int kk), (.ref b1), (.ref b2), (.int (1 : Int32))] 6)) t := fun t k => castTop (ef_3 m kk b1 b2 (1 : Int32)) k
  obtain ⟨cl101, Ar101, q101, S101, N101_, H101, G101⟩ := id Vc
  have hin101 : ¬ ((1 : Int32) < 0 ∨ cl101.slots.size ≤ ((1 : Int32)).toNatClampNeg) := inb_of S101 ⟨by decide, by decide⟩
  have hat101 : cl101.slots[((1 : Int32)).toNatClampNeg]? = some (.int c1) := H101.at hin101 rfl
  obtain ⟨cl102, Ar102, q102, S102, N102_, H102, G102⟩ := id Vc
  have hin102 : ¬ ((2 : Int32) < 0 ∨ cl102.slots.size ≤ ((2 : Int32)).toNatClampNeg) := inb_of S102 ⟨by decide, by decide⟩
  have hat102 : cl102.slots[((2 : Int32)).toNatClampNeg]? = some (.int c2) := H102.at hin102 rfl
  have pre103 : ∀ t, Steps p.tables e below (s₁.setTop (mkF m 16 #[.val (.int kk), .val (.ref b1), .val (.ref b2), .val (.int (1 : Int32)), .val (.int c1), .val (.int c2)] [(.int c2), (.int c1)])) t → Steps p.tables e below (s₁.setTop (entryFrame m #[(.int kk), (.ref b1), (.ref b2), (.int (1 : Int32))] 6)) t := fun t kt => pre0 t (by
      show Steps p.tables e below (s₁.setTop (mkF m 0 #[.val (.int kk), .val (.ref b1), .val (.ref b2), .val (.int (1 : Int32)), .unset, .unset] [])) _
      refine XS.aloadN X0.here hx rfl (hb hby dc4_0) rfl rfl ?_
      refine XS.iloadN X0.here hx rfl (hb hby dc4_1) rfl ?_
      refine X0.iaload hx (j := (1 : Int32)) (v := (.int c1)) (by rw [e0]; exact Ar101.1) (State.isArrayOf_alike hZ.alike Ar101.2.1) Ar101.2.2 hin101 hat101 (g := (mkF m 2 #[.val (.int kk), .val (.ref b1), .val (.ref b2), .val (.int (1 : Int32)), .unset, .unset] [(.int (1 : Int32)), (.ref b1)])) rfl rfl (hb hby dc4_2) _ ?_
      refine XS.istore X0.here hx rfl (hb hby dc4_3) rfl (l' := #[.val (.int kk), .val (.ref b1), .val (.ref b2), .val (.int (1 : Int32)), .val (.int c1), .unset]) rfl ?_
      refine XS.aloadN X0.here hx rfl (hb hby dc4_5) rfl rfl ?_
      refine XS.iloadN X0.here hx rfl (hb hby dc4_6) rfl ?_
      refine XS.iconst X0.here hx rfl (hb hby dc4_7) ?_
      refine XS.iadd X0.here hx rfl (hb hby dc4_8) rfl ?_
      refine X0.iaload hx (j := (2 : Int32)) (v := (.int c2)) (by rw [e0]; exact Ar102.1) (State.isArrayOf_alike hZ.alike Ar102.2.1) Ar102.2.2 hin102 hat102 (g := (mkF m 9 #[.val (.int kk), .val (.ref b1), .val (.ref b2), .val (.int (1 : Int32)), .val (.int c1), .unset] [(.int (2 : Int32)), (.ref b1)])) rfl rfl (hb hby dc4_9) _ ?_
      refine XS.istore X0.here hx rfl (hb hby dc4_10) rfl (l' := #[.val (.int kk), .val (.ref b1), .val (.ref b2), .val (.int (1 : Int32)), .val (.int c1), .val (.int c2)]) rfl ?_
      refine XS.iload X0.here hx rfl (hb hby dc4_12) rfl ?_
      refine XS.iload X0.here hx rfl (hb hby dc4_14) rfl ?_
      exact kt)
  by_cases hc104 : c2 < c1
  · skip
    obtain ⟨cl105, Ar105, q105, S105, N105_, H105, G105⟩ := id Vp
    have hin105 : ¬ ((1 : Int32) < 0 ∨ cl105.slots.size ≤ ((1 : Int32)).toNatClampNeg) := inb_of S105 ⟨by decide, by decide⟩
    have hat105 : cl105.slots[((1 : Int32)).toNatClampNeg]? = some (.int (1 : Int32)) := H105.at hin105 rfl
    obtain ⟨cl106, Ar106, q106, S106, N106_, H106, G106⟩ := id Vp
    have hin106 : ¬ ((2 : Int32) < 0 ∨ cl106.slots.size ≤ ((2 : Int32)).toNatClampNeg) := inb_of S106 ⟨by decide, by decide⟩
    have hat106 : cl106.slots[((2 : Int32)).toNatClampNeg]? = some (.int (1 : Int32)) := H106.at hin106 rfl
    obtain ⟨fs, hr, hrun, hended, hW, hsame⟩ := X0.leave (v := some (.int ((kk + ((c2 - c1) * (1 : Int32))) + (((c1 - (1 : Int32)) - c2) * (1 : Int32))))) (fun h => by rw [Bd.returns] at h; cases h)
    refine ⟨_, _, pre103 _ ?_, hrun, hended, _, _, rfl, ?_, ⟨_, rfl⟩, hW, hsame.mono (by decide) (by decide)⟩
    · skip
      show Steps p.tables e below (s₁.setTop (mkF m 16 #[.val (.int kk), .val (.ref b1), .val (.ref b2), .val (.int (1 : Int32)), .val (.int c1), .val (.int c2)] [(.int c2), (.int c1)])) _
      refine XS.icmpYes X0.here hx rfl (pc0 := 16) (pc' := 45) rfl (hb hby dc4_16) rfl (tlt hc104).2.2.1 (by decide) (by decide) ?_
      refine XS.iloadN X0.here hx rfl (hb hby dc4_45) rfl ?_
      show Steps p.tables e below (s₁.setTop (mkF m 46 #[.val (.int kk), .val (.ref b1), .val (.ref b2), .val (.int (1 : Int32)), .val (.int c1), .val (.int c2)] [(.int kk)])) _
      refine XS.iload X0.here hx rfl (hb hby dc4_46) rfl ?_
      refine XS.iload X0.here hx rfl (hb hby dc4_48) rfl ?_
      refine XS.isub X0.here hx rfl (hb hby dc4_50) rfl ?_
      refine XS.aloadN X0.here hx rfl (hb hby dc4_51) rfl rfl ?_
      refine XS.iloadN X0.here hx rfl (hb hby dc4_52) rfl ?_
      refine X0.iaload hx (j := (1 : Int32)) (v := (.int (1 : Int32))) (by rw [e0]; exact Ar105.1) (State.isArrayOf_alike hZ.alike Ar105.2.1) Ar105.2.2 hin105 hat105 (g := (mkF m 53 #[.val (.int kk), .val (.ref b1), .val (.ref b2), .val (.int (1 : Int32)), .val (.int c1), .val (.int c2)] [(.int (1 : Int32)), (.ref b2), (.int (c2 - c1)), (.int kk)])) rfl rfl (hb hby dc4_53) _ ?_
      refine XS.imul X0.here hx rfl (hb hby dc4_54) rfl ?_
      refine XS.iadd X0.here hx rfl (hb hby dc4_55) rfl ?_
      refine XS.iload X0.here hx rfl (hb hby dc4_56) rfl ?_
      refine XS.iconst X0.here hx rfl (hb hby dc4_58) ?_
      refine XS.isub X0.here hx rfl (hb hby dc4_59) rfl ?_
      refine XS.iload X0.here hx rfl (hb hby dc4_60) rfl ?_
      refine XS.isub X0.here hx rfl (hb hby dc4_62) rfl ?_
      refine XS.aloadN X0.here hx rfl (hb hby dc4_63) rfl rfl ?_
      refine XS.iloadN X0.here hx rfl (hb hby dc4_64) rfl ?_
      refine XS.iconst X0.here hx rfl (hb hby dc4_65) ?_
      refine XS.iadd X0.here hx rfl (hb hby dc4_66) rfl ?_
      refine X0.iaload hx (j := (2 : Int32)) (v := (.int (1 : Int32))) (by rw [e0]; exact Ar106.1) (State.isArrayOf_alike hZ.alike Ar106.2.1) Ar106.2.2 hin106 hat106 (g := (mkF m 67 #[.val (.int kk), .val (.ref b1), .val (.ref b2), .val (.int (1 : Int32)), .val (.int c1), .val (.int c2)] [(.int (2 : Int32)), (.ref b2), (.int ((c1 - (1 : Int32)) - c2)), (.int (kk + ((c2 - c1) * (1 : Int32))))])) rfl rfl (hb hby dc4_67) _ ?_
      refine XS.imul X0.here hx rfl (hb hby dc4_68) rfl ?_
      refine XS.iadd X0.here hx rfl (hb hby dc4_69) rfl ?_
      show Steps p.tables e below (s₁.setTop (mkF m 70 #[.val (.int kk), .val (.ref b1), .val (.ref b2), .val (.int (1 : Int32)), .val (.int c1), .val (.int c2)] [(.int ((kk + ((c2 - c1) * (1 : Int32))) + (((c1 - (1 : Int32)) - c2) * (1 : Int32))))])) _
      exact retI X0 hx Bd.returns (hb hby dc4_70) hr
    · show Q_g (own_sw kk c1 c2 (1 : Int32) (1 : Int32)) h0 n0 _ s₁.heap _
      rw [e0]
      exact ⟨by simp [own_sw, hc104], N0, rfl⟩
  · skip
    obtain ⟨cl107, Ar107, q107, S107, N107_, H107, G107⟩ := id Vp
    have hin107 : ¬ ((1 : Int32) < 0 ∨ cl107.slots.size ≤ ((1 : Int32)).toNatClampNeg) := inb_of S107 ⟨by decide, by decide⟩
    have hat107 : cl107.slots[((1 : Int32)).toNatClampNeg]? = some (.int (1 : Int32)) := H107.at hin107 rfl
    obtain ⟨cl108, Ar108, q108, S108, N108_, H108, G108⟩ := id Vp
    have hin108 : ¬ ((2 : Int32) < 0 ∨ cl108.slots.size ≤ ((2 : Int32)).toNatClampNeg) := inb_of S108 ⟨by decide, by decide⟩
    have hat108 : cl108.slots[((2 : Int32)).toNatClampNeg]? = some (.int (1 : Int32)) := H108.at hin108 rfl
    obtain ⟨fs, hr, hrun, hended, hW, hsame⟩ := X0.leave (v := some (.int ((kk + (((c2 + (1 : Int32)) - c1) * (1 : Int32))) + ((c1 - c2) * (1 : Int32))))) (fun h => by rw [Bd.returns] at h; cases h)
    refine ⟨_, _, pre103 _ ?_, hrun, hended, _, _, rfl, ?_, ⟨_, rfl⟩, hW, hsame.mono (by decide) (by decide)⟩
    · skip
      show Steps p.tables e below (s₁.setTop (mkF m 16 #[.val (.int kk), .val (.ref b1), .val (.ref b2), .val (.int (1 : Int32)), .val (.int c1), .val (.int c2)] [(.int c2), (.int c1)])) _
      refine XS.icmpNo X0.here hx rfl (hb hby dc4_16) rfl (flt hc104).2.2.1 ?_
      refine XS.iloadN X0.here hx rfl (hb hby dc4_19) rfl ?_
      refine XS.iload X0.here hx rfl (hb hby dc4_20) rfl ?_
      refine XS.iconst X0.here hx rfl (hb hby dc4_22) ?_
      show Steps p.tables e below (s₁.setTop (mkF m 23 #[.val (.int kk), .val (.ref b1), .val (.ref b2), .val (.int (1 : Int32)), .val (.int c1), .val (.int c2)] [(.int (1 : Int32)), (.int c2), (.int kk)])) _
      refine XS.iadd X0.here hx rfl (hb hby dc4_23) rfl ?_
      refine XS.iload X0.here hx rfl (hb hby dc4_24) rfl ?_
      refine XS.isub X0.here hx rfl (hb hby dc4_26) rfl ?_
      refine XS.aloadN X0.here hx rfl (hb hby dc4_27) rfl rfl ?_
      refine XS.iloadN X0.here hx rfl (hb hby dc4_28) rfl ?_
      refine X0.iaload hx (j := (1 : Int32)) (v := (.int (1 : Int32))) (by rw [e0]; exact Ar107.1) (State.isArrayOf_alike hZ.alike Ar107.2.1) Ar107.2.2 hin107 hat107 (g := (mkF m 29 #[.val (.int kk), .val (.ref b1), .val (.ref b2), .val (.int (1 : Int32)), .val (.int c1), .val (.int c2)] [(.int (1 : Int32)), (.ref b2), (.int ((c2 + (1 : Int32)) - c1)), (.int kk)])) rfl rfl (hb hby dc4_29) _ ?_
      refine XS.imul X0.here hx rfl (hb hby dc4_30) rfl ?_
      refine XS.iadd X0.here hx rfl (hb hby dc4_31) rfl ?_
      refine XS.iload X0.here hx rfl (hb hby dc4_32) rfl ?_
      refine XS.iload X0.here hx rfl (hb hby dc4_34) rfl ?_
      refine XS.isub X0.here hx rfl (hb hby dc4_36) rfl ?_
      refine XS.aloadN X0.here hx rfl (hb hby dc4_37) rfl rfl ?_
      refine XS.iloadN X0.here hx rfl (hb hby dc4_38) rfl ?_
      refine XS.iconst X0.here hx rfl (hb hby dc4_39) ?_
      refine XS.iadd X0.here hx rfl (hb hby dc4_40) rfl ?_
      refine X0.iaload hx (j := (2 : Int32)) (v := (.int (1 : Int32))) (by rw [e0]; exact Ar108.1) (State.isArrayOf_alike hZ.alike Ar108.2.1) Ar108.2.2 hin108 hat108 (g := (mkF m 41 #[.val (.int kk), .val (.ref b1), .val (.ref b2), .val (.int (1 : Int32)), .val (.int c1), .val (.int c2)] [(.int (2 : Int32)), (.ref b2), (.int (c1 - c2)), (.int (kk + (((c2 + (1 : Int32)) - c1) * (1 : Int32))))])) rfl rfl (hb hby dc4_41) _ ?_
      refine XS.imul X0.here hx rfl (hb hby dc4_42) rfl ?_
      refine XS.iadd X0.here hx rfl (hb hby dc4_43) rfl ?_
      show Steps p.tables e below (s₁.setTop (mkF m 44 #[.val (.int kk), .val (.ref b1), .val (.ref b2), .val (.int (1 : Int32)), .val (.int c1), .val (.int c2)] [(.int ((kk + (((c2 + (1 : Int32)) - c1) * (1 : Int32))) + ((c1 - c2) * (1 : Int32))))])) _
      exact retI X0 hx Bd.returns (hb hby dc4_44) hr
    · show Q_g (own_sw kk c1 c2 (1 : Int32) (1 : Int32)) h0 n0 _ s₁.heap _
      rw [e0]
      exact ⟨by simp [own_sw, hc104], N0, rfl⟩
set_option maxRecDepth 65536 in
set_option maxHeartbeats 40000000 in
theorem tn3 {p : Program} {l : Launch} {e : Env} {s : State} {m : MethodId} {args : Array Value} {below : List Frame} {meth : Method} {c : Code} {T0 : State} {locs : List Loc} {Z : State} {a0 : Array Value} {h0 : Heap} {n0 : Nat} (a1 bv bp bs bc bu : Addr) (kv kc ku : ClassId) (w7 w8 : Slot) (k : Fin 6) (kk c0 c1 c2 q0 q1 q2 : Int32) (P S : List Int32)
    (X0 : Stand p l e ({ frames := 2, cells := 5, slots := 39, locals := 60 } : Room) s m args below meth c T0 locs 5 39) (hx : p.tables.exec = Jvm.exec) (hZ : Z.Warmed39 s.vm) (hw : ∀ d ∈ tables_1, d.before a0 Z = true) (hby : c.code = prog_26_method_1_code) (hml : c.maxLocals = 9) (hown : s.vm.findClass "com/example/frontward/frontward/offline/Orderings" = some m.cls) (e0 : T0.heap = h0) (N0 : Fr n0 locs) (O0 : Old Z n0 h0) (hw7 : One w7) (hw8 : One w8) (Eo : Exa Z h0 a1 "com/example/frontward/frontward/offline/Orderings") (Fi : Fld Z h0 a1 "com/example/frontward/frontward/offline/Orderings" "items" "I" (.int (3 : Int32))) (Fc : Fld Z h0 a1 "com/example/frontward/frontward/offline/Orderings" "count" "I" (.int (6 : Int32))) (Fp : Fld Z h0 a1 "com/example/frontward/frontward/offline/Orderings" "positions" "[B" (.ref bp)) (Fs : Fld Z h0 a1 "com/example/frontward/frontward/offline/Orderings" "swaps" "[I" (.ref bs)) (Vv : Arv Z h0 bv kv .int (3 : Int32) [(.int (2 : Int32)), (.int (1 : Int32)), (.int (1 : Int32))] (.int (0 : Int32))) (Vc : Arv Z h0 bc kc .int (3 : Int32) [(.int c0), (.int c1), (.int c2)] (.int (0 : Int32))) (Vu : Arv Z h0 bu ku .int (3 : Int32) [(.int q0), (.int q1), (.int q2)] (.int (0 : Int32))) (Lp : La Z h0 bp .byte (18 : Int32) P) (Ls : La Z h0 bs .int (12 : Int32) S) (ne_a1_bv : a1 ≠ bv) (ne_a1_bp : a1 ≠ bp) (ne_a1_bs : a1 ≠ bs) (ne_a1_bc : a1 ≠ bc) (ne_a1_bu : a1 ≠ bu) (ne_bv_bp : bv ≠ bp) (ne_bv_bs : bv ≠ bs) (ne_bv_bc : bv ≠ bc) (ne_bv_bu : bv ≠ bu) (ne_bp_bs : bp ≠ bs) (ne_bp_bc : bp ≠ bc) (ne_bp_bu : bp ≠ bu) (ne_bs_bc : bs ≠ bc) (ne_bs_bu : bs ≠ bu) (ne_bc_bu : bc ≠ bu) (g_bp : n0 ≤ bp) (g_bs : n0 ≤ bs) (g_bc : n0 ≤ bc) (g_bu : n0 ≤ bu) (hkk : kk = Int32.ofNat k.val) (hc0 : c0 = own_d3_0 k.val) (hc1 : c1 = own_d3_1 k.val) (hc2 : c2 = own_d3_2 k.val) :
    ∃ (T' : State) (h' : Heap) (L' : List Loc) (w7' w8' : Slot), Stand p l e ({ frames := 2, cells := 5, slots := 39, locals := 60 } : Room) s m args below meth c T' L' 5 39 ∧ T'.heap = h' ∧ Fr n0 L' ∧ Old Z n0 h' ∧ Keep h0 h' [bp, bs, bc, bu] ∧ Exa Z h' a1 "com/example/frontward/frontward/offline/Orderings" ∧ Fld Z h' a1 "com/example/frontward/frontward/offline/Orderings" "items" "I" (.int (3 : Int32)) ∧ Fld Z h' a1 "com/example/frontward/frontward/offline/Orderings" "count" "I" (.int (6 : Int32)) ∧ Fld Z h' a1 "com/example/frontward/frontward/offline/Orderings" "positions" "[B" (.ref bp) ∧ Fld Z h' a1 "com/example/frontward/frontward/offline/Orderings" "swaps" "[I" (.ref bs) ∧ Arv Z h' bv kv .int (3 : Int32) [(.int (2 : Int32)), (.int (1 : Int32)), (.int (1 : Int32))] (.int (0 : Int32)) ∧ Arv Z h' bc kc .int (3 : Int32) [(.int (own_d3_0 (k.val + 1))), (.int (own_d3_1 (k.val + 1))), (.int (own_d3_2 (k.val + 1)))] (.int (0 : Int32)) ∧ (∃ q0 q1 q2 : Int32, Arv Z h' bu ku .int (3 : Int32) [(.int q0), (.int q1), (.int q2)] (.int (0 : Int32))) ∧ La Z h' bp .byte (18 : Int32) (own_tP3 (Int32.ofNat k.val) (own_d3_0 k.val) (own_d3_1 k.val) (own_d3_2 k.val) P) ∧ La Z h' bs .int (12 : Int32) (own_tS3 (Int32.ofNat k.val) (own_d3_0 k.val) (own_d3_1 k.val) (own_d3_2 k.val) S) ∧ One w7' ∧ One w8' ∧ ∀ t, Steps p.tables e below (T'.setTop (mkF m 112 #[.val (.ref a1), .val (.int (3 : Int32)), .val (.ref bv), .val (.int (6 : Int32)), .val (.ref bc), .val (.ref bu), .val (.int (Int32.ofNat (k.val + 1))), w7', w8'] [])) t → Steps p.tables e below (T0.setTop (mkF m 112 #[.val (.ref a1), .val (.int (3 : Int32)), .val (.ref bv), .val (.int (6 : Int32)), .val (.ref bc), .val (.ref bu), .val (.int kk), w7, w8] [])) t := by
  have hd0 : c0 = (0 : Int32) ∨ c0 = (1 : Int32) ∨ c0 = (2 : Int32) := by rw [hc0]; exact own_dd3_0 k
  have hd1 : c1 = (0 : Int32) ∨ c1 = (1 : Int32) := by rw [hc1]; exact own_dd3_1 k
  have hd2 : c2 = (0 : Int32) := by rw [hc2]; exact own_dd3_2 k
  have hkb : own_bd 6 kk := by rw [hkk]; exact (own_kb3 k).1
  have hkl : kk < (6 : Int32) := by rw [hkk]; exact (own_kb3 k).2
  have pre0 : ∀ t, Steps p.tables e below (T0.setTop (mkF m 112 #[.val (.ref a1), .val (.int (3 : Int32)), .val (.ref bv), .val (.int (6 : Int32)), .val (.ref bc), .val (.ref bu), .val (.int kk), w7, w8] [])) t → Steps p.tables e below (T0.setTop (mkF m 112 #[.val (.ref a1), .val (.int (3 : Int32)), .val (.ref bv), .val (.int (6 : Int32)), .val (.ref bc), .val (.ref bu), .val (.int kk), w7, w8] [])) t := fun _ k => k
  obtain ⟨T101, X101, e101, st101⟩ := getF X0 hx hZ hown (host := "") (Or.inl (hw _ (List.mem_of_getElem? (i := 12) rfl))) Via.refl e0 Fc (g := (mkF m 115 #[.val (.ref a1), .val (.int (3 : Int32)), .val (.ref bv), .val (.int (6 : Int32)), .val (.ref bc), .val (.ref bu), .val (.int kk), w7, w8] [(.ref a1), (.int kk)])) rfl rfl (hb hby dc5_115)
  obtain ⟨cl102, Ar102, q102, S102, N102_, H102, G102⟩ := id Vu
  have hin102 : ¬ ((0 : Int32) < 0 ∨ cl102.slots.size ≤ ((0 : Int32)).toNatClampNeg) := inb_of S102 ⟨by decide, by decide⟩
  obtain ⟨T103, h103, X103, e103, W103, st103⟩ := stI X101 hx hZ e101 Ar102 (j := (0 : Int32)) hin102 (g := (mkF m 136 #[.val (.ref a1), .val (.int (3 : Int32)), .val (.ref bv), .val (.int (6 : Int32)), .val (.ref bc), .val (.ref bu), .val (.int kk), .val (.int (0 : Int32)), w8] [(.int (0 : Int32)), (.int (0 : Int32)), (.ref bu)])) rfl rfl (hb hby dc5_136)
  have V103 : Arv Z h103 bu ku .int (3 : Int32) [(.int (0 : Int32)), (.int q1), (.int q2)] (.int (0 : Int32)) := Arv.set Ar102 q102 S102 N102_ H102 G102 rfl W103 0 rfl (Nat.le_of_ble_eq_true rfl)
  have N103 := Fr.snoc X103 N0 g_bu
  obtain ⟨cl104, Ar104, q104, S104, N104_, H104, G104⟩ := id V103
  have hin104 : ¬ ((1 : Int32) < 0 ∨ cl104.slots.size ≤ ((1 : Int32)).toNatClampNeg) := inb_of S104 ⟨by decide, by decide⟩
  obtain ⟨T105, h105, X105, e105, W105, st105⟩ := stI X103 hx hZ e103 Ar104 (j := (1 : Int32)) hin104 (g := (mkF m 136 #[.val (.ref a1), .val (.int (3 : Int32)), .val (.ref bv), .val (.int (6 : Int32)), .val (.ref bc), .val (.ref bu), .val (.int kk), .val (.int (1 : Int32)), w8] [(.int (1 : Int32)), (.int (1 : Int32)), (.ref bu)])) rfl rfl (hb hby dc5_136)
  have V105 : Arv Z h105 bu ku .int (3 : Int32) [(.int (0 : Int32)), (.int (1 : Int32)), (.int q2)] (.int (0 : Int32)) := Arv.set Ar104 q104 S104 N104_ H104 G104 rfl W105 1 rfl (Nat.le_of_ble_eq_true rfl)
  have N105 := Fr.snoc X105 N103 g_bu
  obtain ⟨cl106, Ar106, q106, S106, N106_, H106, G106⟩ := id V105
  have hin106 : ¬ ((2 : Int32) < 0 ∨ cl106.slots.size ≤ ((2 : Int32)).toNatClampNeg) := inb_of S106 ⟨by decide, by decide⟩
  obtain ⟨T107, h107, X107, e107, W107, st107⟩ := stI X105 hx hZ e105 Ar106 (j := (2 : Int32)) hin106 (g := (mkF m 136 #[.val (.ref a1), .val (.int (3 : Int32)), .val (.ref bv), .val (.int (6 : Int32)), .val (.ref bc), .val (.ref bu), .val (.int kk), .val (.int (2 : Int32)), w8] [(.int (2 : Int32)), (.int (2 : Int32)), (.ref bu)])) rfl rfl (hb hby dc5_136)
  have V107 : Arv Z h107 bu ku .int (3 : Int32) [(.int (0 : Int32)), (.int (1 : Int32)), (.int (2 : Int32))] (.int (0 : Int32)) := Arv.set Ar106 q106 S106 N106_ H106 G106 rfl W107 2 rfl (Nat.le_of_ble_eq_true rfl)
  have N107 := Fr.snoc X107 N105 g_bu
  have f108 := (((Vc.other W103 ne_bc_bu).other W105 ne_bc_bu).other W107 ne_bc_bu)
  obtain ⟨cl109, Ar109, q109, S109, N109_, H109, G109⟩ := id f108
  have hin109 : ¬ ((0 : Int32) < 0 ∨ cl109.slots.size ≤ ((0 : Int32)).toNatClampNeg) := inb_of S109 ⟨by decide, by decide⟩
  have hat109 : cl109.slots[((0 : Int32)).toNatClampNeg]? = some (.int c0) := H109.at hin109 rfl
  obtain ⟨cl110, Ar110, q110, S110, N110_, H110, G110⟩ := id V107
  obtain ⟨it111, hit111⟩ : ∃ z, z = own_nth3 c0 (0 : Int32) (1 : Int32) (2 : Int32) := ⟨_, rfl⟩
  have bit111 : own_bd 3 it111 := by rw [hit111]; exact own_nb3 (by decide : own_bd 3 (0 : Int32)) (by decide : own_bd 3 (1 : Int32)) (by decide : own_bd 3 (2 : Int32))
  have hin110 : ¬ (c0 < 0 ∨ cl110.slots.size ≤ (c0).toNatClampNeg) := inb_of S110 (own_pin3_0 hd0)
  have hat110 : cl110.slots[(c0).toNatClampNeg]? = some (.int it111) := H110.at hin110 (by rw [hit111]; exact own_nl3_0 hd0)
  obtain ⟨cl112, Ar112, q112, S112, N112_, H112, G112⟩ := id f108
  have hin112 : ¬ ((0 : Int32) < 0 ∨ cl112.slots.size ≤ ((0 : Int32)).toNatClampNeg) := inb_of S112 ⟨by decide, by decide⟩
  have hat112 : cl112.slots[((0 : Int32)).toNatClampNeg]? = some (.int c0) := H112.at hin112 rfl
  obtain ⟨cl113, Ar113, q113, S113, N113_, H113, G113⟩ := id f108
  have hin113 : ¬ ((0 : Int32) < 0 ∨ cl113.slots.size ≤ ((0 : Int32)).toNatClampNeg) := inb_of S113 ⟨by decide, by decide⟩
  have hat113 : cl113.slots[((0 : Int32)).toNatClampNeg]? = some (.int c0) := H113.at hin113 rfl
  obtain ⟨cl114, Ar114, q114, S114, N114_, H114, G114⟩ := id f108
  have hin114 : ¬ ((0 : Int32) < 0 ∨ cl114.slots.size ≤ ((0 : Int32)).toNatClampNeg) := inb_of S114 ⟨by decide, by decide⟩
  have hat114 : cl114.slots[((0 : Int32)).toNatClampNeg]? = some (.int c0) := H114.at hin114 rfl
  obtain ⟨T115, h115, L115, X115, e115, N115, K115, V115_, st115⟩ := cpA X107 hx hZ hown (hw _ (List.mem_of_getElem? (i := 19) rfl)) (hw _ (List.mem_of_getElem? (i := 22) rfl)) (hw _ (List.mem_of_getElem? (i := 20) rfl)) (hw _ (List.mem_of_getElem? (i := 21) rfl)) e107 V107 V107 (Or.inl ⟨rfl, rfl⟩) (own_cp3_0 (u0 := (0 : Int32)) (u1 := (1 : Int32)) (u2 := (2 : Int32)) hd0).1 (own_cp3_0 (u0 := (0 : Int32)) (u1 := (1 : Int32)) (u2 := (2 : Int32)) hd0).2.1 (own_cp3_0 (u0 := (0 : Int32)) (u1 := (1 : Int32)) (u2 := (2 : Int32)) hd0).2.2.1 (own_cp3_0 (u0 := (0 : Int32)) (u1 := (1 : Int32)) (u2 := (2 : Int32)) hd0).2.2.2.1 (own_cp3_0 (u0 := (0 : Int32)) (u1 := (1 : Int32)) (u2 := (2 : Int32)) hd0).2.2.2.2.1 rfl (Nat.le_trans (own_cp3_0 (u0 := (0 : Int32)) (u1 := (1 : Int32)) (u2 := (2 : Int32)) hd0).2.2.2.2.1 (by decide : (3 : Int32).toNatClampNeg ≤ 3)) N107 g_bu (g := (mkF m 190 #[.val (.ref a1), .val (.int (3 : Int32)), .val (.ref bv), .val (.int (6 : Int32)), .val (.ref bc), .val (.ref bu), .val (.int kk), .val (.int (0 : Int32)), .val (.int it111)] [(.int ((2 : Int32) - c0)), (.int c0), (.ref bu), (.int (c0 + (1 : Int32))), (.ref bu)])) rfl (by rw [hml]; rfl) rfl (hb hby dc5_190) (by decide) (W := 0) (by show 2 * 0 + _ ≤ _; exact Nat.le_of_eq rfl) (by decide)
  have V115 : Arv Z h115 bu ku .int (3 : Int32) [(.int (own_sh c0 (0 : Int32) (0 : Int32) (1 : Int32))), (.int (own_sh c0 (1 : Int32) (1 : Int32) (2 : Int32))), (.int (2 : Int32))] (.int (0 : Int32)) := by have q := V115_; rw [(own_cp3_0 (u0 := (0 : Int32)) (u1 := (1 : Int32)) (u2 := (2 : Int32)) hd0).2.2.2.2.2] at q; exact q
  obtain ⟨u116, hu116⟩ : ∃ z, z = (own_sh c0 (0 : Int32) (0 : Int32) (1 : Int32)) := ⟨_, rfl⟩
  rw [← hu116] at V115
  have bu116 : own_bd 3 u116 := by rw [hu116]; exact own_sh_bd (by decide : own_bd 3 (0 : Int32)) (by decide : own_bd 3 (1 : Int32))
  obtain ⟨u117, hu117⟩ : ∃ z, z = (own_sh c0 (1 : Int32) (1 : Int32) (2 : Int32)) := ⟨_, rfl⟩
  rw [← hu117] at V115
  have bu117 : own_bd 3 u117 := by rw [hu117]; exact own_sh_bd (by decide : own_bd 3 (1 : Int32)) (by decide : own_bd 3 (2 : Int32))
  have f118 := ((((Fp.other W103 (Or.inl ne_a1_bu)).other W105 (Or.inl ne_a1_bu)).other W107 (Or.inl ne_a1_bu)).keep K115 (ninS ne_a1_bu nin0))
  obtain ⟨T119, X119, e119, st119⟩ := getF X115 hx hZ hown (host := "") (Or.inl (hw _ (List.mem_of_getElem? (i := 15) rfl))) Via.refl e115 f118 (g := (mkF m 194 #[.val (.ref a1), .val (.int (3 : Int32)), .val (.ref bv), .val (.int (6 : Int32)), .val (.ref bc), .val (.ref bu), .val (.int kk), .val (.int (0 : Int32)), .val (.int it111)] [(.ref a1)])) rfl rfl (hb hby dc5_194)
  have f120 := ((((Fc.other W103 (Or.inl ne_a1_bu)).other W105 (Or.inl ne_a1_bu)).other W107 (Or.inl ne_a1_bu)).keep K115 (ninS ne_a1_bu nin0))
  obtain ⟨T121, X121, e121, st121⟩ := getF X119 hx hZ hown (host := "") (Or.inl (hw _ (List.mem_of_getElem? (i := 12) rfl))) Via.refl e119 f120 (g := (mkF m 200 #[.val (.ref a1), .val (.int (3 : Int32)), .val (.ref bv), .val (.int (6 : Int32)), .val (.ref bc), .val (.ref bu), .val (.int kk), .val (.int (0 : Int32)), .val (.int it111)] [(.ref a1), (.int it111), (.ref bp)])) rfl rfl (hb hby dc5_200)
  have f122 := ((((Lp.other W103 ne_bp_bu).other W105 ne_bp_bu).other W107 ne_bp_bu).keep K115 (ninS ne_bp_bu nin0))
  obtain ⟨cl123, Ar123, hin123, up123⟩ := La.up (j := ((it111 * (6 : Int32)) + kk)) f122 (own_ix (n := 3) (cn := 6) bit111 hkb (by decide) (by decide) (by decide) (by decide) (by decide))
  obtain ⟨T124, h124, X124, e124, W124, st124⟩ := stB X121 hx hZ e121 Ar123 (j := ((it111 * (6 : Int32)) + kk)) hin123 (g := (mkF m 210 #[.val (.ref a1), .val (.int (3 : Int32)), .val (.ref bv), .val (.int (6 : Int32)), .val (.ref bc), .val (.ref bu), .val (.int kk), .val (.int (0 : Int32)), .val (.int it111)] [(.int (0 : Int32)), (.int ((it111 * (6 : Int32)) + kk)), (.ref bp)])) rfl rfl (hb hby dc5_210)
  have A124 : La Z h124 bp .byte (18 : Int32) (P.set (((it111 * (6 : Int32)) + kk)).toNatClampNeg (0 : Int32)) := up123 _ (by first | rfl | decide) _ W124
  have N124 := Fr.snoc X124 N115 g_bp
  have f125 := ((f108.keep K115 (ninS ne_bc_bu nin0)).other W124 (Ne.symm ne_bp_bc))
  obtain ⟨cl126, Ar126, q126, S126, N126_, H126, G126⟩ := id f125
  have hin126 : ¬ ((1 : Int32) < 0 ∨ cl126.slots.size ≤ ((1 : Int32)).toNatClampNeg) := inb_of S126 ⟨by decide, by decide⟩
  have hat126 : cl126.slots[((1 : Int32)).toNatClampNeg]? = some (.int c1) := H126.at hin126 rfl
  have f127 := (V115.other W124 (Ne.symm ne_bp_bu))
  obtain ⟨cl128, Ar128, q128, S128, N128_, H128, G128⟩ := id f127
  obtain ⟨it129, hit129⟩ : ∃ z, z = own_nth3 c1 u116 u117 (2 : Int32) := ⟨_, rfl⟩
  have bit129 : own_bd 3 it129 := by rw [hit129]; exact own_nb3 bu116 bu117 (by decide : own_bd 3 (2 : Int32))
  have hin128 : ¬ (c1 < 0 ∨ cl128.slots.size ≤ (c1).toNatClampNeg) := inb_of S128 (own_pin3_1 hd1)
  have hat128 : cl128.slots[(c1).toNatClampNeg]? = some (.int it129) := H128.at hin128 (by rw [hit129]; exact own_nl3_1 hd1)
  obtain ⟨cl130, Ar130, q130, S130, N130_, H130, G130⟩ := id f125
  have hin130 : ¬ ((1 : Int32) < 0 ∨ cl130.slots.size ≤ ((1 : Int32)).toNatClampNeg) := inb_of S130 ⟨by decide, by decide⟩
  have hat130 : cl130.slots[((1 : Int32)).toNatClampNeg]? = some (.int c1) := H130.at hin130 rfl
  obtain ⟨cl131, Ar131, q131, S131, N131_, H131, G131⟩ := id f125
  have hin131 : ¬ ((1 : Int32) < 0 ∨ cl131.slots.size ≤ ((1 : Int32)).toNatClampNeg) := inb_of S131 ⟨by decide, by decide⟩
  have hat131 : cl131.slots[((1 : Int32)).toNatClampNeg]? = some (.int c1) := H131.at hin131 rfl
  obtain ⟨cl132, Ar132, q132, S132, N132_, H132, G132⟩ := id f125
  have hin132 : ¬ ((1 : Int32) < 0 ∨ cl132.slots.size ≤ ((1 : Int32)).toNatClampNeg) := inb_of S132 ⟨by decide, by decide⟩
  have hat132 : cl132.slots[((1 : Int32)).toNatClampNeg]? = some (.int c1) := H132.at hin132 rfl
  obtain ⟨T133, h133, L133, X133, e133, N133, K133, V133_, st133⟩ := cpA X124 hx hZ hown (hw _ (List.mem_of_getElem? (i := 19) rfl)) (hw _ (List.mem_of_getElem? (i := 22) rfl)) (hw _ (List.mem_of_getElem? (i := 20) rfl)) (hw _ (List.mem_of_getElem? (i := 21) rfl)) e124 f127 f127 (Or.inl ⟨rfl, rfl⟩) (own_cp3_1 (u0 := u116) (u1 := u117) (u2 := (2 : Int32)) hd1).1 (own_cp3_1 (u0 := u116) (u1 := u117) (u2 := (2 : Int32)) hd1).2.1 (own_cp3_1 (u0 := u116) (u1 := u117) (u2 := (2 : Int32)) hd1).2.2.1 (own_cp3_1 (u0 := u116) (u1 := u117) (u2 := (2 : Int32)) hd1).2.2.2.1 (own_cp3_1 (u0 := u116) (u1 := u117) (u2 := (2 : Int32)) hd1).2.2.2.2.1 rfl (Nat.le_trans (own_cp3_1 (u0 := u116) (u1 := u117) (u2 := (2 : Int32)) hd1).2.2.2.2.1 (by decide : (3 : Int32).toNatClampNeg ≤ 3)) N124 g_bu (g := (mkF m 190 #[.val (.ref a1), .val (.int (3 : Int32)), .val (.ref bv), .val (.int (6 : Int32)), .val (.ref bc), .val (.ref bu), .val (.int kk), .val (.int (1 : Int32)), .val (.int it129)] [(.int ((1 : Int32) - c1)), (.int c1), (.ref bu), (.int (c1 + (1 : Int32))), (.ref bu)])) rfl (by rw [hml]; rfl) rfl (hb hby dc5_190) (by decide) (W := 0) (by show 2 * 0 + _ ≤ _; exact Nat.le_of_eq rfl) (by decide)
  have V133 : Arv Z h133 bu ku .int (3 : Int32) [(.int (own_sh c1 (0 : Int32) u116 u117)), (.int u117), (.int (2 : Int32))] (.int (0 : Int32)) := by have q := V133_; rw [(own_cp3_1 (u0 := u116) (u1 := u117) (u2 := (2 : Int32)) hd1).2.2.2.2.2] at q; exact q
  obtain ⟨u134, hu134⟩ : ∃ z, z = (own_sh c1 (0 : Int32) u116 u117) := ⟨_, rfl⟩
  rw [← hu134] at V133
  have bu134 : own_bd 3 u134 := by rw [hu134]; exact own_sh_bd bu116 bu117
  have f135 := ((f118.other W124 (Or.inl ne_a1_bp)).keep K133 (ninS ne_a1_bu nin0))
  obtain ⟨T136, X136, e136, st136⟩ := getF X133 hx hZ hown (host := "") (Or.inl (hw _ (List.mem_of_getElem? (i := 15) rfl))) Via.refl e133 f135 (g := (mkF m 194 #[.val (.ref a1), .val (.int (3 : Int32)), .val (.ref bv), .val (.int (6 : Int32)), .val (.ref bc), .val (.ref bu), .val (.int kk), .val (.int (1 : Int32)), .val (.int it129)] [(.ref a1)])) rfl rfl (hb hby dc5_194)
  have f137 := ((f120.other W124 (Or.inl ne_a1_bp)).keep K133 (ninS ne_a1_bu nin0))
  obtain ⟨T138, X138, e138, st138⟩ := getF X136 hx hZ hown (host := "") (Or.inl (hw _ (List.mem_of_getElem? (i := 12) rfl))) Via.refl e136 f137 (g := (mkF m 200 #[.val (.ref a1), .val (.int (3 : Int32)), .val (.ref bv), .val (.int (6 : Int32)), .val (.ref bc), .val (.ref bu), .val (.int kk), .val (.int (1 : Int32)), .val (.int it129)] [(.ref a1), (.int it129), (.ref bp)])) rfl rfl (hb hby dc5_200)
  have f139 := (A124.keep K133 (ninS ne_bp_bu nin0))
  obtain ⟨cl140, Ar140, hin140, up140⟩ := La.up (j := ((it129 * (6 : Int32)) + kk)) f139 (own_ix (n := 3) (cn := 6) bit129 hkb (by decide) (by decide) (by decide) (by decide) (by decide))
  obtain ⟨T141, h141, X141, e141, W141, st141⟩ := stB X138 hx hZ e138 Ar140 (j := ((it129 * (6 : Int32)) + kk)) hin140 (g := (mkF m 210 #[.val (.ref a1), .val (.int (3 : Int32)), .val (.ref bv), .val (.int (6 : Int32)), .val (.ref bc), .val (.ref bu), .val (.int kk), .val (.int (1 : Int32)), .val (.int it129)] [(.int (1 : Int32)), (.int ((it129 * (6 : Int32)) + kk)), (.ref bp)])) rfl rfl (hb hby dc5_210)
  have A141 : La Z h141 bp .byte (18 : Int32) ((P.set (((it111 * (6 : Int32)) + kk)).toNatClampNeg (0 : Int32)).set (((it129 * (6 : Int32)) + kk)).toNatClampNeg (1 : Int32)) := up140 _ (by first | rfl | decide) _ W141
  have N141 := Fr.snoc X141 N133 g_bp
  have f142 := ((f125.keep K133 (ninS ne_bc_bu nin0)).other W141 (Ne.symm ne_bp_bc))
  obtain ⟨cl143, Ar143, q143, S143, N143_, H143, G143⟩ := id f142
  have hin143 : ¬ ((2 : Int32) < 0 ∨ cl143.slots.size ≤ ((2 : Int32)).toNatClampNeg) := inb_of S143 ⟨by decide, by decide⟩
  have hat143 : cl143.slots[((2 : Int32)).toNatClampNeg]? = some (.int c2) := H143.at hin143 rfl
  have f144 := (V133.other W141 (Ne.symm ne_bp_bu))
  obtain ⟨cl145, Ar145, q145, S145, N145_, H145, G145⟩ := id f144
  obtain ⟨it146, hit146⟩ : ∃ z, z = own_nth3 c2 u134 u117 (2 : Int32) := ⟨_, rfl⟩
  have bit146 : own_bd 3 it146 := by rw [hit146]; exact own_nb3 bu134 bu117 (by decide : own_bd 3 (2 : Int32))
  have hin145 : ¬ (c2 < 0 ∨ cl145.slots.size ≤ (c2).toNatClampNeg) := inb_of S145 (own_pin3_2 hd2)
  have hat145 : cl145.slots[(c2).toNatClampNeg]? = some (.int it146) := H145.at hin145 (by rw [hit146]; exact own_nl3_2 hd2)
  obtain ⟨cl147, Ar147, q147, S147, N147_, H147, G147⟩ := id f142
  have hin147 : ¬ ((2 : Int32) < 0 ∨ cl147.slots.size ≤ ((2 : Int32)).toNatClampNeg) := inb_of S147 ⟨by decide, by decide⟩
  have hat147 : cl147.slots[((2 : Int32)).toNatClampNeg]? = some (.int c2) := H147.at hin147 rfl
  obtain ⟨cl148, Ar148, q148, S148, N148_, H148, G148⟩ := id f142
  have hin148 : ¬ ((2 : Int32) < 0 ∨ cl148.slots.size ≤ ((2 : Int32)).toNatClampNeg) := inb_of S148 ⟨by decide, by decide⟩
  have hat148 : cl148.slots[((2 : Int32)).toNatClampNeg]? = some (.int c2) := H148.at hin148 rfl
  obtain ⟨cl149, Ar149, q149, S149, N149_, H149, G149⟩ := id f142
  have hin149 : ¬ ((2 : Int32) < 0 ∨ cl149.slots.size ≤ ((2 : Int32)).toNatClampNeg) := inb_of S149 ⟨by decide, by decide⟩
  have hat149 : cl149.slots[((2 : Int32)).toNatClampNeg]? = some (.int c2) := H149.at hin149 rfl
  obtain ⟨T150, h150, L150, X150, e150, N150, K150, V150_, st150⟩ := cpA X141 hx hZ hown (hw _ (List.mem_of_getElem? (i := 19) rfl)) (hw _ (List.mem_of_getElem? (i := 22) rfl)) (hw _ (List.mem_of_getElem? (i := 20) rfl)) (hw _ (List.mem_of_getElem? (i := 21) rfl)) e141 f144 f144 (Or.inl ⟨rfl, rfl⟩) (own_cp3_2 (u0 := u134) (u1 := u117) (u2 := (2 : Int32)) hd2).1 (own_cp3_2 (u0 := u134) (u1 := u117) (u2 := (2 : Int32)) hd2).2.1 (own_cp3_2 (u0 := u134) (u1 := u117) (u2 := (2 : Int32)) hd2).2.2.1 (own_cp3_2 (u0 := u134) (u1 := u117) (u2 := (2 : Int32)) hd2).2.2.2.1 (own_cp3_2 (u0 := u134) (u1 := u117) (u2 := (2 : Int32)) hd2).2.2.2.2.1 rfl (Nat.le_trans (own_cp3_2 (u0 := u134) (u1 := u117) (u2 := (2 : Int32)) hd2).2.2.2.2.1 (by decide : (3 : Int32).toNatClampNeg ≤ 3)) N141 g_bu (g := (mkF m 190 #[.val (.ref a1), .val (.int (3 : Int32)), .val (.ref bv), .val (.int (6 : Int32)), .val (.ref bc), .val (.ref bu), .val (.int kk), .val (.int (2 : Int32)), .val (.int it146)] [(.int ((0 : Int32) - c2)), (.int c2), (.ref bu), (.int (c2 + (1 : Int32))), (.ref bu)])) rfl (by rw [hml]; rfl) rfl (hb hby dc5_190) (by decide) (W := 0) (by show 2 * 0 + _ ≤ _; exact Nat.le_of_eq rfl) (by decide)
  have V150 : Arv Z h150 bu ku .int (3 : Int32) [(.int u134), (.int u117), (.int (2 : Int32))] (.int (0 : Int32)) := by have q := V150_; rw [(own_cp3_2 (u0 := u134) (u1 := u117) (u2 := (2 : Int32)) hd2).2.2.2.2.2] at q; exact q
  have f151 := ((f135.other W141 (Or.inl ne_a1_bp)).keep K150 (ninS ne_a1_bu nin0))
  obtain ⟨T152, X152, e152, st152⟩ := getF X150 hx hZ hown (host := "") (Or.inl (hw _ (List.mem_of_getElem? (i := 15) rfl))) Via.refl e150 f151 (g := (mkF m 194 #[.val (.ref a1), .val (.int (3 : Int32)), .val (.ref bv), .val (.int (6 : Int32)), .val (.ref bc), .val (.ref bu), .val (.int kk), .val (.int (2 : Int32)), .val (.int it146)] [(.ref a1)])) rfl rfl (hb hby dc5_194)
  have f153 := ((f137.other W141 (Or.inl ne_a1_bp)).keep K150 (ninS ne_a1_bu nin0))
  obtain ⟨T154, X154, e154, st154⟩ := getF X152 hx hZ hown (host := "") (Or.inl (hw _ (List.mem_of_getElem? (i := 12) rfl))) Via.refl e152 f153 (g := (mkF m 200 #[.val (.ref a1), .val (.int (3 : Int32)), .val (.ref bv), .val (.int (6 : Int32)), .val (.ref bc), .val (.ref bu), .val (.int kk), .val (.int (2 : Int32)), .val (.int it146)] [(.ref a1), (.int it146), (.ref bp)])) rfl rfl (hb hby dc5_200)
  have f155 := (A141.keep K150 (ninS ne_bp_bu nin0))
  obtain ⟨cl156, Ar156, hin156, up156⟩ := La.up (j := ((it146 * (6 : Int32)) + kk)) f155 (own_ix (n := 3) (cn := 6) bit146 hkb (by decide) (by decide) (by decide) (by decide) (by decide))
  obtain ⟨T157, h157, X157, e157, W157, st157⟩ := stB X154 hx hZ e154 Ar156 (j := ((it146 * (6 : Int32)) + kk)) hin156 (g := (mkF m 210 #[.val (.ref a1), .val (.int (3 : Int32)), .val (.ref bv), .val (.int (6 : Int32)), .val (.ref bc), .val (.ref bu), .val (.int kk), .val (.int (2 : Int32)), .val (.int it146)] [(.int (2 : Int32)), (.int ((it146 * (6 : Int32)) + kk)), (.ref bp)])) rfl rfl (hb hby dc5_210)
  have A157 : La Z h157 bp .byte (18 : Int32) (((P.set (((it111 * (6 : Int32)) + kk)).toNatClampNeg (0 : Int32)).set (((it129 * (6 : Int32)) + kk)).toNatClampNeg (1 : Int32)).set (((it146 * (6 : Int32)) + kk)).toNatClampNeg (2 : Int32)) := up156 _ (by first | rfl | decide) _ W157
  have N157 := Fr.snoc X157 N150 g_bp
  have f158 := (((((((((Fs.other W103 (Or.inl ne_a1_bu)).other W105 (Or.inl ne_a1_bu)).other W107 (Or.inl ne_a1_bu)).keep K115 (ninS ne_a1_bu nin0)).other W124 (Or.inl ne_a1_bp)).keep K133 (ninS ne_a1_bu nin0)).other W141 (Or.inl ne_a1_bp)).keep K150 (ninS ne_a1_bu nin0)).other W157 (Or.inl ne_a1_bp))
  obtain ⟨T159, X159, e159, st159⟩ := getF X157 hx hZ hown (host := "") (Or.inl (hw _ (List.mem_of_getElem? (i := 17) rfl))) Via.refl e157 f158 (g := (mkF m 229 #[.val (.ref a1), .val (.int (3 : Int32)), .val (.ref bv), .val (.int (6 : Int32)), .val (.ref bc), .val (.ref bu), .val (.int kk), .val (.int (0 : Int32)), .val (.int it146)] [(.ref a1)])) rfl rfl (hb hby dc5_229)
  have O160 : Old Z n0 h157 := (((((((((O0.wr W103 g_bu).wr W105 g_bu).wr W107 g_bu).keep K115 (allS g_bu all0)).wr W124 g_bp).keep K133 (allS g_bu all0)).wr W141 g_bp).keep K150 (allS g_bu all0)).wr W157 g_bp)
  have f161 := ((f142.keep K150 (ninS ne_bc_bu nin0)).other W157 (Ne.symm ne_bp_bc))
  have f162 := (((((((((Vv.other W103 ne_bv_bu).other W105 ne_bv_bu).other W107 ne_bv_bu).keep K115 (ninS ne_bv_bu nin0)).other W124 ne_bv_bp).keep K133 (ninS ne_bv_bu nin0)).other W141 ne_bv_bp).keep K150 (ninS ne_bv_bu nin0)).other W157 ne_bv_bp)
  obtain ⟨_, _, ⟨T163, L163, k163, n163⟩, -, X163, ⟨Lc163, hQ163, l163, y163, z163⟩, st163⟩ := Jvm.LawKit.callS X159 hx (y := (⟨"com/example/frontward/frontward/offline/Orderings", "swapped", "(I[I[II)I"⟩ : MethodName)) hown (mvT hZ (hw _ (List.mem_of_getElem? (i := 23) rfl))) (mvT hZ (hw _ (List.mem_of_getElem? (i := 24) rfl))) (mvT hZ (hw _ (List.mem_of_getElem? (i := 2) rfl))) (mvT hZ (hw _ (List.mem_of_getElem? (i := 25) rfl))) (by decide) (backOf (W := 2) (rmSw3_0 l Z a0 hw [] kk bc bv kc kv c0 c1 c2 h157 n0 O160 f161 f162) hZ (hw _ (List.mem_of_getElem? (i := 25) rfl)) (hw _ (List.mem_of_getElem? (i := 2) rfl)) (by decide) (by decide)) (g := (mkF m 248 #[.val (.ref a1), .val (.int (3 : Int32)), .val (.ref bv), .val (.int (6 : Int32)), .val (.ref bc), .val (.ref bu), .val (.int kk), .val (.int (0 : Int32)), .val (.int it146)] [(.int (0 : Int32)), (.ref bv), (.ref bc), (.int kk), (.int ((kk * (2 : Int32)) + (0 : Int32))), (.ref bs)])) rfl (by rw [hml]; rfl) (argsL := [(.int kk), (.ref bc), (.ref bv), (.int (0 : Int32))]) (rest := [(.int ((kk * (2 : Int32)) + (0 : Int32))), (.ref bs)]) (lenOf pd_1 rfl) rfl (by show 2 * 0 + _ ≤ _; exact Nat.le_of_eq rfl) (hb hby dc5_248) (fun _ _ => ⟨rfl, e159, (by decide : 5 + 0 ≤ _), (by decide : 39 + 0 ≤ _)⟩)
  dsimp only [Pt.U, Pt.locs, Pt.cells, Pt.slots] at X163 l163 y163 z163 st163 hQ163
  subst l163 y163 z163
  obtain ⟨rfl, N163q, hh163⟩ := hQ163
  have N163 := Fr.app N157 N163q
  have f164 := (((((((((Ls.other W103 ne_bs_bu).other W105 ne_bs_bu).other W107 ne_bs_bu).keep K115 (ninS ne_bs_bu nin0)).other W124 (Ne.symm ne_bp_bs)).keep K133 (ninS ne_bs_bu nin0)).other W141 (Ne.symm ne_bp_bs)).keep K150 (ninS ne_bs_bu nin0)).other W157 (Ne.symm ne_bp_bs))
  obtain ⟨cl165, Ar165, hin165, up165⟩ := La.up (j := ((kk * (2 : Int32)) + (0 : Int32))) f164 (own_iy (n := 2) (cn := 6) hkb (by decide) (by decide) (by decide) (by decide) (by decide) (by decide))
  obtain ⟨T166, h166, X166, e166, W166, st166⟩ := stI X163 hx hZ hh163 Ar165 (j := ((kk * (2 : Int32)) + (0 : Int32))) hin165 (g := (mkF m 251 #[.val (.ref a1), .val (.int (3 : Int32)), .val (.ref bv), .val (.int (6 : Int32)), .val (.ref bc), .val (.ref bu), .val (.int kk), .val (.int (0 : Int32)), .val (.int it146)] [(.int (own_sw kk c0 c1 (2 : Int32) (1 : Int32))), (.int ((kk * (2 : Int32)) + (0 : Int32))), (.ref bs)])) rfl rfl (hb hby dc5_251)
  have A166 : La Z h166 bs .int (12 : Int32) (S.set (((kk * (2 : Int32)) + (0 : Int32))).toNatClampNeg (own_sw kk c0 c1 (2 : Int32) (1 : Int32))) := up165 _ (by first | rfl | decide) _ W166
  have N166 := Fr.snoc X166 N163 g_bs
  have f167 := (f158.other W166 (Or.inl ne_a1_bs))
  obtain ⟨T168, X168, e168, st168⟩ := getF X166 hx hZ hown (host := "") (Or.inl (hw _ (List.mem_of_getElem? (i := 17) rfl))) Via.refl e166 f167 (g := (mkF m 229 #[.val (.ref a1), .val (.int (3 : Int32)), .val (.ref bv), .val (.int (6 : Int32)), .val (.ref bc), .val (.ref bu), .val (.int kk), .val (.int (1 : Int32)), .val (.int it146)] [(.ref a1)])) rfl rfl (hb hby dc5_229)
  have O169 : Old Z n0 h166 := (O160.wr W166 g_bs)
  have f170 := (f161.other W166 (Ne.symm ne_bs_bc))
  have f171 := (f162.other W166 ne_bv_bs)
  obtain ⟨_, _, ⟨T172, L172, k172, n172⟩, -, X172, ⟨Lc172, hQ172, l172, y172, z172⟩, st172⟩ := Jvm.LawKit.callS X168 hx (y := (⟨"com/example/frontward/frontward/offline/Orderings", "swapped", "(I[I[II)I"⟩ : MethodName)) hown (mvT hZ (hw _ (List.mem_of_getElem? (i := 23) rfl))) (mvT hZ (hw _ (List.mem_of_getElem? (i := 24) rfl))) (mvT hZ (hw _ (List.mem_of_getElem? (i := 2) rfl))) (mvT hZ (hw _ (List.mem_of_getElem? (i := 25) rfl))) (by decide) (backOf (W := 2) (rmSw3_1 l Z a0 hw [] kk bc bv kc kv c0 c1 c2 h166 n0 O169 f170 f171) hZ (hw _ (List.mem_of_getElem? (i := 25) rfl)) (hw _ (List.mem_of_getElem? (i := 2) rfl)) (by decide) (by decide)) (g := (mkF m 248 #[.val (.ref a1), .val (.int (3 : Int32)), .val (.ref bv), .val (.int (6 : Int32)), .val (.ref bc), .val (.ref bu), .val (.int kk), .val (.int (1 : Int32)), .val (.int it146)] [(.int (1 : Int32)), (.ref bv), (.ref bc), (.int kk), (.int ((kk * (2 : Int32)) + (1 : Int32))), (.ref bs)])) rfl (by rw [hml]; rfl) (argsL := [(.int kk), (.ref bc), (.ref bv), (.int (1 : Int32))]) (rest := [(.int ((kk * (2 : Int32)) + (1 : Int32))), (.ref bs)]) (lenOf pd_1 rfl) rfl (by show 2 * 0 + _ ≤ _; exact Nat.le_of_eq rfl) (hb hby dc5_248) (fun _ _ => ⟨rfl, e168, (by decide : 5 + 0 ≤ _), (by decide : 39 + 0 ≤ _)⟩)
  dsimp only [Pt.U, Pt.locs, Pt.cells, Pt.slots] at X172 l172 y172 z172 st172 hQ172
  subst l172 y172 z172
  obtain ⟨rfl, N172q, hh172⟩ := hQ172
  have N172 := Fr.app N166 N172q
  obtain ⟨cl173, Ar173, hin173, up173⟩ := La.up (j := ((kk * (2 : Int32)) + (1 : Int32))) A166 (own_iy (n := 2) (cn := 6) hkb (by decide) (by decide) (by decide) (by decide) (by decide) (by decide))
  obtain ⟨T174, h174, X174, e174, W174, st174⟩ := stI X172 hx hZ hh172 Ar173 (j := ((kk * (2 : Int32)) + (1 : Int32))) hin173 (g := (mkF m 251 #[.val (.ref a1), .val (.int (3 : Int32)), .val (.ref bv), .val (.int (6 : Int32)), .val (.ref bc), .val (.ref bu), .val (.int kk), .val (.int (1 : Int32)), .val (.int it146)] [(.int (own_sw kk c1 c2 (1 : Int32) (1 : Int32))), (.int ((kk * (2 : Int32)) + (1 : Int32))), (.ref bs)])) rfl rfl (hb hby dc5_251)
  have A174 : La Z h174 bs .int (12 : Int32) ((S.set (((kk * (2 : Int32)) + (0 : Int32))).toNatClampNeg (own_sw kk c0 c1 (2 : Int32) (1 : Int32))).set (((kk * (2 : Int32)) + (1 : Int32))).toNatClampNeg (own_sw kk c1 c2 (1 : Int32) (1 : Int32))) := up173 _ (by first | rfl | decide) _ W174
  have N174 := Fr.snoc X174 N172 g_bs
  have f175 := (f170.other W174 (Ne.symm ne_bs_bc))
  obtain ⟨cl176, Ar176, q176, S176, N176_, H176, G176⟩ := id f175
  have hin176 : ¬ ((1 : Int32) < 0 ∨ cl176.slots.size ≤ ((1 : Int32)).toNatClampNeg) := inb_of S176 ⟨by decide, by decide⟩
  have hat176 : cl176.slots[((1 : Int32)).toNatClampNeg]? = some (.int c1) := H176.at hin176 rfl
  have pre177 : ∀ t, Steps p.tables e below (T174.setTop (mkF m 279 #[.val (.ref a1), .val (.int (3 : Int32)), .val (.ref bv), .val (.int (6 : Int32)), .val (.ref bc), .val (.ref bu), .val (.int kk), .val (.int (1 : Int32)), .val (.int it146)] [(.int (1 : Int32)), (.int c1)])) t → Steps p.tables e below (T0.setTop (mkF m 112 #[.val (.ref a1), .val (.int (3 : Int32)), .val (.ref bv), .val (.int (6 : Int32)), .val (.ref bc), .val (.ref bu), .val (.int kk), w7, w8] [])) t := fun t kt => pre0 t (by
      show Steps p.tables e below (T0.setTop (mkF m 112 #[.val (.ref a1), .val (.int (3 : Int32)), .val (.ref bv), .val (.int (6 : Int32)), .val (.ref bc), .val (.ref bu), .val (.int kk), w7, w8] [])) _
      refine XS.iload X0.here hx rfl (hb hby dc5_112) rfl ?_
      refine XS.aloadN X0.here hx rfl (hb hby dc5_114) rfl rfl ?_
      refine st101 _ ?_
      show Steps p.tables e below (T101.setTop (mkF m 118 #[.val (.ref a1), .val (.int (3 : Int32)), .val (.ref bv), .val (.int (6 : Int32)), .val (.ref bc), .val (.ref bu), .val (.int kk), w7, w8] [(.int (6 : Int32)), (.int kk)])) _
      refine XS.icmpNo X101.here hx rfl (hb hby dc5_118) rfl (tlt hkl).2.1 ?_
      refine XS.iconst X101.here hx rfl (hb hby dc5_121) ?_
      refine XS.istore X101.here hx rfl (hb hby dc5_122) rfl (l' := #[.val (.ref a1), .val (.int (3 : Int32)), .val (.ref bv), .val (.int (6 : Int32)), .val (.ref bc), .val (.ref bu), .val (.int kk), .val (.int (0 : Int32)), w8]) (os_0 hw7) ?_
      refine XS.iload X101.here hx rfl (hb hby dc5_124) rfl ?_
      refine XS.iloadN X101.here hx rfl (hb hby dc5_126) rfl ?_
      show Steps p.tables e below (T101.setTop (mkF m 127 #[.val (.ref a1), .val (.int (3 : Int32)), .val (.ref bv), .val (.int (6 : Int32)), .val (.ref bc), .val (.ref bu), .val (.int kk), .val (.int (0 : Int32)), w8] [(.int (3 : Int32)), (.int (0 : Int32))])) _
      refine XS.icmpNo X101.here hx rfl (hb hby dc5_127) rfl (by decide) ?_
      refine XS.aload X101.here hx rfl (hb hby dc5_130) rfl rfl ?_
      refine XS.iload X101.here hx rfl (hb hby dc5_132) rfl ?_
      refine XS.iload X101.here hx rfl (hb hby dc5_134) rfl ?_
      refine st103 _ ?_
      refine XS.iinc X103.here hx rfl (hb hby dc5_137) rfl (l' := #[.val (.ref a1), .val (.int (3 : Int32)), .val (.ref bv), .val (.int (6 : Int32)), .val (.ref bc), .val (.ref bu), .val (.int kk), .val (.int (1 : Int32)), w8]) rfl ?_
      refine XS.goto X103.here hx rfl (pc0 := 140) (pc' := 124) rfl (hb hby dc5_140) (by decide) (by decide) ?_
      refine XS.iload X103.here hx rfl (hb hby dc5_124) rfl ?_
      refine XS.iloadN X103.here hx rfl (hb hby dc5_126) rfl ?_
      show Steps p.tables e below (T103.setTop (mkF m 127 #[.val (.ref a1), .val (.int (3 : Int32)), .val (.ref bv), .val (.int (6 : Int32)), .val (.ref bc), .val (.ref bu), .val (.int kk), .val (.int (1 : Int32)), w8] [(.int (3 : Int32)), (.int (1 : Int32))])) _
      refine XS.icmpNo X103.here hx rfl (hb hby dc5_127) rfl (by decide) ?_
      refine XS.aload X103.here hx rfl (hb hby dc5_130) rfl rfl ?_
      refine XS.iload X103.here hx rfl (hb hby dc5_132) rfl ?_
      refine XS.iload X103.here hx rfl (hb hby dc5_134) rfl ?_
      refine st105 _ ?_
      refine XS.iinc X105.here hx rfl (hb hby dc5_137) rfl (l' := #[.val (.ref a1), .val (.int (3 : Int32)), .val (.ref bv), .val (.int (6 : Int32)), .val (.ref bc), .val (.ref bu), .val (.int kk), .val (.int (2 : Int32)), w8]) rfl ?_
      refine XS.goto X105.here hx rfl (pc0 := 140) (pc' := 124) rfl (hb hby dc5_140) (by decide) (by decide) ?_
      show Steps p.tables e below (T105.setTop (mkF m 124 #[.val (.ref a1), .val (.int (3 : Int32)), .val (.ref bv), .val (.int (6 : Int32)), .val (.ref bc), .val (.ref bu), .val (.int kk), .val (.int (2 : Int32)), w8] [])) _
      refine XS.iload X105.here hx rfl (hb hby dc5_124) rfl ?_
      refine XS.iloadN X105.here hx rfl (hb hby dc5_126) rfl ?_
      show Steps p.tables e below (T105.setTop (mkF m 127 #[.val (.ref a1), .val (.int (3 : Int32)), .val (.ref bv), .val (.int (6 : Int32)), .val (.ref bc), .val (.ref bu), .val (.int kk), .val (.int (2 : Int32)), w8] [(.int (3 : Int32)), (.int (2 : Int32))])) _
      refine XS.icmpNo X105.here hx rfl (hb hby dc5_127) rfl (by decide) ?_
      refine XS.aload X105.here hx rfl (hb hby dc5_130) rfl rfl ?_
      refine XS.iload X105.here hx rfl (hb hby dc5_132) rfl ?_
      refine XS.iload X105.here hx rfl (hb hby dc5_134) rfl ?_
      refine st107 _ ?_
      refine XS.iinc X107.here hx rfl (hb hby dc5_137) rfl (l' := #[.val (.ref a1), .val (.int (3 : Int32)), .val (.ref bv), .val (.int (6 : Int32)), .val (.ref bc), .val (.ref bu), .val (.int kk), .val (.int (3 : Int32)), w8]) rfl ?_
      refine XS.goto X107.here hx rfl (pc0 := 140) (pc' := 124) rfl (hb hby dc5_140) (by decide) (by decide) ?_
      refine XS.iload X107.here hx rfl (hb hby dc5_124) rfl ?_
      refine XS.iloadN X107.here hx rfl (hb hby dc5_126) rfl ?_
      show Steps p.tables e below (T107.setTop (mkF m 127 #[.val (.ref a1), .val (.int (3 : Int32)), .val (.ref bv), .val (.int (6 : Int32)), .val (.ref bc), .val (.ref bu), .val (.int kk), .val (.int (3 : Int32)), w8] [(.int (3 : Int32)), (.int (3 : Int32))])) _
      refine XS.icmpYes X107.here hx rfl (pc0 := 127) (pc' := 143) rfl (hb hby dc5_127) rfl (by decide) (by decide) (by decide) ?_
      refine XS.iconst X107.here hx rfl (hb hby dc5_143) ?_
      refine XS.istore X107.here hx rfl (hb hby dc5_144) rfl (l' := #[.val (.ref a1), .val (.int (3 : Int32)), .val (.ref bv), .val (.int (6 : Int32)), .val (.ref bc), .val (.ref bu), .val (.int kk), .val (.int (0 : Int32)), w8]) rfl ?_
      refine XS.iload X107.here hx rfl (hb hby dc5_146) rfl ?_
      refine XS.iloadN X107.here hx rfl (hb hby dc5_148) rfl ?_
      show Steps p.tables e below (T107.setTop (mkF m 149 #[.val (.ref a1), .val (.int (3 : Int32)), .val (.ref bv), .val (.int (6 : Int32)), .val (.ref bc), .val (.ref bu), .val (.int kk), .val (.int (0 : Int32)), w8] [(.int (3 : Int32)), (.int (0 : Int32))])) _
      refine XS.icmpNo X107.here hx rfl (hb hby dc5_149) rfl (by decide) ?_
      refine XS.aload X107.here hx rfl (hb hby dc5_152) rfl rfl ?_
      refine XS.aload X107.here hx rfl (hb hby dc5_154) rfl rfl ?_
      refine XS.iload X107.here hx rfl (hb hby dc5_156) rfl ?_
      refine X107.iaload hx (j := (0 : Int32)) (v := (.int c0)) (by rw [e107]; exact Ar109.1) (State.isArrayOf_alike hZ.alike Ar109.2.1) Ar109.2.2 hin109 hat109 (g := (mkF m 158 #[.val (.ref a1), .val (.int (3 : Int32)), .val (.ref bv), .val (.int (6 : Int32)), .val (.ref bc), .val (.ref bu), .val (.int kk), .val (.int (0 : Int32)), w8] [(.int (0 : Int32)), (.ref bc), (.ref bu)])) rfl rfl (hb hby dc5_158) _ ?_
      refine X107.iaload hx (j := c0) (v := (.int it111)) (by rw [e107]; exact Ar110.1) (State.isArrayOf_alike hZ.alike Ar110.2.1) Ar110.2.2 hin110 hat110 (g := (mkF m 159 #[.val (.ref a1), .val (.int (3 : Int32)), .val (.ref bv), .val (.int (6 : Int32)), .val (.ref bc), .val (.ref bu), .val (.int kk), .val (.int (0 : Int32)), w8] [(.int c0), (.ref bu)])) rfl rfl (hb hby dc5_159) _ ?_
      refine XS.istore X107.here hx rfl (hb hby dc5_160) rfl (l' := #[.val (.ref a1), .val (.int (3 : Int32)), .val (.ref bv), .val (.int (6 : Int32)), .val (.ref bc), .val (.ref bu), .val (.int kk), .val (.int (0 : Int32)), .val (.int it111)]) (os_1 hw8) ?_
      refine XS.aload X107.here hx rfl (hb hby dc5_162) rfl rfl ?_
      refine XS.aload X107.here hx rfl (hb hby dc5_164) rfl rfl ?_
      show Steps p.tables e below (T107.setTop (mkF m 166 #[.val (.ref a1), .val (.int (3 : Int32)), .val (.ref bv), .val (.int (6 : Int32)), .val (.ref bc), .val (.ref bu), .val (.int kk), .val (.int (0 : Int32)), .val (.int it111)] [(.ref bc), (.ref bu)])) _
      refine XS.iload X107.here hx rfl (hb hby dc5_166) rfl ?_
      refine X107.iaload hx (j := (0 : Int32)) (v := (.int c0)) (by rw [e107]; exact Ar112.1) (State.isArrayOf_alike hZ.alike Ar112.2.1) Ar112.2.2 hin112 hat112 (g := (mkF m 168 #[.val (.ref a1), .val (.int (3 : Int32)), .val (.ref bv), .val (.int (6 : Int32)), .val (.ref bc), .val (.ref bu), .val (.int kk), .val (.int (0 : Int32)), .val (.int it111)] [(.int (0 : Int32)), (.ref bc), (.ref bu)])) rfl rfl (hb hby dc5_168) _ ?_
      refine XS.iconst X107.here hx rfl (hb hby dc5_169) ?_
      refine XS.iadd X107.here hx rfl (hb hby dc5_170) rfl ?_
      refine XS.aload X107.here hx rfl (hb hby dc5_171) rfl rfl ?_
      refine XS.aload X107.here hx rfl (hb hby dc5_173) rfl rfl ?_
      refine XS.iload X107.here hx rfl (hb hby dc5_175) rfl ?_
      refine X107.iaload hx (j := (0 : Int32)) (v := (.int c0)) (by rw [e107]; exact Ar113.1) (State.isArrayOf_alike hZ.alike Ar113.2.1) Ar113.2.2 hin113 hat113 (g := (mkF m 177 #[.val (.ref a1), .val (.int (3 : Int32)), .val (.ref bv), .val (.int (6 : Int32)), .val (.ref bc), .val (.ref bu), .val (.int kk), .val (.int (0 : Int32)), .val (.int it111)] [(.int (0 : Int32)), (.ref bc), (.ref bu), (.int (c0 + (1 : Int32))), (.ref bu)])) rfl rfl (hb hby dc5_177) _ ?_
      refine XS.iloadN X107.here hx rfl (hb hby dc5_178) rfl ?_
      refine XS.iconst X107.here hx rfl (hb hby dc5_179) ?_
      refine XS.isub X107.here hx rfl (hb hby dc5_180) rfl ?_
      refine XS.iload X107.here hx rfl (hb hby dc5_181) rfl ?_
      refine XS.isub X107.here hx rfl (hb hby dc5_183) rfl ?_
      refine XS.aload X107.here hx rfl (hb hby dc5_184) rfl rfl ?_
      refine XS.iload X107.here hx rfl (hb hby dc5_186) rfl ?_
      refine X107.iaload hx (j := (0 : Int32)) (v := (.int c0)) (by rw [e107]; exact Ar114.1) (State.isArrayOf_alike hZ.alike Ar114.2.1) Ar114.2.2 hin114 hat114 (g := (mkF m 188 #[.val (.ref a1), .val (.int (3 : Int32)), .val (.ref bv), .val (.int (6 : Int32)), .val (.ref bc), .val (.ref bu), .val (.int kk), .val (.int (0 : Int32)), .val (.int it111)] [(.int (0 : Int32)), (.ref bc), (.int (2 : Int32)), (.int c0), (.ref bu), (.int (c0 + (1 : Int32))), (.ref bu)])) rfl rfl (hb hby dc5_188) _ ?_
      refine XS.isub X107.here hx rfl (hb hby dc5_189) rfl ?_
      refine st115 _ ?_
      refine XS.aloadN X115.here hx rfl (hb hby dc5_193) rfl rfl ?_
      refine st119 _ ?_
      refine XS.iload X119.here hx rfl (hb hby dc5_197) rfl ?_
      refine XS.aloadN X119.here hx rfl (hb hby dc5_199) rfl rfl ?_
      refine st121 _ ?_
      refine XS.imul X121.here hx rfl (hb hby dc5_203) rfl ?_
      refine XS.iload X121.here hx rfl (hb hby dc5_204) rfl ?_
      show Steps p.tables e below (T121.setTop (mkF m 206 #[.val (.ref a1), .val (.int (3 : Int32)), .val (.ref bv), .val (.int (6 : Int32)), .val (.ref bc), .val (.ref bu), .val (.int kk), .val (.int (0 : Int32)), .val (.int it111)] [(.int kk), (.int (it111 * (6 : Int32))), (.ref bp)])) _
      refine XS.iadd X121.here hx rfl (hb hby dc5_206) rfl ?_
      refine XS.iload X121.here hx rfl (hb hby dc5_207) rfl ?_
      refine XS.i2b X121.here hx rfl (hb hby dc5_209) rfl ?_
      refine st124 _ ?_
      refine XS.iinc X124.here hx rfl (hb hby dc5_211) rfl (l' := #[.val (.ref a1), .val (.int (3 : Int32)), .val (.ref bv), .val (.int (6 : Int32)), .val (.ref bc), .val (.ref bu), .val (.int kk), .val (.int (1 : Int32)), .val (.int it111)]) rfl ?_
      refine XS.goto X124.here hx rfl (pc0 := 214) (pc' := 146) rfl (hb hby dc5_214) (by decide) (by decide) ?_
      refine XS.iload X124.here hx rfl (hb hby dc5_146) rfl ?_
      refine XS.iloadN X124.here hx rfl (hb hby dc5_148) rfl ?_
      show Steps p.tables e below (T124.setTop (mkF m 149 #[.val (.ref a1), .val (.int (3 : Int32)), .val (.ref bv), .val (.int (6 : Int32)), .val (.ref bc), .val (.ref bu), .val (.int kk), .val (.int (1 : Int32)), .val (.int it111)] [(.int (3 : Int32)), (.int (1 : Int32))])) _
      refine XS.icmpNo X124.here hx rfl (hb hby dc5_149) rfl (by decide) ?_
      refine XS.aload X124.here hx rfl (hb hby dc5_152) rfl rfl ?_
      refine XS.aload X124.here hx rfl (hb hby dc5_154) rfl rfl ?_
      refine XS.iload X124.here hx rfl (hb hby dc5_156) rfl ?_
      refine X124.iaload hx (j := (1 : Int32)) (v := (.int c1)) (by rw [e124]; exact Ar126.1) (State.isArrayOf_alike hZ.alike Ar126.2.1) Ar126.2.2 hin126 hat126 (g := (mkF m 158 #[.val (.ref a1), .val (.int (3 : Int32)), .val (.ref bv), .val (.int (6 : Int32)), .val (.ref bc), .val (.ref bu), .val (.int kk), .val (.int (1 : Int32)), .val (.int it111)] [(.int (1 : Int32)), (.ref bc), (.ref bu)])) rfl rfl (hb hby dc5_158) _ ?_
      refine X124.iaload hx (j := c1) (v := (.int it129)) (by rw [e124]; exact Ar128.1) (State.isArrayOf_alike hZ.alike Ar128.2.1) Ar128.2.2 hin128 hat128 (g := (mkF m 159 #[.val (.ref a1), .val (.int (3 : Int32)), .val (.ref bv), .val (.int (6 : Int32)), .val (.ref bc), .val (.ref bu), .val (.int kk), .val (.int (1 : Int32)), .val (.int it111)] [(.int c1), (.ref bu)])) rfl rfl (hb hby dc5_159) _ ?_
      refine XS.istore X124.here hx rfl (hb hby dc5_160) rfl (l' := #[.val (.ref a1), .val (.int (3 : Int32)), .val (.ref bv), .val (.int (6 : Int32)), .val (.ref bc), .val (.ref bu), .val (.int kk), .val (.int (1 : Int32)), .val (.int it129)]) rfl ?_
      refine XS.aload X124.here hx rfl (hb hby dc5_162) rfl rfl ?_
      refine XS.aload X124.here hx rfl (hb hby dc5_164) rfl rfl ?_
      refine XS.iload X124.here hx rfl (hb hby dc5_166) rfl ?_
      refine X124.iaload hx (j := (1 : Int32)) (v := (.int c1)) (by rw [e124]; exact Ar130.1) (State.isArrayOf_alike hZ.alike Ar130.2.1) Ar130.2.2 hin130 hat130 (g := (mkF m 168 #[.val (.ref a1), .val (.int (3 : Int32)), .val (.ref bv), .val (.int (6 : Int32)), .val (.ref bc), .val (.ref bu), .val (.int kk), .val (.int (1 : Int32)), .val (.int it129)] [(.int (1 : Int32)), (.ref bc), (.ref bu)])) rfl rfl (hb hby dc5_168) _ ?_
      refine XS.iconst X124.here hx rfl (hb hby dc5_169) ?_
      refine XS.iadd X124.here hx rfl (hb hby dc5_170) rfl ?_
      refine XS.aload X124.here hx rfl (hb hby dc5_171) rfl rfl ?_
      refine XS.aload X124.here hx rfl (hb hby dc5_173) rfl rfl ?_
      refine XS.iload X124.here hx rfl (hb hby dc5_175) rfl ?_
      refine X124.iaload hx (j := (1 : Int32)) (v := (.int c1)) (by rw [e124]; exact Ar131.1) (State.isArrayOf_alike hZ.alike Ar131.2.1) Ar131.2.2 hin131 hat131 (g := (mkF m 177 #[.val (.ref a1), .val (.int (3 : Int32)), .val (.ref bv), .val (.int (6 : Int32)), .val (.ref bc), .val (.ref bu), .val (.int kk), .val (.int (1 : Int32)), .val (.int it129)] [(.int (1 : Int32)), (.ref bc), (.ref bu), (.int (c1 + (1 : Int32))), (.ref bu)])) rfl rfl (hb hby dc5_177) _ ?_
      show Steps p.tables e below (T124.setTop (mkF m 178 #[.val (.ref a1), .val (.int (3 : Int32)), .val (.ref bv), .val (.int (6 : Int32)), .val (.ref bc), .val (.ref bu), .val (.int kk), .val (.int (1 : Int32)), .val (.int it129)] [(.int c1), (.ref bu), (.int (c1 + (1 : Int32))), (.ref bu)])) _
      refine XS.iloadN X124.here hx rfl (hb hby dc5_178) rfl ?_
      refine XS.iconst X124.here hx rfl (hb hby dc5_179) ?_
      refine XS.isub X124.here hx rfl (hb hby dc5_180) rfl ?_
      refine XS.iload X124.here hx rfl (hb hby dc5_181) rfl ?_
      refine XS.isub X124.here hx rfl (hb hby dc5_183) rfl ?_
      refine XS.aload X124.here hx rfl (hb hby dc5_184) rfl rfl ?_
      refine XS.iload X124.here hx rfl (hb hby dc5_186) rfl ?_
      refine X124.iaload hx (j := (1 : Int32)) (v := (.int c1)) (by rw [e124]; exact Ar132.1) (State.isArrayOf_alike hZ.alike Ar132.2.1) Ar132.2.2 hin132 hat132 (g := (mkF m 188 #[.val (.ref a1), .val (.int (3 : Int32)), .val (.ref bv), .val (.int (6 : Int32)), .val (.ref bc), .val (.ref bu), .val (.int kk), .val (.int (1 : Int32)), .val (.int it129)] [(.int (1 : Int32)), (.ref bc), (.int (1 : Int32)), (.int c1), (.ref bu), (.int (c1 + (1 : Int32))), (.ref bu)])) rfl rfl (hb hby dc5_188) _ ?_
      refine XS.isub X124.here hx rfl (hb hby dc5_189) rfl ?_
      refine st133 _ ?_
      refine XS.aloadN X133.here hx rfl (hb hby dc5_193) rfl rfl ?_
      refine st136 _ ?_
      refine XS.iload X136.here hx rfl (hb hby dc5_197) rfl ?_
      refine XS.aloadN X136.here hx rfl (hb hby dc5_199) rfl rfl ?_
      refine st138 _ ?_
      refine XS.imul X138.here hx rfl (hb hby dc5_203) rfl ?_
      refine XS.iload X138.here hx rfl (hb hby dc5_204) rfl ?_
      refine XS.iadd X138.here hx rfl (hb hby dc5_206) rfl ?_
      refine XS.iload X138.here hx rfl (hb hby dc5_207) rfl ?_
      refine XS.i2b X138.here hx rfl (hb hby dc5_209) rfl ?_
      refine st141 _ ?_
      refine XS.iinc X141.here hx rfl (hb hby dc5_211) rfl (l' := #[.val (.ref a1), .val (.int (3 : Int32)), .val (.ref bv), .val (.int (6 : Int32)), .val (.ref bc), .val (.ref bu), .val (.int kk), .val (.int (2 : Int32)), .val (.int it129)]) rfl ?_
      refine XS.goto X141.here hx rfl (pc0 := 214) (pc' := 146) rfl (hb hby dc5_214) (by decide) (by decide) ?_
      refine XS.iload X141.here hx rfl (hb hby dc5_146) rfl ?_
      refine XS.iloadN X141.here hx rfl (hb hby dc5_148) rfl ?_
      show Steps p.tables e below (T141.setTop (mkF m 149 #[.val (.ref a1), .val (.int (3 : Int32)), .val (.ref bv), .val (.int (6 : Int32)), .val (.ref bc), .val (.ref bu), .val (.int kk), .val (.int (2 : Int32)), .val (.int it129)] [(.int (3 : Int32)), (.int (2 : Int32))])) _
      refine XS.icmpNo X141.here hx rfl (hb hby dc5_149) rfl (by decide) ?_
      refine XS.aload X141.here hx rfl (hb hby dc5_152) rfl rfl ?_
      refine XS.aload X141.here hx rfl (hb hby dc5_154) rfl rfl ?_
      refine XS.iload X141.here hx rfl (hb hby dc5_156) rfl ?_
      refine X141.iaload hx (j := (2 : Int32)) (v := (.int c2)) (by rw [e141]; exact Ar143.1) (State.isArrayOf_alike hZ.alike Ar143.2.1) Ar143.2.2 hin143 hat143 (g := (mkF m 158 #[.val (.ref a1), .val (.int (3 : Int32)), .val (.ref bv), .val (.int (6 : Int32)), .val (.ref bc), .val (.ref bu), .val (.int kk), .val (.int (2 : Int32)), .val (.int it129)] [(.int (2 : Int32)), (.ref bc), (.ref bu)])) rfl rfl (hb hby dc5_158) _ ?_
      refine X141.iaload hx (j := c2) (v := (.int it146)) (by rw [e141]; exact Ar145.1) (State.isArrayOf_alike hZ.alike Ar145.2.1) Ar145.2.2 hin145 hat145 (g := (mkF m 159 #[.val (.ref a1), .val (.int (3 : Int32)), .val (.ref bv), .val (.int (6 : Int32)), .val (.ref bc), .val (.ref bu), .val (.int kk), .val (.int (2 : Int32)), .val (.int it129)] [(.int c2), (.ref bu)])) rfl rfl (hb hby dc5_159) _ ?_
      refine XS.istore X141.here hx rfl (hb hby dc5_160) rfl (l' := #[.val (.ref a1), .val (.int (3 : Int32)), .val (.ref bv), .val (.int (6 : Int32)), .val (.ref bc), .val (.ref bu), .val (.int kk), .val (.int (2 : Int32)), .val (.int it146)]) rfl ?_
      refine XS.aload X141.here hx rfl (hb hby dc5_162) rfl rfl ?_
      refine XS.aload X141.here hx rfl (hb hby dc5_164) rfl rfl ?_
      refine XS.iload X141.here hx rfl (hb hby dc5_166) rfl ?_
      refine X141.iaload hx (j := (2 : Int32)) (v := (.int c2)) (by rw [e141]; exact Ar147.1) (State.isArrayOf_alike hZ.alike Ar147.2.1) Ar147.2.2 hin147 hat147 (g := (mkF m 168 #[.val (.ref a1), .val (.int (3 : Int32)), .val (.ref bv), .val (.int (6 : Int32)), .val (.ref bc), .val (.ref bu), .val (.int kk), .val (.int (2 : Int32)), .val (.int it146)] [(.int (2 : Int32)), (.ref bc), (.ref bu)])) rfl rfl (hb hby dc5_168) _ ?_
      refine XS.iconst X141.here hx rfl (hb hby dc5_169) ?_
      refine XS.iadd X141.here hx rfl (hb hby dc5_170) rfl ?_
      refine XS.aload X141.here hx rfl (hb hby dc5_171) rfl rfl ?_
      refine XS.aload X141.here hx rfl (hb hby dc5_173) rfl rfl ?_
      refine XS.iload X141.here hx rfl (hb hby dc5_175) rfl ?_
      refine X141.iaload hx (j := (2 : Int32)) (v := (.int c2)) (by rw [e141]; exact Ar148.1) (State.isArrayOf_alike hZ.alike Ar148.2.1) Ar148.2.2 hin148 hat148 (g := (mkF m 177 #[.val (.ref a1), .val (.int (3 : Int32)), .val (.ref bv), .val (.int (6 : Int32)), .val (.ref bc), .val (.ref bu), .val (.int kk), .val (.int (2 : Int32)), .val (.int it146)] [(.int (2 : Int32)), (.ref bc), (.ref bu), (.int (c2 + (1 : Int32))), (.ref bu)])) rfl rfl (hb hby dc5_177) _ ?_
      refine XS.iloadN X141.here hx rfl (hb hby dc5_178) rfl ?_
      refine XS.iconst X141.here hx rfl (hb hby dc5_179) ?_
      refine XS.isub X141.here hx rfl (hb hby dc5_180) rfl ?_
      refine XS.iload X141.here hx rfl (hb hby dc5_181) rfl ?_
      refine XS.isub X141.here hx rfl (hb hby dc5_183) rfl ?_
      refine XS.aload X141.here hx rfl (hb hby dc5_184) rfl rfl ?_
      refine XS.iload X141.here hx rfl (hb hby dc5_186) rfl ?_
      refine X141.iaload hx (j := (2 : Int32)) (v := (.int c2)) (by rw [e141]; exact Ar149.1) (State.isArrayOf_alike hZ.alike Ar149.2.1) Ar149.2.2 hin149 hat149 (g := (mkF m 188 #[.val (.ref a1), .val (.int (3 : Int32)), .val (.ref bv), .val (.int (6 : Int32)), .val (.ref bc), .val (.ref bu), .val (.int kk), .val (.int (2 : Int32)), .val (.int it146)] [(.int (2 : Int32)), (.ref bc), (.int (0 : Int32)), (.int c2), (.ref bu), (.int (c2 + (1 : Int32))), (.ref bu)])) rfl rfl (hb hby dc5_188) _ ?_
      show Steps p.tables e below (T141.setTop (mkF m 189 #[.val (.ref a1), .val (.int (3 : Int32)), .val (.ref bv), .val (.int (6 : Int32)), .val (.ref bc), .val (.ref bu), .val (.int kk), .val (.int (2 : Int32)), .val (.int it146)] [(.int c2), (.int (0 : Int32)), (.int c2), (.ref bu), (.int (c2 + (1 : Int32))), (.ref bu)])) _
      refine XS.isub X141.here hx rfl (hb hby dc5_189) rfl ?_
      refine st150 _ ?_
      refine XS.aloadN X150.here hx rfl (hb hby dc5_193) rfl rfl ?_
      refine st152 _ ?_
      refine XS.iload X152.here hx rfl (hb hby dc5_197) rfl ?_
      refine XS.aloadN X152.here hx rfl (hb hby dc5_199) rfl rfl ?_
      refine st154 _ ?_
      refine XS.imul X154.here hx rfl (hb hby dc5_203) rfl ?_
      refine XS.iload X154.here hx rfl (hb hby dc5_204) rfl ?_
      refine XS.iadd X154.here hx rfl (hb hby dc5_206) rfl ?_
      refine XS.iload X154.here hx rfl (hb hby dc5_207) rfl ?_
      refine XS.i2b X154.here hx rfl (hb hby dc5_209) rfl ?_
      refine st157 _ ?_
      refine XS.iinc X157.here hx rfl (hb hby dc5_211) rfl (l' := #[.val (.ref a1), .val (.int (3 : Int32)), .val (.ref bv), .val (.int (6 : Int32)), .val (.ref bc), .val (.ref bu), .val (.int kk), .val (.int (3 : Int32)), .val (.int it146)]) rfl ?_
      refine XS.goto X157.here hx rfl (pc0 := 214) (pc' := 146) rfl (hb hby dc5_214) (by decide) (by decide) ?_
      refine XS.iload X157.here hx rfl (hb hby dc5_146) rfl ?_
      refine XS.iloadN X157.here hx rfl (hb hby dc5_148) rfl ?_
      show Steps p.tables e below (T157.setTop (mkF m 149 #[.val (.ref a1), .val (.int (3 : Int32)), .val (.ref bv), .val (.int (6 : Int32)), .val (.ref bc), .val (.ref bu), .val (.int kk), .val (.int (3 : Int32)), .val (.int it146)] [(.int (3 : Int32)), (.int (3 : Int32))])) _
      refine XS.icmpYes X157.here hx rfl (pc0 := 149) (pc' := 217) rfl (hb hby dc5_149) rfl (by decide) (by decide) (by decide) ?_
      refine XS.iconst X157.here hx rfl (hb hby dc5_217) ?_
      refine XS.istore X157.here hx rfl (hb hby dc5_218) rfl (l' := #[.val (.ref a1), .val (.int (3 : Int32)), .val (.ref bv), .val (.int (6 : Int32)), .val (.ref bc), .val (.ref bu), .val (.int kk), .val (.int (0 : Int32)), .val (.int it146)]) rfl ?_
      refine XS.iload X157.here hx rfl (hb hby dc5_220) rfl ?_
      refine XS.iloadN X157.here hx rfl (hb hby dc5_222) rfl ?_
      refine XS.iconst X157.here hx rfl (hb hby dc5_223) ?_
      refine XS.isub X157.here hx rfl (hb hby dc5_224) rfl ?_
      show Steps p.tables e below (T157.setTop (mkF m 225 #[.val (.ref a1), .val (.int (3 : Int32)), .val (.ref bv), .val (.int (6 : Int32)), .val (.ref bc), .val (.ref bu), .val (.int kk), .val (.int (0 : Int32)), .val (.int it146)] [(.int (2 : Int32)), (.int (0 : Int32))])) _
      refine XS.icmpNo X157.here hx rfl (hb hby dc5_225) rfl (by decide) ?_
      show Steps p.tables e below (T157.setTop (mkF m 228 #[.val (.ref a1), .val (.int (3 : Int32)), .val (.ref bv), .val (.int (6 : Int32)), .val (.ref bc), .val (.ref bu), .val (.int kk), .val (.int (0 : Int32)), .val (.int it146)] [])) _
      refine XS.aloadN X157.here hx rfl (hb hby dc5_228) rfl rfl ?_
      refine st159 _ ?_
      refine XS.iload X159.here hx rfl (hb hby dc5_232) rfl ?_
      refine XS.iloadN X159.here hx rfl (hb hby dc5_234) rfl ?_
      refine XS.iconst X159.here hx rfl (hb hby dc5_235) ?_
      refine XS.isub X159.here hx rfl (hb hby dc5_236) rfl ?_
      refine XS.imul X159.here hx rfl (hb hby dc5_237) rfl ?_
      refine XS.iload X159.here hx rfl (hb hby dc5_238) rfl ?_
      refine XS.iadd X159.here hx rfl (hb hby dc5_240) rfl ?_
      refine XS.iload X159.here hx rfl (hb hby dc5_241) rfl ?_
      refine XS.aload X159.here hx rfl (hb hby dc5_243) rfl rfl ?_
      refine XS.aloadN X159.here hx rfl (hb hby dc5_245) rfl rfl ?_
      refine XS.iload X159.here hx rfl (hb hby dc5_246) rfl ?_
      refine st163 _ ?_
      refine st166 _ ?_
      refine XS.iinc X166.here hx rfl (hb hby dc5_252) rfl (l' := #[.val (.ref a1), .val (.int (3 : Int32)), .val (.ref bv), .val (.int (6 : Int32)), .val (.ref bc), .val (.ref bu), .val (.int kk), .val (.int (1 : Int32)), .val (.int it146)]) rfl ?_
      refine XS.goto X166.here hx rfl (pc0 := 255) (pc' := 220) rfl (hb hby dc5_255) (by decide) (by decide) ?_
      refine XS.iload X166.here hx rfl (hb hby dc5_220) rfl ?_
      refine XS.iloadN X166.here hx rfl (hb hby dc5_222) rfl ?_
      refine XS.iconst X166.here hx rfl (hb hby dc5_223) ?_
      refine XS.isub X166.here hx rfl (hb hby dc5_224) rfl ?_
      show Steps p.tables e below (T166.setTop (mkF m 225 #[.val (.ref a1), .val (.int (3 : Int32)), .val (.ref bv), .val (.int (6 : Int32)), .val (.ref bc), .val (.ref bu), .val (.int kk), .val (.int (1 : Int32)), .val (.int it146)] [(.int (2 : Int32)), (.int (1 : Int32))])) _
      refine XS.icmpNo X166.here hx rfl (hb hby dc5_225) rfl (by decide) ?_
      refine XS.aloadN X166.here hx rfl (hb hby dc5_228) rfl rfl ?_
      refine st168 _ ?_
      refine XS.iload X168.here hx rfl (hb hby dc5_232) rfl ?_
      show Steps p.tables e below (T168.setTop (mkF m 234 #[.val (.ref a1), .val (.int (3 : Int32)), .val (.ref bv), .val (.int (6 : Int32)), .val (.ref bc), .val (.ref bu), .val (.int kk), .val (.int (1 : Int32)), .val (.int it146)] [(.int kk), (.ref bs)])) _
      refine XS.iloadN X168.here hx rfl (hb hby dc5_234) rfl ?_
      refine XS.iconst X168.here hx rfl (hb hby dc5_235) ?_
      refine XS.isub X168.here hx rfl (hb hby dc5_236) rfl ?_
      refine XS.imul X168.here hx rfl (hb hby dc5_237) rfl ?_
      refine XS.iload X168.here hx rfl (hb hby dc5_238) rfl ?_
      refine XS.iadd X168.here hx rfl (hb hby dc5_240) rfl ?_
      refine XS.iload X168.here hx rfl (hb hby dc5_241) rfl ?_
      refine XS.aload X168.here hx rfl (hb hby dc5_243) rfl rfl ?_
      refine XS.aloadN X168.here hx rfl (hb hby dc5_245) rfl rfl ?_
      refine XS.iload X168.here hx rfl (hb hby dc5_246) rfl ?_
      refine st172 _ ?_
      refine st174 _ ?_
      refine XS.iinc X174.here hx rfl (hb hby dc5_252) rfl (l' := #[.val (.ref a1), .val (.int (3 : Int32)), .val (.ref bv), .val (.int (6 : Int32)), .val (.ref bc), .val (.ref bu), .val (.int kk), .val (.int (2 : Int32)), .val (.int it146)]) rfl ?_
      refine XS.goto X174.here hx rfl (pc0 := 255) (pc' := 220) rfl (hb hby dc5_255) (by decide) (by decide) ?_
      refine XS.iload X174.here hx rfl (hb hby dc5_220) rfl ?_
      refine XS.iloadN X174.here hx rfl (hb hby dc5_222) rfl ?_
      refine XS.iconst X174.here hx rfl (hb hby dc5_223) ?_
      refine XS.isub X174.here hx rfl (hb hby dc5_224) rfl ?_
      show Steps p.tables e below (T174.setTop (mkF m 225 #[.val (.ref a1), .val (.int (3 : Int32)), .val (.ref bv), .val (.int (6 : Int32)), .val (.ref bc), .val (.ref bu), .val (.int kk), .val (.int (2 : Int32)), .val (.int it146)] [(.int (2 : Int32)), (.int (2 : Int32))])) _
      refine XS.icmpYes X174.here hx rfl (pc0 := 225) (pc' := 258) rfl (hb hby dc5_225) rfl (by decide) (by decide) (by decide) ?_
      refine XS.iloadN X174.here hx rfl (hb hby dc5_258) rfl ?_
      refine XS.iconst X174.here hx rfl (hb hby dc5_259) ?_
      refine XS.isub X174.here hx rfl (hb hby dc5_260) rfl ?_
      refine XS.istore X174.here hx rfl (hb hby dc5_261) rfl (l' := #[.val (.ref a1), .val (.int (3 : Int32)), .val (.ref bv), .val (.int (6 : Int32)), .val (.ref bc), .val (.ref bu), .val (.int kk), .val (.int (1 : Int32)), .val (.int it146)]) rfl ?_
      refine XS.iload X174.here hx rfl (hb hby dc5_263) rfl ?_
      show Steps p.tables e below (T174.setTop (mkF m 265 #[.val (.ref a1), .val (.int (3 : Int32)), .val (.ref bv), .val (.int (6 : Int32)), .val (.ref bc), .val (.ref bu), .val (.int kk), .val (.int (1 : Int32)), .val (.int it146)] [(.int (1 : Int32))])) _
      refine XS.ifNo X174.here hx rfl (hb hby dc5_265) rfl (by decide) ?_
      show Steps p.tables e below (T174.setTop (mkF m 268 #[.val (.ref a1), .val (.int (3 : Int32)), .val (.ref bv), .val (.int (6 : Int32)), .val (.ref bc), .val (.ref bu), .val (.int kk), .val (.int (1 : Int32)), .val (.int it146)] [])) _
      refine XS.aload X174.here hx rfl (hb hby dc5_268) rfl rfl ?_
      refine XS.iload X174.here hx rfl (hb hby dc5_270) rfl ?_
      refine X174.iaload hx (j := (1 : Int32)) (v := (.int c1)) (by rw [e174]; exact Ar176.1) (State.isArrayOf_alike hZ.alike Ar176.2.1) Ar176.2.2 hin176 hat176 (g := (mkF m 272 #[.val (.ref a1), .val (.int (3 : Int32)), .val (.ref bv), .val (.int (6 : Int32)), .val (.ref bc), .val (.ref bu), .val (.int kk), .val (.int (1 : Int32)), .val (.int it146)] [(.int (1 : Int32)), (.ref bc)])) rfl rfl (hb hby dc5_272) _ ?_
      refine XS.iloadN X174.here hx rfl (hb hby dc5_273) rfl ?_
      refine XS.iconst X174.here hx rfl (hb hby dc5_274) ?_
      refine XS.isub X174.here hx rfl (hb hby dc5_275) rfl ?_
      refine XS.iload X174.here hx rfl (hb hby dc5_276) rfl ?_
      refine XS.isub X174.here hx rfl (hb hby dc5_278) rfl ?_
      exact kt)
  by_cases hc178 : c1 < (1 : Int32)
  · skip
    obtain ⟨cl179, Ar179, q179, S179, N179_, H179, G179⟩ := id f175
    have hin179 : ¬ ((1 : Int32) < 0 ∨ cl179.slots.size ≤ ((1 : Int32)).toNatClampNeg) := inb_of S179 ⟨by decide, by decide⟩
    have hat179 : cl179.slots[((1 : Int32)).toNatClampNeg]? = some (.int c1) := H179.at hin179 rfl
    obtain ⟨cl180, Ar180, q180, S180, N180_, H180, G180⟩ := id f175
    have hin180 : ¬ ((1 : Int32) < 0 ∨ cl180.slots.size ≤ ((1 : Int32)).toNatClampNeg) := inb_of S180 ⟨by decide, by decide⟩
    obtain ⟨T181, h181, X181, e181, W181, st181⟩ := stI X174 hx hZ e174 Ar180 (j := (1 : Int32)) hin180 (g := (mkF m 290 #[.val (.ref a1), .val (.int (3 : Int32)), .val (.ref bv), .val (.int (6 : Int32)), .val (.ref bc), .val (.ref bu), .val (.int kk), .val (.int (1 : Int32)), .val (.int it146)] [(.int (c1 + (1 : Int32))), (.int (1 : Int32)), (.ref bc)])) rfl rfl (hb hby dc5_290)
    have V181 : Arv Z h181 bc kc .int (3 : Int32) [(.int c0), (.int (c1 + (1 : Int32))), (.int c2)] (.int (0 : Int32)) := Arv.set Ar180 q180 S180 N180_ H180 G180 rfl W181 1 rfl (Nat.le_of_ble_eq_true rfl)
    have N181 := Fr.snoc X181 N174 g_bc
    have pre182 : ∀ t, Steps p.tables e below (T181.setTop (mkF m 112 #[.val (.ref a1), .val (.int (3 : Int32)), .val (.ref bv), .val (.int (6 : Int32)), .val (.ref bc), .val (.ref bu), .val (.int (kk + (1 : Int32))), .val (.int (1 : Int32)), .val (.int it146)] [])) t → Steps p.tables e below (T0.setTop (mkF m 112 #[.val (.ref a1), .val (.int (3 : Int32)), .val (.ref bv), .val (.int (6 : Int32)), .val (.ref bc), .val (.ref bu), .val (.int kk), w7, w8] [])) t := fun t kt => pre177 t (by
        show Steps p.tables e below (T174.setTop (mkF m 279 #[.val (.ref a1), .val (.int (3 : Int32)), .val (.ref bv), .val (.int (6 : Int32)), .val (.ref bc), .val (.ref bu), .val (.int kk), .val (.int (1 : Int32)), .val (.int it146)] [(.int (1 : Int32)), (.int c1)])) _
        refine XS.icmpNo X174.here hx rfl (hb hby dc5_279) rfl (tlt hc178).2.1 ?_
        refine XS.aload X174.here hx rfl (hb hby dc5_282) rfl rfl ?_
        refine XS.iload X174.here hx rfl (hb hby dc5_284) rfl ?_
        jvm_step X174.here [X174.here.top, hx, (hb hby dc5_286), Value.category]
        refine X174.iaload hx (j := (1 : Int32)) (v := (.int c1)) (by rw [e174]; exact Ar179.1) (State.isArrayOf_alike hZ.alike Ar179.2.1) Ar179.2.2 hin179 hat179 (g := (mkF m 287 #[.val (.ref a1), .val (.int (3 : Int32)), .val (.ref bv), .val (.int (6 : Int32)), .val (.ref bc), .val (.ref bu), .val (.int kk), .val (.int (1 : Int32)), .val (.int it146)] [(.int (1 : Int32)), (.ref bc), (.int (1 : Int32)), (.ref bc)])) rfl rfl (hb hby dc5_287) _ ?_
        refine XS.iconst X174.here hx rfl (hb hby dc5_288) ?_
        refine XS.iadd X174.here hx rfl (hb hby dc5_289) rfl ?_
        refine st181 _ ?_
        refine XS.goto X181.here hx rfl (pc0 := 291) (pc' := 306) rfl (hb hby dc5_291) (by decide) (by decide) ?_
        refine XS.iinc X181.here hx rfl (hb hby dc5_306) rfl (l' := #[.val (.ref a1), .val (.int (3 : Int32)), .val (.ref bv), .val (.int (6 : Int32)), .val (.ref bc), .val (.ref bu), .val (.int (kk + (1 : Int32))), .val (.int (1 : Int32)), .val (.int it146)]) rfl ?_
        refine XS.goto X181.here hx rfl (pc0 := 309) (pc' := 112) rfl (hb hby dc5_309) (by decide) (by decide) ?_
        exact kt)
    have K183 : Keep h0 h181 [bp, bs, bc, bu] := (Keep.wr (Keep.wr (Keep.wr (Keep.wr (Keep.trans (Keep.wr (Keep.trans (Keep.wr (Keep.trans (Keep.wr (Keep.wr (Keep.wr (Keep.refl h0 [bp, bs, bc, bu]) W103 (Or.inl (List.mem_of_getElem? (i := 3) rfl))) W105 (Or.inl (List.mem_of_getElem? (i := 3) rfl))) W107 (Or.inl (List.mem_of_getElem? (i := 3) rfl))) K115 (allS (P := fun x => x ∈ [bp, bs, bc, bu] ∨ h0.size ≤ x) (Or.inl (List.mem_of_getElem? (i := 3) rfl)) all0)) W124 (Or.inl (List.mem_of_getElem? (i := 0) rfl))) K133 (allS (P := fun x => x ∈ [bp, bs, bc, bu] ∨ h0.size ≤ x) (Or.inl (List.mem_of_getElem? (i := 3) rfl)) all0)) W141 (Or.inl (List.mem_of_getElem? (i := 0) rfl))) K150 (allS (P := fun x => x ∈ [bp, bs, bc, bu] ∨ h0.size ≤ x) (Or.inl (List.mem_of_getElem? (i := 3) rfl)) all0)) W157 (Or.inl (List.mem_of_getElem? (i := 0) rfl))) W166 (Or.inl (List.mem_of_getElem? (i := 1) rfl))) W174 (Or.inl (List.mem_of_getElem? (i := 1) rfl))) W181 (Or.inl (List.mem_of_getElem? (i := 2) rfl)))
    have O184 : Old Z n0 h181 := ((O169.wr W174 g_bs).wr W181 g_bc)
    have f185 := ((((V150.other W157 (Ne.symm ne_bp_bu)).other W166 (Ne.symm ne_bs_bu)).other W174 (Ne.symm ne_bs_bu)).other W181 (Ne.symm ne_bc_bu))
    have f186 := (((A157.other W166 ne_bp_bs).other W174 ne_bp_bs).other W181 ne_bp_bc)
    have f187 := (A174.other W181 ne_bs_bc)
    have f188 := ((f171.other W174 ne_bv_bs).other W181 ne_bv_bc)
    have f189 := ((((((((((((Eo.wr W103).wr W105).wr W107).keep K115).wr W124).keep K133).wr W141).keep K150).wr W157).wr W166).wr W174).wr W181)
    have f190 := ((((((((((((Fi.other W103 (Or.inl ne_a1_bu)).other W105 (Or.inl ne_a1_bu)).other W107 (Or.inl ne_a1_bu)).keep K115 (ninS ne_a1_bu nin0)).other W124 (Or.inl ne_a1_bp)).keep K133 (ninS ne_a1_bu nin0)).other W141 (Or.inl ne_a1_bp)).keep K150 (ninS ne_a1_bu nin0)).other W157 (Or.inl ne_a1_bp)).other W166 (Or.inl ne_a1_bs)).other W174 (Or.inl ne_a1_bs)).other W181 (Or.inl ne_a1_bc))
    have f191 := ((((f153.other W157 (Or.inl ne_a1_bp)).other W166 (Or.inl ne_a1_bs)).other W174 (Or.inl ne_a1_bs)).other W181 (Or.inl ne_a1_bc))
    have f192 := ((((f151.other W157 (Or.inl ne_a1_bp)).other W166 (Or.inl ne_a1_bs)).other W174 (Or.inl ne_a1_bs)).other W181 (Or.inl ne_a1_bc))
    have f193 := ((f167.other W174 (Or.inl ne_a1_bs)).other W181 (Or.inl ne_a1_bc))
    subst hkk
    subst hc0 hc1 hc2
    obtain ⟨r0, r1, r2⟩ := own_in3_0 k hc178
    have Vz : Arv Z h181 bc kc .int (3 : Int32) [(.int (own_d3_0 (k.val + 1))), (.int (own_d3_1 (k.val + 1))), (.int (own_d3_2 (k.val + 1)))] (.int (0 : Int32)) := by
      rw [← r0, ← r1, ← r2]; exact V181
    refine ⟨_, _, _, .val (.int (1 : Int32)), .val (.int it146), X181, e181, N181, O184, K183, f189, f190, f191, f192, f193, f188, Vz, ⟨_, _, _, f185⟩, ?_, ?_, One.val rfl, One.val rfl, ?_⟩
    · subst hit111 hu116 hu117 hit129 hu134 hit146; exact f186
    · subst hit111 hu116 hu117 hit129 hu134 hit146; exact f187
    · intro t kt; refine pre182 t ?_; rw [own_next]; exact kt
  · skip
    obtain ⟨cl194, Ar194, q194, S194, N194_, H194, G194⟩ := id f175
    have hin194 : ¬ ((1 : Int32) < 0 ∨ cl194.slots.size ≤ ((1 : Int32)).toNatClampNeg) := inb_of S194 ⟨by decide, by decide⟩
    obtain ⟨T195, h195, X195, e195, W195, st195⟩ := stI X174 hx hZ e174 Ar194 (j := (1 : Int32)) hin194 (g := (mkF m 299 #[.val (.ref a1), .val (.int (3 : Int32)), .val (.ref bv), .val (.int (6 : Int32)), .val (.ref bc), .val (.ref bu), .val (.int kk), .val (.int (1 : Int32)), .val (.int it146)] [(.int (0 : Int32)), (.int (1 : Int32)), (.ref bc)])) rfl rfl (hb hby dc5_299)
    have V195 : Arv Z h195 bc kc .int (3 : Int32) [(.int c0), (.int (0 : Int32)), (.int c2)] (.int (0 : Int32)) := Arv.set Ar194 q194 S194 N194_ H194 G194 rfl W195 1 rfl (Nat.le_of_ble_eq_true rfl)
    have N195 := Fr.snoc X195 N174 g_bc
    obtain ⟨cl196, Ar196, q196, S196, N196_, H196, G196⟩ := id V195
    have hin196 : ¬ ((0 : Int32) < 0 ∨ cl196.slots.size ≤ ((0 : Int32)).toNatClampNeg) := inb_of S196 ⟨by decide, by decide⟩
    have hat196 : cl196.slots[((0 : Int32)).toNatClampNeg]? = some (.int c0) := H196.at hin196 rfl
    have pre197 : ∀ t, Steps p.tables e below (T195.setTop (mkF m 279 #[.val (.ref a1), .val (.int (3 : Int32)), .val (.ref bv), .val (.int (6 : Int32)), .val (.ref bc), .val (.ref bu), .val (.int kk), .val (.int (0 : Int32)), .val (.int it146)] [(.int (2 : Int32)), (.int c0)])) t → Steps p.tables e below (T0.setTop (mkF m 112 #[.val (.ref a1), .val (.int (3 : Int32)), .val (.ref bv), .val (.int (6 : Int32)), .val (.ref bc), .val (.ref bu), .val (.int kk), w7, w8] [])) t := fun t kt => pre177 t (by
        show Steps p.tables e below (T174.setTop (mkF m 279 #[.val (.ref a1), .val (.int (3 : Int32)), .val (.ref bv), .val (.int (6 : Int32)), .val (.ref bc), .val (.ref bu), .val (.int kk), .val (.int (1 : Int32)), .val (.int it146)] [(.int (1 : Int32)), (.int c1)])) _
        refine XS.icmpYes X174.here hx rfl (pc0 := 279) (pc' := 294) rfl (hb hby dc5_279) rfl (flt hc178).2.1 (by decide) (by decide) ?_
        refine XS.aload X174.here hx rfl (hb hby dc5_294) rfl rfl ?_
        refine XS.iload X174.here hx rfl (hb hby dc5_296) rfl ?_
        refine XS.iconst X174.here hx rfl (hb hby dc5_298) ?_
        refine st195 _ ?_
        show Steps p.tables e below (T195.setTop (mkF m 300 #[.val (.ref a1), .val (.int (3 : Int32)), .val (.ref bv), .val (.int (6 : Int32)), .val (.ref bc), .val (.ref bu), .val (.int kk), .val (.int (1 : Int32)), .val (.int it146)] [])) _
        refine XS.iinc X195.here hx rfl (hb hby dc5_300) rfl (l' := #[.val (.ref a1), .val (.int (3 : Int32)), .val (.ref bv), .val (.int (6 : Int32)), .val (.ref bc), .val (.ref bu), .val (.int kk), .val (.int (0 : Int32)), .val (.int it146)]) rfl ?_
        refine XS.goto X195.here hx rfl (pc0 := 303) (pc' := 263) rfl (hb hby dc5_303) (by decide) (by decide) ?_
        refine XS.iload X195.here hx rfl (hb hby dc5_263) rfl ?_
        show Steps p.tables e below (T195.setTop (mkF m 265 #[.val (.ref a1), .val (.int (3 : Int32)), .val (.ref bv), .val (.int (6 : Int32)), .val (.ref bc), .val (.ref bu), .val (.int kk), .val (.int (0 : Int32)), .val (.int it146)] [(.int (0 : Int32))])) _
        refine XS.ifNo X195.here hx rfl (hb hby dc5_265) rfl (by decide) ?_
        refine XS.aload X195.here hx rfl (hb hby dc5_268) rfl rfl ?_
        refine XS.iload X195.here hx rfl (hb hby dc5_270) rfl ?_
        refine X195.iaload hx (j := (0 : Int32)) (v := (.int c0)) (by rw [e195]; exact Ar196.1) (State.isArrayOf_alike hZ.alike Ar196.2.1) Ar196.2.2 hin196 hat196 (g := (mkF m 272 #[.val (.ref a1), .val (.int (3 : Int32)), .val (.ref bv), .val (.int (6 : Int32)), .val (.ref bc), .val (.ref bu), .val (.int kk), .val (.int (0 : Int32)), .val (.int it146)] [(.int (0 : Int32)), (.ref bc)])) rfl rfl (hb hby dc5_272) _ ?_
        refine XS.iloadN X195.here hx rfl (hb hby dc5_273) rfl ?_
        refine XS.iconst X195.here hx rfl (hb hby dc5_274) ?_
        refine XS.isub X195.here hx rfl (hb hby dc5_275) rfl ?_
        refine XS.iload X195.here hx rfl (hb hby dc5_276) rfl ?_
        refine XS.isub X195.here hx rfl (hb hby dc5_278) rfl ?_
        exact kt)
    by_cases hc198 : c0 < (2 : Int32)
    · skip
      obtain ⟨cl199, Ar199, q199, S199, N199_, H199, G199⟩ := id V195
      have hin199 : ¬ ((0 : Int32) < 0 ∨ cl199.slots.size ≤ ((0 : Int32)).toNatClampNeg) := inb_of S199 ⟨by decide, by decide⟩
      have hat199 : cl199.slots[((0 : Int32)).toNatClampNeg]? = some (.int c0) := H199.at hin199 rfl
      obtain ⟨cl200, Ar200, q200, S200, N200_, H200, G200⟩ := id V195
      have hin200 : ¬ ((0 : Int32) < 0 ∨ cl200.slots.size ≤ ((0 : Int32)).toNatClampNeg) := inb_of S200 ⟨by decide, by decide⟩
      obtain ⟨T201, h201, X201, e201, W201, st201⟩ := stI X195 hx hZ e195 Ar200 (j := (0 : Int32)) hin200 (g := (mkF m 290 #[.val (.ref a1), .val (.int (3 : Int32)), .val (.ref bv), .val (.int (6 : Int32)), .val (.ref bc), .val (.ref bu), .val (.int kk), .val (.int (0 : Int32)), .val (.int it146)] [(.int (c0 + (1 : Int32))), (.int (0 : Int32)), (.ref bc)])) rfl rfl (hb hby dc5_290)
      have V201 : Arv Z h201 bc kc .int (3 : Int32) [(.int (c0 + (1 : Int32))), (.int (0 : Int32)), (.int c2)] (.int (0 : Int32)) := Arv.set Ar200 q200 S200 N200_ H200 G200 rfl W201 0 rfl (Nat.le_of_ble_eq_true rfl)
      have N201 := Fr.snoc X201 N195 g_bc
      have pre202 : ∀ t, Steps p.tables e below (T201.setTop (mkF m 112 #[.val (.ref a1), .val (.int (3 : Int32)), .val (.ref bv), .val (.int (6 : Int32)), .val (.ref bc), .val (.ref bu), .val (.int (kk + (1 : Int32))), .val (.int (0 : Int32)), .val (.int it146)] [])) t → Steps p.tables e below (T0.setTop (mkF m 112 #[.val (.ref a1), .val (.int (3 : Int32)), .val (.ref bv), .val (.int (6 : Int32)), .val (.ref bc), .val (.ref bu), .val (.int kk), w7, w8] [])) t := fun t kt => pre197 t (by
          show Steps p.tables e below (T195.setTop (mkF m 279 #[.val (.ref a1), .val (.int (3 : Int32)), .val (.ref bv), .val (.int (6 : Int32)), .val (.ref bc), .val (.ref bu), .val (.int kk), .val (.int (0 : Int32)), .val (.int it146)] [(.int (2 : Int32)), (.int c0)])) _
          refine XS.icmpNo X195.here hx rfl (hb hby dc5_279) rfl (tlt hc198).2.1 ?_
          refine XS.aload X195.here hx rfl (hb hby dc5_282) rfl rfl ?_
          refine XS.iload X195.here hx rfl (hb hby dc5_284) rfl ?_
          jvm_step X195.here [X195.here.top, hx, (hb hby dc5_286), Value.category]
          refine X195.iaload hx (j := (0 : Int32)) (v := (.int c0)) (by rw [e195]; exact Ar199.1) (State.isArrayOf_alike hZ.alike Ar199.2.1) Ar199.2.2 hin199 hat199 (g := (mkF m 287 #[.val (.ref a1), .val (.int (3 : Int32)), .val (.ref bv), .val (.int (6 : Int32)), .val (.ref bc), .val (.ref bu), .val (.int kk), .val (.int (0 : Int32)), .val (.int it146)] [(.int (0 : Int32)), (.ref bc), (.int (0 : Int32)), (.ref bc)])) rfl rfl (hb hby dc5_287) _ ?_
          refine XS.iconst X195.here hx rfl (hb hby dc5_288) ?_
          refine XS.iadd X195.here hx rfl (hb hby dc5_289) rfl ?_
          refine st201 _ ?_
          refine XS.goto X201.here hx rfl (pc0 := 291) (pc' := 306) rfl (hb hby dc5_291) (by decide) (by decide) ?_
          refine XS.iinc X201.here hx rfl (hb hby dc5_306) rfl (l' := #[.val (.ref a1), .val (.int (3 : Int32)), .val (.ref bv), .val (.int (6 : Int32)), .val (.ref bc), .val (.ref bu), .val (.int (kk + (1 : Int32))), .val (.int (0 : Int32)), .val (.int it146)]) rfl ?_
          refine XS.goto X201.here hx rfl (pc0 := 309) (pc' := 112) rfl (hb hby dc5_309) (by decide) (by decide) ?_
          exact kt)
      have K203 : Keep h0 h201 [bp, bs, bc, bu] := (Keep.wr (Keep.wr (Keep.wr (Keep.wr (Keep.wr (Keep.trans (Keep.wr (Keep.trans (Keep.wr (Keep.trans (Keep.wr (Keep.wr (Keep.wr (Keep.refl h0 [bp, bs, bc, bu]) W103 (Or.inl (List.mem_of_getElem? (i := 3) rfl))) W105 (Or.inl (List.mem_of_getElem? (i := 3) rfl))) W107 (Or.inl (List.mem_of_getElem? (i := 3) rfl))) K115 (allS (P := fun x => x ∈ [bp, bs, bc, bu] ∨ h0.size ≤ x) (Or.inl (List.mem_of_getElem? (i := 3) rfl)) all0)) W124 (Or.inl (List.mem_of_getElem? (i := 0) rfl))) K133 (allS (P := fun x => x ∈ [bp, bs, bc, bu] ∨ h0.size ≤ x) (Or.inl (List.mem_of_getElem? (i := 3) rfl)) all0)) W141 (Or.inl (List.mem_of_getElem? (i := 0) rfl))) K150 (allS (P := fun x => x ∈ [bp, bs, bc, bu] ∨ h0.size ≤ x) (Or.inl (List.mem_of_getElem? (i := 3) rfl)) all0)) W157 (Or.inl (List.mem_of_getElem? (i := 0) rfl))) W166 (Or.inl (List.mem_of_getElem? (i := 1) rfl))) W174 (Or.inl (List.mem_of_getElem? (i := 1) rfl))) W195 (Or.inl (List.mem_of_getElem? (i := 2) rfl))) W201 (Or.inl (List.mem_of_getElem? (i := 2) rfl)))
      have O204 : Old Z n0 h201 := (((O169.wr W174 g_bs).wr W195 g_bc).wr W201 g_bc)
      have f205 := (((((V150.other W157 (Ne.symm ne_bp_bu)).other W166 (Ne.symm ne_bs_bu)).other W174 (Ne.symm ne_bs_bu)).other W195 (Ne.symm ne_bc_bu)).other W201 (Ne.symm ne_bc_bu))
      have f206 := ((((A157.other W166 ne_bp_bs).other W174 ne_bp_bs).other W195 ne_bp_bc).other W201 ne_bp_bc)
      have f207 := ((A174.other W195 ne_bs_bc).other W201 ne_bs_bc)
      have f208 := (((f171.other W174 ne_bv_bs).other W195 ne_bv_bc).other W201 ne_bv_bc)
      have f209 := (((((((((((((Eo.wr W103).wr W105).wr W107).keep K115).wr W124).keep K133).wr W141).keep K150).wr W157).wr W166).wr W174).wr W195).wr W201)
      have f210 := (((((((((((((Fi.other W103 (Or.inl ne_a1_bu)).other W105 (Or.inl ne_a1_bu)).other W107 (Or.inl ne_a1_bu)).keep K115 (ninS ne_a1_bu nin0)).other W124 (Or.inl ne_a1_bp)).keep K133 (ninS ne_a1_bu nin0)).other W141 (Or.inl ne_a1_bp)).keep K150 (ninS ne_a1_bu nin0)).other W157 (Or.inl ne_a1_bp)).other W166 (Or.inl ne_a1_bs)).other W174 (Or.inl ne_a1_bs)).other W195 (Or.inl ne_a1_bc)).other W201 (Or.inl ne_a1_bc))
      have f211 := (((((f153.other W157 (Or.inl ne_a1_bp)).other W166 (Or.inl ne_a1_bs)).other W174 (Or.inl ne_a1_bs)).other W195 (Or.inl ne_a1_bc)).other W201 (Or.inl ne_a1_bc))
      have f212 := (((((f151.other W157 (Or.inl ne_a1_bp)).other W166 (Or.inl ne_a1_bs)).other W174 (Or.inl ne_a1_bs)).other W195 (Or.inl ne_a1_bc)).other W201 (Or.inl ne_a1_bc))
      have f213 := (((f167.other W174 (Or.inl ne_a1_bs)).other W195 (Or.inl ne_a1_bc)).other W201 (Or.inl ne_a1_bc))
      subst hkk
      subst hc0 hc1 hc2
      obtain ⟨r0, r1, r2⟩ := own_in3_1 k hc178 hc198
      have Vz : Arv Z h201 bc kc .int (3 : Int32) [(.int (own_d3_0 (k.val + 1))), (.int (own_d3_1 (k.val + 1))), (.int (own_d3_2 (k.val + 1)))] (.int (0 : Int32)) := by
        rw [← r0, ← r1, ← r2]; exact V201
      refine ⟨_, _, _, .val (.int (0 : Int32)), .val (.int it146), X201, e201, N201, O204, K203, f209, f210, f211, f212, f213, f208, Vz, ⟨_, _, _, f205⟩, ?_, ?_, One.val rfl, One.val rfl, ?_⟩
      · subst hit111 hu116 hu117 hit129 hu134 hit146; exact f206
      · subst hit111 hu116 hu117 hit129 hu134 hit146; exact f207
      · intro t kt; refine pre202 t ?_; rw [own_next]; exact kt
    · skip
      obtain ⟨cl214, Ar214, q214, S214, N214_, H214, G214⟩ := id V195
      have hin214 : ¬ ((0 : Int32) < 0 ∨ cl214.slots.size ≤ ((0 : Int32)).toNatClampNeg) := inb_of S214 ⟨by decide, by decide⟩
      obtain ⟨T215, h215, X215, e215, W215, st215⟩ := stI X195 hx hZ e195 Ar214 (j := (0 : Int32)) hin214 (g := (mkF m 299 #[.val (.ref a1), .val (.int (3 : Int32)), .val (.ref bv), .val (.int (6 : Int32)), .val (.ref bc), .val (.ref bu), .val (.int kk), .val (.int (0 : Int32)), .val (.int it146)] [(.int (0 : Int32)), (.int (0 : Int32)), (.ref bc)])) rfl rfl (hb hby dc5_299)
      have V215 : Arv Z h215 bc kc .int (3 : Int32) [(.int (0 : Int32)), (.int (0 : Int32)), (.int c2)] (.int (0 : Int32)) := Arv.set Ar214 q214 S214 N214_ H214 G214 rfl W215 0 rfl (Nat.le_of_ble_eq_true rfl)
      have N215 := Fr.snoc X215 N195 g_bc
      have pre216 : ∀ t, Steps p.tables e below (T215.setTop (mkF m 112 #[.val (.ref a1), .val (.int (3 : Int32)), .val (.ref bv), .val (.int (6 : Int32)), .val (.ref bc), .val (.ref bu), .val (.int (kk + (1 : Int32))), .val (.int (-1 : Int32)), .val (.int it146)] [])) t → Steps p.tables e below (T0.setTop (mkF m 112 #[.val (.ref a1), .val (.int (3 : Int32)), .val (.ref bv), .val (.int (6 : Int32)), .val (.ref bc), .val (.ref bu), .val (.int kk), w7, w8] [])) t := fun t kt => pre197 t (by
          show Steps p.tables e below (T195.setTop (mkF m 279 #[.val (.ref a1), .val (.int (3 : Int32)), .val (.ref bv), .val (.int (6 : Int32)), .val (.ref bc), .val (.ref bu), .val (.int kk), .val (.int (0 : Int32)), .val (.int it146)] [(.int (2 : Int32)), (.int c0)])) _
          refine XS.icmpYes X195.here hx rfl (pc0 := 279) (pc' := 294) rfl (hb hby dc5_279) rfl (flt hc198).2.1 (by decide) (by decide) ?_
          show Steps p.tables e below (T195.setTop (mkF m 294 #[.val (.ref a1), .val (.int (3 : Int32)), .val (.ref bv), .val (.int (6 : Int32)), .val (.ref bc), .val (.ref bu), .val (.int kk), .val (.int (0 : Int32)), .val (.int it146)] [])) _
          refine XS.aload X195.here hx rfl (hb hby dc5_294) rfl rfl ?_
          refine XS.iload X195.here hx rfl (hb hby dc5_296) rfl ?_
          refine XS.iconst X195.here hx rfl (hb hby dc5_298) ?_
          refine st215 _ ?_
          refine XS.iinc X215.here hx rfl (hb hby dc5_300) rfl (l' := #[.val (.ref a1), .val (.int (3 : Int32)), .val (.ref bv), .val (.int (6 : Int32)), .val (.ref bc), .val (.ref bu), .val (.int kk), .val (.int (-1 : Int32)), .val (.int it146)]) rfl ?_
          refine XS.goto X215.here hx rfl (pc0 := 303) (pc' := 263) rfl (hb hby dc5_303) (by decide) (by decide) ?_
          refine XS.iload X215.here hx rfl (hb hby dc5_263) rfl ?_
          show Steps p.tables e below (T215.setTop (mkF m 265 #[.val (.ref a1), .val (.int (3 : Int32)), .val (.ref bv), .val (.int (6 : Int32)), .val (.ref bc), .val (.ref bu), .val (.int kk), .val (.int (-1 : Int32)), .val (.int it146)] [(.int (-1 : Int32))])) _
          refine XS.ifYes X215.here hx rfl (pc0 := 265) (pc' := 306) rfl (hb hby dc5_265) rfl (by decide) (by decide) (by decide) ?_
          refine XS.iinc X215.here hx rfl (hb hby dc5_306) rfl (l' := #[.val (.ref a1), .val (.int (3 : Int32)), .val (.ref bv), .val (.int (6 : Int32)), .val (.ref bc), .val (.ref bu), .val (.int (kk + (1 : Int32))), .val (.int (-1 : Int32)), .val (.int it146)]) rfl ?_
          refine XS.goto X215.here hx rfl (pc0 := 309) (pc' := 112) rfl (hb hby dc5_309) (by decide) (by decide) ?_
          exact kt)
      have K217 : Keep h0 h215 [bp, bs, bc, bu] := (Keep.wr (Keep.wr (Keep.wr (Keep.wr (Keep.wr (Keep.trans (Keep.wr (Keep.trans (Keep.wr (Keep.trans (Keep.wr (Keep.wr (Keep.wr (Keep.refl h0 [bp, bs, bc, bu]) W103 (Or.inl (List.mem_of_getElem? (i := 3) rfl))) W105 (Or.inl (List.mem_of_getElem? (i := 3) rfl))) W107 (Or.inl (List.mem_of_getElem? (i := 3) rfl))) K115 (allS (P := fun x => x ∈ [bp, bs, bc, bu] ∨ h0.size ≤ x) (Or.inl (List.mem_of_getElem? (i := 3) rfl)) all0)) W124 (Or.inl (List.mem_of_getElem? (i := 0) rfl))) K133 (allS (P := fun x => x ∈ [bp, bs, bc, bu] ∨ h0.size ≤ x) (Or.inl (List.mem_of_getElem? (i := 3) rfl)) all0)) W141 (Or.inl (List.mem_of_getElem? (i := 0) rfl))) K150 (allS (P := fun x => x ∈ [bp, bs, bc, bu] ∨ h0.size ≤ x) (Or.inl (List.mem_of_getElem? (i := 3) rfl)) all0)) W157 (Or.inl (List.mem_of_getElem? (i := 0) rfl))) W166 (Or.inl (List.mem_of_getElem? (i := 1) rfl))) W174 (Or.inl (List.mem_of_getElem? (i := 1) rfl))) W195 (Or.inl (List.mem_of_getElem? (i := 2) rfl))) W215 (Or.inl (List.mem_of_getElem? (i := 2) rfl)))
      have O218 : Old Z n0 h215 := (((O169.wr W174 g_bs).wr W195 g_bc).wr W215 g_bc)
      have f219 := (((((V150.other W157 (Ne.symm ne_bp_bu)).other W166 (Ne.symm ne_bs_bu)).other W174 (Ne.symm ne_bs_bu)).other W195 (Ne.symm ne_bc_bu)).other W215 (Ne.symm ne_bc_bu))
      have f220 := ((((A157.other W166 ne_bp_bs).other W174 ne_bp_bs).other W195 ne_bp_bc).other W215 ne_bp_bc)
      have f221 := ((A174.other W195 ne_bs_bc).other W215 ne_bs_bc)
      have f222 := (((f171.other W174 ne_bv_bs).other W195 ne_bv_bc).other W215 ne_bv_bc)
      have f223 := (((((((((((((Eo.wr W103).wr W105).wr W107).keep K115).wr W124).keep K133).wr W141).keep K150).wr W157).wr W166).wr W174).wr W195).wr W215)
      have f224 := (((((((((((((Fi.other W103 (Or.inl ne_a1_bu)).other W105 (Or.inl ne_a1_bu)).other W107 (Or.inl ne_a1_bu)).keep K115 (ninS ne_a1_bu nin0)).other W124 (Or.inl ne_a1_bp)).keep K133 (ninS ne_a1_bu nin0)).other W141 (Or.inl ne_a1_bp)).keep K150 (ninS ne_a1_bu nin0)).other W157 (Or.inl ne_a1_bp)).other W166 (Or.inl ne_a1_bs)).other W174 (Or.inl ne_a1_bs)).other W195 (Or.inl ne_a1_bc)).other W215 (Or.inl ne_a1_bc))
      have f225 := (((((f153.other W157 (Or.inl ne_a1_bp)).other W166 (Or.inl ne_a1_bs)).other W174 (Or.inl ne_a1_bs)).other W195 (Or.inl ne_a1_bc)).other W215 (Or.inl ne_a1_bc))
      have f226 := (((((f151.other W157 (Or.inl ne_a1_bp)).other W166 (Or.inl ne_a1_bs)).other W174 (Or.inl ne_a1_bs)).other W195 (Or.inl ne_a1_bc)).other W215 (Or.inl ne_a1_bc))
      have f227 := (((f167.other W174 (Or.inl ne_a1_bs)).other W195 (Or.inl ne_a1_bc)).other W215 (Or.inl ne_a1_bc))
      subst hkk
      subst hc0 hc1 hc2
      obtain ⟨r0, r1, r2⟩ := own_in3_2 k hc178 hc198
      have Vz : Arv Z h215 bc kc .int (3 : Int32) [(.int (own_d3_0 (k.val + 1))), (.int (own_d3_1 (k.val + 1))), (.int (own_d3_2 (k.val + 1)))] (.int (0 : Int32)) := by
        rw [← r0, ← r1, ← r2]; exact V215
      refine ⟨_, _, _, .val (.int (-1 : Int32)), .val (.int it146), X215, e215, N215, O218, K217, f223, f224, f225, f226, f227, f222, Vz, ⟨_, _, _, f219⟩, ?_, ?_, One.val rfl, One.val rfl, ?_⟩
      · subst hit111 hu116 hu117 hit129 hu134 hit146; exact f220
      · subst hit111 hu116 hu117 hit129 hu134 hit146; exact f221
      · intro t kt; refine pre216 t ?_; rw [own_next]; exact kt
set_option maxRecDepth 65536 in
set_option maxHeartbeats 40000000 in
theorem lv3 {p : Program} {l : Launch} {e : Env} {s : State} {m : MethodId} {args : Array Value} {below : List Frame} {meth : Method} {c : Code} {T0 : State} {locs : List Loc} {Z : State} {a0 : Array Value} {h0 : Heap} {n0 : Nat} (a1 bv bp bs bc bu : Addr) (w7 w8 : Slot)
    (X0 : Stand p l e ({ frames := 2, cells := 5, slots := 39, locals := 60 } : Room) s m args below meth c T0 locs 5 39) (hx : p.tables.exec = Jvm.exec) (hZ : Z.Warmed39 s.vm) (hw : ∀ d ∈ tables_1, d.before a0 Z = true) (hby : c.code = prog_26_method_1_code) (hml : c.maxLocals = 9) (hown : s.vm.findClass "com/example/frontward/frontward/offline/Orderings" = some m.cls) (e0 : T0.heap = h0) (N0 : Fr n0 locs) (O0 : Old Z n0 h0) (Fc : Fld Z h0 a1 "com/example/frontward/frontward/offline/Orderings" "count" "I" (.int (6 : Int32))) :
    ∃ (T' : State), Stand p l e ({ frames := 2, cells := 5, slots := 39, locals := 60 } : Room) s m args below meth c T' locs 5 39 ∧ T'.heap = h0 ∧ ∀ t, Steps p.tables e below (T'.setTop (mkF m 312 #[.val (.ref a1), .val (.int (3 : Int32)), .val (.ref bv), .val (.int (6 : Int32)), .val (.ref bc), .val (.ref bu), .val (.int (6 : Int32)), w7, w8] [])) t → Steps p.tables e below (T0.setTop (mkF m 112 #[.val (.ref a1), .val (.int (3 : Int32)), .val (.ref bv), .val (.int (6 : Int32)), .val (.ref bc), .val (.ref bu), .val (.int (6 : Int32)), w7, w8] [])) t := by
  have pre0 : ∀ t, Steps p.tables e below (T0.setTop (mkF m 112 #[.val (.ref a1), .val (.int (3 : Int32)), .val (.ref bv), .val (.int (6 : Int32)), .val (.ref bc), .val (.ref bu), .val (.int (6 : Int32)), w7, w8] [])) t → Steps p.tables e below (T0.setTop (mkF m 112 #[.val (.ref a1), .val (.int (3 : Int32)), .val (.ref bv), .val (.int (6 : Int32)), .val (.ref bc), .val (.ref bu), .val (.int (6 : Int32)), w7, w8] [])) t := fun _ k => k
  obtain ⟨T101, X101, e101, st101⟩ := getF X0 hx hZ hown (host := "") (Or.inl (hw _ (List.mem_of_getElem? (i := 12) rfl))) Via.refl e0 Fc (g := (mkF m 115 #[.val (.ref a1), .val (.int (3 : Int32)), .val (.ref bv), .val (.int (6 : Int32)), .val (.ref bc), .val (.ref bu), .val (.int (6 : Int32)), w7, w8] [(.ref a1), (.int (6 : Int32))])) rfl rfl (hb hby dc5_115)
  have pre102 : ∀ t, Steps p.tables e below (T101.setTop (mkF m 312 #[.val (.ref a1), .val (.int (3 : Int32)), .val (.ref bv), .val (.int (6 : Int32)), .val (.ref bc), .val (.ref bu), .val (.int (6 : Int32)), w7, w8] [])) t → Steps p.tables e below (T0.setTop (mkF m 112 #[.val (.ref a1), .val (.int (3 : Int32)), .val (.ref bv), .val (.int (6 : Int32)), .val (.ref bc), .val (.ref bu), .val (.int (6 : Int32)), w7, w8] [])) t := fun t kt => pre0 t (by
      show Steps p.tables e below (T0.setTop (mkF m 112 #[.val (.ref a1), .val (.int (3 : Int32)), .val (.ref bv), .val (.int (6 : Int32)), .val (.ref bc), .val (.ref bu), .val (.int (6 : Int32)), w7, w8] [])) _
      refine XS.iload X0.here hx rfl (hb hby dc5_112) rfl ?_
      refine XS.aloadN X0.here hx rfl (hb hby dc5_114) rfl rfl ?_
      refine st101 _ ?_
      show Steps p.tables e below (T101.setTop (mkF m 118 #[.val (.ref a1), .val (.int (3 : Int32)), .val (.ref bv), .val (.int (6 : Int32)), .val (.ref bc), .val (.ref bu), .val (.int (6 : Int32)), w7, w8] [(.int (6 : Int32)), (.int (6 : Int32))])) _
      refine XS.icmpYes X101.here hx rfl (pc0 := 118) (pc' := 312) rfl (hb hby dc5_118) rfl (by decide) (by decide) (by decide) ?_
      exact kt)
  exact ⟨_, X101, e101, pre102⟩
theorem lp3 {p : Program} {l : Launch} {e : Env} {s : State} {m : MethodId} {args : Array Value} {below : List Frame} {meth : Method} {c : Code} {Z : State} {a0 : Array Value} {n0 : Nat} (a1 bv bp bs bc bu : Addr) (kv kc ku : ClassId) (hx : p.tables.exec = Jvm.exec) (hZ : Z.Warmed39 s.vm) (hw : ∀ d ∈ tables_1, d.before a0 Z = true) (hby : c.code = prog_26_method_1_code) (hml : c.maxLocals = 9) (hown : s.vm.findClass "com/example/frontward/frontward/offline/Orderings" = some m.cls) (ne_a1_bv : a1 ≠ bv) (ne_a1_bp : a1 ≠ bp) (ne_a1_bs : a1 ≠ bs) (ne_a1_bc : a1 ≠ bc) (ne_a1_bu : a1 ≠ bu) (ne_bv_bp : bv ≠ bp) (ne_bv_bs : bv ≠ bs) (ne_bv_bc : bv ≠ bc) (ne_bv_bu : bv ≠ bu) (ne_bp_bs : bp ≠ bs) (ne_bp_bc : bp ≠ bc) (ne_bp_bu : bp ≠ bu) (ne_bs_bc : bs ≠ bc) (ne_bs_bu : bs ≠ bu) (ne_bc_bu : bc ≠ bu) (g_bp : n0 ≤ bp) (g_bs : n0 ≤ bs) (g_bc : n0 ≤ bc) (g_bu : n0 ≤ bu) :
    ∀ (j k : Nat) (T0 : State) (h0 : Heap) (locs : List Loc) (w7 w8 : Slot), k + j = 6 → Stand p l e ({ frames := 2, cells := 5, slots := 39, locals := 60 } : Room) s m args below meth c T0 locs 5 39 → T0.heap = h0 → Fr n0 locs → Old Z n0 h0 → (One w7) → (One w8) → (Exa Z h0 a1 "com/example/frontward/frontward/offline/Orderings") → (Fld Z h0 a1 "com/example/frontward/frontward/offline/Orderings" "items" "I" (.int (3 : Int32))) → (Fld Z h0 a1 "com/example/frontward/frontward/offline/Orderings" "count" "I" (.int (6 : Int32))) → (Fld Z h0 a1 "com/example/frontward/frontward/offline/Orderings" "positions" "[B" (.ref bp)) → (Fld Z h0 a1 "com/example/frontward/frontward/offline/Orderings" "swaps" "[I" (.ref bs)) → (Arv Z h0 bv kv .int (3 : Int32) [(.int (2 : Int32)), (.int (1 : Int32)), (.int (1 : Int32))] (.int (0 : Int32))) → (Arv Z h0 bc kc .int (3 : Int32) [(.int (own_d3_0 k)), (.int (own_d3_1 k)), (.int (own_d3_2 k))] (.int (0 : Int32))) → (∃ q0 q1 q2 : Int32, Arv Z h0 bu ku .int (3 : Int32) [(.int q0), (.int q1), (.int q2)] (.int (0 : Int32))) → (La Z h0 bp .byte (18 : Int32) (own_P3 k)) → (La Z h0 bs .int (12 : Int32) (own_S3 k)) →
    ∃ (T' : State) (h' : Heap) (L' : List Loc) (w7' w8' : Slot), Stand p l e ({ frames := 2, cells := 5, slots := 39, locals := 60 } : Room) s m args below meth c T' L' 5 39 ∧ T'.heap = h' ∧ Fr n0 L' ∧ Old Z n0 h' ∧ Keep h0 h' [bp, bs, bc, bu] ∧ Exa Z h' a1 "com/example/frontward/frontward/offline/Orderings" ∧ Fld Z h' a1 "com/example/frontward/frontward/offline/Orderings" "items" "I" (.int (3 : Int32)) ∧ Fld Z h' a1 "com/example/frontward/frontward/offline/Orderings" "count" "I" (.int (6 : Int32)) ∧ Fld Z h' a1 "com/example/frontward/frontward/offline/Orderings" "positions" "[B" (.ref bp) ∧ Fld Z h' a1 "com/example/frontward/frontward/offline/Orderings" "swaps" "[I" (.ref bs) ∧ La Z h' bp .byte (18 : Int32) (own_P3 6) ∧ La Z h' bs .int (12 : Int32) (own_S3 6) ∧ ∀ t, Steps p.tables e below (T'.setTop (mkF m 312 #[.val (.ref a1), .val (.int (3 : Int32)), .val (.ref bv), .val (.int (6 : Int32)), .val (.ref bc), .val (.ref bu), .val (.int (6 : Int32)), w7', w8'] [])) t → Steps p.tables e below (T0.setTop (mkF m 112 #[.val (.ref a1), .val (.int (3 : Int32)), .val (.ref bv), .val (.int (6 : Int32)), .val (.ref bc), .val (.ref bu), .val (.int (Int32.ofNat k)), w7, w8] [])) t := by
  intro j
  induction j with
  | zero =>
    intro k T0 h0 locs w7 w8 hk X0 e0 N0 O0 hw7 hw8 Eo Fi Fc Fp Fs Vv Vc Vu Lp Ls
    have hk' : k = 6 := by omega
    subst hk'
    obtain ⟨T', X', e', st⟩ := lv3 a1 bv bp bs bc bu w7 w8 X0 hx hZ hw hby hml hown e0 N0 O0 Fc
    exact ⟨T', h0, locs, w7, w8, X', e', N0, O0, Keep.refl _ _, Eo, Fi, Fc, Fp, Fs, Lp, Ls, st⟩
  | succ j ih =>
    intro k T0 h0 locs w7 w8 hk X0 e0 N0 O0 hw7 hw8 Eo Fi Fc Fp Fs Vv Vc Vu Lp Ls
    obtain ⟨q0, q1, q2, Vu⟩ := Vu
    obtain ⟨T1, h1, L1, x7, x8, X1, e1, N1, O1, K1, Eo1, Fi1, Fc1, Fp1, Fs1, Vv1, Vc1, Vu1, Lp1, Ls1, o7, o8, st1⟩ := tn3 a1 bv bp bs bc bu kv kc ku w7 w8 ⟨k, by omega⟩ (Int32.ofNat k) (own_d3_0 k) (own_d3_1 k) (own_d3_2 k) q0 q1 q2 (own_P3 k) (own_S3 k) X0 hx hZ hw hby hml hown e0 N0 O0 hw7 hw8 Eo Fi Fc Fp Fs Vv Vc Vu Lp Ls ne_a1_bv ne_a1_bp ne_a1_bs ne_a1_bc ne_a1_bu ne_bv_bp ne_bv_bs ne_bv_bc ne_bv_bu ne_bp_bs ne_bp_bc ne_bp_bu ne_bs_bc ne_bs_bu ne_bc_bu g_bp g_bs g_bc g_bu rfl rfl rfl rfl
    obtain ⟨T2, h2, L2, y7, y8, X2, e2, N2, O2, K2, Eo2, Fi2, Fc2, Fp2, Fs2, Lp2, Ls2, st2⟩ := ih (k + 1) T1 h1 L1 x7 x8 (by omega) X1 e1 N1 O1 o7 o8 Eo1 Fi1 Fc1 Fp1 Fs1 Vv1 Vc1 Vu1 Lp1 Ls1
    exact ⟨T2, h2, L2, y7, y8, X2, e2, N2, O2, Keep.trans K1 K2 (fun x hx => Or.inl hx), Eo2, Fi2, Fc2, Fp2, Fs2, Lp2, Ls2, fun t kt => st1 t (st2 t kt)⟩
def QC3 (Z : State) (a1 : Addr) (h0 : Heap) (n0 : Nat) (v : Option Value) (h : Heap) (L : List Loc) : Prop := v = none ∧ Fr n0 L ∧ Keep h0 h [a1] ∧ ∃ bp bs : Addr, Exa Z h a1 "com/example/frontward/frontward/offline/Orderings" ∧ Fld Z h a1 "com/example/frontward/frontward/offline/Orderings" "items" "I" (.int (3 : Int32)) ∧ Fld Z h a1 "com/example/frontward/frontward/offline/Orderings" "count" "I" (.int (6 : Int32)) ∧ Fld Z h a1 "com/example/frontward/frontward/offline/Orderings" "positions" "[B" (.ref bp) ∧ Fld Z h a1 "com/example/frontward/frontward/offline/Orderings" "swaps" "[I" (.ref bs) ∧ La Z h bp .byte (18 : Int32) own_PL3 ∧ La Z h bs .int (12 : Int32) own_SL3
set_option maxRecDepth 65536 in
set_option maxHeartbeats 40000000 in
theorem rmC3 (l : Launch) (Z : State) (a0 : Array Value) (hw : ∀ d ∈ tables_1, d.before a0 Z = true) (ws : List Jvm.Cond) (a1 : Addr) (h0 : Heap) (n0 : Nat) (O0 : Old Z n0 h0) (E1 : Exa Z h0 a1 "com/example/frontward/frontward/offline/Orderings") (F_items : Fld Z h0 a1 "com/example/frontward/frontward/offline/Orderings" "items" "I" (.int (0 : Int32))) (F_count : Fld Z h0 a1 "com/example/frontward/frontward/offline/Orderings" "count" "I" (.int (0 : Int32))) (F_positions : Fld Z h0 a1 "com/example/frontward/frontward/offline/Orderings" "positions" "[B" .null) (F_swaps : Fld Z h0 a1 "com/example/frontward/frontward/offline/Orderings" "swaps" "[I" .null) (g1 : n0 ≤ a1) :
    MetFree l (⟨"com/example/frontward/frontward/offline/Orderings", "<init>", "(I)V"⟩ : MethodName) (head1 (Jvm.Cond.code (⟨"com/example/frontward/frontward/offline/Orderings", "<init>", "(I)V"⟩ : MethodName) prog_26_method_1_code 9 none :: ws) ({ frames := 2, cells := 5, slots := 39, locals := 60 } : Room)) (fun a U => a = #[(.ref a1), (.int (3 : Int32))] ∧ Z.Warmed39 U.vm ∧ U.heap = h0) (fun _ _ _ _ _ => True) (fun _ U o U' => ∃ v L, o = .returned v ∧ QC3 Z a1 h0 n0 v U'.heap L ∧ FrameEnd U o U' L ({ frames := 2, cells := 5, slots := 39, locals := 60 } : Room).cells ({ frames := 2, cells := 5, slots := 39, locals := 60 } : Room).slots) := by
  refine MetFree.of_bodySF (plainFor_of_name pn_0) hisR ?_
  intro p e s m args below meth c s₁ Bd hml0 hP hK
  obtain ⟨rfl, hZ, hh⟩ := hP
  have hx := Bd.exec
  have hby := Bd.bytes
  have hml : c.maxLocals = 9 := hml0
  have hown : s.vm.findClass "com/example/frontward/frontward/offline/Orderings" = some m.cls := findClass_of_methodNamed Bd.named
  have hnm := (name_of_methodNamed Bd.named Bd.method).1
  have X0 : Stand p l e ({ frames := 2, cells := 5, slots := 39, locals := 60 } : Room) s m #[(.ref a1), (.int (3 : Int32))] below meth c s₁ [] 0 0 := Stand.of_body Bd
  have e0 : s₁.heap = h0 := by rw [← hh, Bd.state]; rfl
  have N0 := Fr.nil n0
  have pre0 : ∀ t, Steps p.tables e below (s₁.setTop (mkF m 0 #[.val (.ref a1), .val (.int (3 : Int32)), .unset, .unset, .unset, .unset, .unset, .unset, .unset] [])) t → Steps p.tables e below (s₁.setTop (entryFrame m #[(.ref a1), (.int (3 : Int32))] 9)) t := fun t k => castTop (ef_4 m a1 (3 : Int32)) k
  obtain ⟨T101, X101, e101, st101⟩ := initO X0 hx hZ hown (hw _ (List.mem_of_getElem? (i := 6) rfl)) (hw _ (List.mem_of_getElem? (i := 7) rfl)) (hw _ (List.mem_of_getElem? (i := 8) rfl)) e0 (g := (mkF m 1 #[.val (.ref a1), .val (.int (3 : Int32)), .unset, .unset, .unset, .unset, .unset, .unset, .unset] [(.ref a1)])) rfl (by rw [hml]; rfl) rfl (hb hby dc5_1) (by decide) (W := 0) (by show 2 * 0 + _ ≤ _; exact Nat.le_of_eq rfl) (by decide)
  obtain ⟨T102, h102, k102, X102, e102, E102, A102, st102⟩ := newP X101 hx hZ (hw _ (List.mem_of_getElem? (i := 9) rfl)) e101 (g := (mkF m 30 #[.val (.ref a1), .val (.int (3 : Int32)), .unset, .unset, .unset, .unset, .unset, .unset, .unset] [(.int (3 : Int32))])) rfl (hb hby dc5_30) rfl (by decide) (cap := 3) (by decide) (by decide) (by decide) (by decide)
  obtain ⟨b102, g102⟩ : ∃ z, z = h0.size := ⟨_, rfl⟩
  rw [← g102] at A102 st102
  have gb102 : n0 ≤ b102 := by rw [g102, ← O0.1]; exact O0.2.1
  have ne102_a1 : a1 ≠ b102 := by rw [g102]; exact Nat.ne_of_lt (E1).lt
  have sz102 : h0.size ≤ b102 := by rw [g102]; exact ((Keep.refl h0 [a1])).1
  have V102 : Arv Z h102 b102 k102 .int (3 : Int32) [(.int (0 : Int32)), (.int (0 : Int32)), (.int (0 : Int32))] (.int (0 : Int32)) := (Arv.new A102 (by decide)).pad (pad_rep [] (.int (0 : Int32)) 3)
  obtain ⟨cl103, Ar103, q103, S103, N103_, H103, G103⟩ := id V102
  have hin103 : ¬ ((2 : Int32) < 0 ∨ cl103.slots.size ≤ ((2 : Int32)).toNatClampNeg) := inb_of S103 ⟨by decide, by decide⟩
  obtain ⟨T104, h104, X104, e104, W104, st104⟩ := stI X102 hx hZ e102 Ar103 (j := (2 : Int32)) hin103 (g := (mkF m 49 #[.val (.ref a1), .val (.int (3 : Int32)), .val (.ref b102), .val (.int (1 : Int32)), .val (.int (2 : Int32)), .unset, .unset, .unset, .unset] [(.int (1 : Int32)), (.int (2 : Int32)), (.ref b102)])) rfl rfl (hb hby dc5_49)
  have V104 : Arv Z h104 b102 k102 .int (3 : Int32) [(.int (0 : Int32)), (.int (0 : Int32)), (.int (1 : Int32))] (.int (0 : Int32)) := Arv.set Ar103 q103 S103 N103_ H103 G103 rfl W104 2 rfl (Nat.le_of_ble_eq_true rfl)
  have N104 := Fr.snoc X104 N0 gb102
  obtain ⟨cl105, Ar105, q105, S105, N105_, H105, G105⟩ := id V104
  have hin105 : ¬ ((1 : Int32) < 0 ∨ cl105.slots.size ≤ ((1 : Int32)).toNatClampNeg) := inb_of S105 ⟨by decide, by decide⟩
  obtain ⟨T106, h106, X106, e106, W106, st106⟩ := stI X104 hx hZ e104 Ar105 (j := (1 : Int32)) hin105 (g := (mkF m 49 #[.val (.ref a1), .val (.int (3 : Int32)), .val (.ref b102), .val (.int (1 : Int32)), .val (.int (1 : Int32)), .unset, .unset, .unset, .unset] [(.int (1 : Int32)), (.int (1 : Int32)), (.ref b102)])) rfl rfl (hb hby dc5_49)
  have V106 : Arv Z h106 b102 k102 .int (3 : Int32) [(.int (0 : Int32)), (.int (1 : Int32)), (.int (1 : Int32))] (.int (0 : Int32)) := Arv.set Ar105 q105 S105 N105_ H105 G105 rfl W106 1 rfl (Nat.le_of_ble_eq_true rfl)
  have N106 := Fr.snoc X106 N104 gb102
  obtain ⟨cl107, Ar107, q107, S107, N107_, H107, G107⟩ := id V106
  have hin107 : ¬ ((0 : Int32) < 0 ∨ cl107.slots.size ≤ ((0 : Int32)).toNatClampNeg) := inb_of S107 ⟨by decide, by decide⟩
  obtain ⟨T108, h108, X108, e108, W108, st108⟩ := stI X106 hx hZ e106 Ar107 (j := (0 : Int32)) hin107 (g := (mkF m 49 #[.val (.ref a1), .val (.int (3 : Int32)), .val (.ref b102), .val (.int (2 : Int32)), .val (.int (0 : Int32)), .unset, .unset, .unset, .unset] [(.int (2 : Int32)), (.int (0 : Int32)), (.ref b102)])) rfl rfl (hb hby dc5_49)
  have V108 : Arv Z h108 b102 k102 .int (3 : Int32) [(.int (2 : Int32)), (.int (1 : Int32)), (.int (1 : Int32))] (.int (0 : Int32)) := Arv.set Ar107 q107 S107 N107_ H107 G107 rfl W108 0 rfl (Nat.le_of_ble_eq_true rfl)
  have N108 := Fr.snoc X108 N106 gb102
  have f109 := ((((E1.ext E102).wr W104).wr W106).wr W108)
  have f110 := ((((F_items.ext E102).other W104 (Or.inl ne102_a1)).other W106 (Or.inl ne102_a1)).other W108 (Or.inl ne102_a1))
  obtain ⟨T111, h111, X111, e111, W111, st111⟩ := putF X108 hx hZ hown (host := "") (Or.inl (hw _ (List.mem_of_getElem? (i := 10) rfl))) Via.refl e108 f110 f109 (Or.inr ⟨(hw _ (List.mem_of_getElem? (i := 11) rfl)), rfl, hnm⟩) (hw _ (List.mem_of_getElem? (i := 1) rfl)) (ty := .int) (by decide) rfl rfl (g := (mkF m 65 #[.val (.ref a1), .val (.int (3 : Int32)), .val (.ref b102), .val (.int (6 : Int32)), .val (.int (-1 : Int32)), .unset, .unset, .unset, .unset] [(.int (3 : Int32)), (.ref a1)])) rfl rfl (hb hby dc5_65)
  have Fw111 : Fld Z h111 a1 "com/example/frontward/frontward/offline/Orderings" "items" "I" (.int (3 : Int32)) := Fld.same W111 f110
  have N111 := Fr.snoc X111 N108 g1
  have f112 := (f109.wr W111)
  have f113 := (((((F_count.ext E102).other W104 (Or.inl ne102_a1)).other W106 (Or.inl ne102_a1)).other W108 (Or.inl ne102_a1)).other W111 (Or.inr (slot_ne (Or.inr (hw _ (List.mem_of_getElem? (i := 13) rfl))) (Or.inr (hw _ (List.mem_of_getElem? (i := 11) rfl))) (by decide) (t := .int) (t' := .int) (by decide) (by decide))))
  obtain ⟨T114, h114, X114, e114, W114, st114⟩ := putF X111 hx hZ hown (host := "") (Or.inl (hw _ (List.mem_of_getElem? (i := 12) rfl))) Via.refl e111 f113 f112 (Or.inr ⟨(hw _ (List.mem_of_getElem? (i := 13) rfl)), rfl, hnm⟩) (hw _ (List.mem_of_getElem? (i := 1) rfl)) (ty := .int) (by decide) rfl rfl (g := (mkF m 70 #[.val (.ref a1), .val (.int (3 : Int32)), .val (.ref b102), .val (.int (6 : Int32)), .val (.int (-1 : Int32)), .unset, .unset, .unset, .unset] [(.int (6 : Int32)), (.ref a1)])) rfl rfl (hb hby dc5_70)
  have Fw114 : Fld Z h114 a1 "com/example/frontward/frontward/offline/Orderings" "count" "I" (.int (6 : Int32)) := Fld.same W114 f113
  have N114 := Fr.snoc X114 N111 g1
  obtain ⟨T115, X115, e115, st115⟩ := getF X114 hx hZ hown (host := "") (Or.inl (hw _ (List.mem_of_getElem? (i := 12) rfl))) Via.refl e114 Fw114 (g := (mkF m 76 #[.val (.ref a1), .val (.int (3 : Int32)), .val (.ref b102), .val (.int (6 : Int32)), .val (.int (-1 : Int32)), .unset, .unset, .unset, .unset] [(.ref a1), (.int (3 : Int32)), (.ref a1)])) rfl rfl (hb hby dc5_76)
  have O116 : Old Z n0 h114 := ((((((O0.ext E102).wr W104 gb102).wr W106 gb102).wr W108 gb102).wr W111 g1).wr W114 g1)
  obtain ⟨T117, h117, k117, X117, e117, E117, A117, st117⟩ := newP X115 hx hZ (hw _ (List.mem_of_getElem? (i := 14) rfl)) e115 (g := (mkF m 80 #[.val (.ref a1), .val (.int (3 : Int32)), .val (.ref b102), .val (.int (6 : Int32)), .val (.int (-1 : Int32)), .unset, .unset, .unset, .unset] [(.int (18 : Int32)), (.ref a1)])) rfl (hb hby dc5_80) rfl (by decide) (cap := 18) (by decide) (by decide) (by decide) (by decide)
  obtain ⟨b117, g117⟩ : ∃ z, z = h114.size := ⟨_, rfl⟩
  rw [← g117] at A117 st117
  have gb117 : n0 ≤ b117 := by rw [g117, ← O116.1]; exact O116.2.1
  have f118 := (f112.wr W114)
  have ne117_a1 : a1 ≠ b117 := by rw [g117]; exact Nat.ne_of_lt (f118).lt
  have f119 := ((V108.other W111 (Ne.symm ne102_a1)).other W114 (Ne.symm ne102_a1))
  have ne117_b102 : b102 ≠ b117 := by rw [g117]; exact Nat.ne_of_lt (f119).lt
  have K120 : Keep h0 h114 [a1] := (Keep.wr (Keep.wr (Keep.wr (Keep.wr (Keep.wr (Keep.ext (Keep.refl h0 [a1]) E102) W104 (Or.inr sz102)) W106 (Or.inr sz102)) W108 (Or.inr sz102)) W111 (Or.inl (List.mem_of_getElem? (i := 0) rfl))) W114 (Or.inl (List.mem_of_getElem? (i := 0) rfl)))
  have sz117 : h0.size ≤ b117 := by rw [g117]; exact (K120).1
  have V117 : Arv Z h117 b117 k117 .byte (18 : Int32) [(.int (0 : Int32)), (.int (0 : Int32)), (.int (0 : Int32)), (.int (0 : Int32)), (.int (0 : Int32)), (.int (0 : Int32)), (.int (0 : Int32)), (.int (0 : Int32)), (.int (0 : Int32)), (.int (0 : Int32)), (.int (0 : Int32)), (.int (0 : Int32)), (.int (0 : Int32)), (.int (0 : Int32)), (.int (0 : Int32)), (.int (0 : Int32)), (.int (0 : Int32)), (.int (0 : Int32))] (.int (0 : Int32)) := (Arv.new A117 (by decide)).pad (pad_rep [] (.int (0 : Int32)) 18)
  have f121 := (f118.ext E117)
  have f122 := (((((((F_positions.ext E102).other W104 (Or.inl ne102_a1)).other W106 (Or.inl ne102_a1)).other W108 (Or.inl ne102_a1)).other W111 (Or.inr (slot_ne (Or.inr (hw _ (List.mem_of_getElem? (i := 16) rfl))) (Or.inr (hw _ (List.mem_of_getElem? (i := 11) rfl))) (by decide) (t := (.array .byte)) (t' := .int) (by decide) (by decide)))).other W114 (Or.inr (slot_ne (Or.inr (hw _ (List.mem_of_getElem? (i := 16) rfl))) (Or.inr (hw _ (List.mem_of_getElem? (i := 13) rfl))) (by decide) (t := (.array .byte)) (t' := .int) (by decide) (by decide)))).ext E117)
  obtain ⟨T123, h123, X123, e123, W123, st123⟩ := putF X117 hx hZ hown (host := "") (Or.inl (hw _ (List.mem_of_getElem? (i := 15) rfl))) Via.refl e117 f122 f121 (Or.inr ⟨(hw _ (List.mem_of_getElem? (i := 16) rfl)), rfl, hnm⟩) (hw _ (List.mem_of_getElem? (i := 1) rfl)) (ty := (.array .byte)) (by decide) rfl rfl (g := (mkF m 82 #[.val (.ref a1), .val (.int (3 : Int32)), .val (.ref b102), .val (.int (6 : Int32)), .val (.int (-1 : Int32)), .unset, .unset, .unset, .unset] [(.ref b117), (.ref a1)])) rfl rfl (hb hby dc5_82)
  have Fw123 : Fld Z h123 a1 "com/example/frontward/frontward/offline/Orderings" "positions" "[B" (.ref b117) := Fld.same W123 f122
  have N123 := Fr.snoc X123 N114 g1
  have f124 := ((Fw114.ext E117).other W123 (Or.inr (slot_ne (Or.inr (hw _ (List.mem_of_getElem? (i := 13) rfl))) (Or.inr (hw _ (List.mem_of_getElem? (i := 16) rfl))) (by decide) (t := .int) (t' := (.array .byte)) (by decide) (by decide))))
  obtain ⟨T125, X125, e125, st125⟩ := getF X123 hx hZ hown (host := "") (Or.inl (hw _ (List.mem_of_getElem? (i := 12) rfl))) Via.refl e123 f124 (g := (mkF m 90 #[.val (.ref a1), .val (.int (3 : Int32)), .val (.ref b102), .val (.int (6 : Int32)), .val (.int (-1 : Int32)), .unset, .unset, .unset, .unset] [(.ref a1), (.int (2 : Int32)), (.ref a1)])) rfl rfl (hb hby dc5_90)
  have O126 : Old Z n0 h123 := ((O116.ext E117).wr W123 g1)
  obtain ⟨T127, h127, k127, X127, e127, E127, A127, st127⟩ := newP X125 hx hZ (hw _ (List.mem_of_getElem? (i := 9) rfl)) e125 (g := (mkF m 94 #[.val (.ref a1), .val (.int (3 : Int32)), .val (.ref b102), .val (.int (6 : Int32)), .val (.int (-1 : Int32)), .unset, .unset, .unset, .unset] [(.int (12 : Int32)), (.ref a1)])) rfl (hb hby dc5_94) rfl (by decide) (cap := 12) (by decide) (by decide) (by decide) (by decide)
  obtain ⟨b127, g127⟩ : ∃ z, z = h123.size := ⟨_, rfl⟩
  rw [← g127] at A127 st127
  have gb127 : n0 ≤ b127 := by rw [g127, ← O126.1]; exact O126.2.1
  have f128 := (f121.wr W123)
  have ne127_a1 : a1 ≠ b127 := by rw [g127]; exact Nat.ne_of_lt (f128).lt
  have f129 := ((f119.ext E117).other W123 (Ne.symm ne102_a1))
  have ne127_b102 : b102 ≠ b127 := by rw [g127]; exact Nat.ne_of_lt (f129).lt
  have f130 := (V117.other W123 (Ne.symm ne117_a1))
  have ne127_b117 : b117 ≠ b127 := by rw [g127]; exact Nat.ne_of_lt (f130).lt
  have K131 : Keep h0 h123 [a1] := (Keep.wr (Keep.ext K120 E117) W123 (Or.inl (List.mem_of_getElem? (i := 0) rfl)))
  have sz127 : h0.size ≤ b127 := by rw [g127]; exact (K131).1
  have V127 : Arv Z h127 b127 k127 .int (12 : Int32) [(.int (0 : Int32)), (.int (0 : Int32)), (.int (0 : Int32)), (.int (0 : Int32)), (.int (0 : Int32)), (.int (0 : Int32)), (.int (0 : Int32)), (.int (0 : Int32)), (.int (0 : Int32)), (.int (0 : Int32)), (.int (0 : Int32)), (.int (0 : Int32))] (.int (0 : Int32)) := (Arv.new A127 (by decide)).pad (pad_rep [] (.int (0 : Int32)) 12)
  have f132 := (f128.ext E127)
  have f133 := (((((((((F_swaps.ext E102).other W104 (Or.inl ne102_a1)).other W106 (Or.inl ne102_a1)).other W108 (Or.inl ne102_a1)).other W111 (Or.inr (slot_ne (Or.inr (hw _ (List.mem_of_getElem? (i := 18) rfl))) (Or.inr (hw _ (List.mem_of_getElem? (i := 11) rfl))) (by decide) (t := (.array .int)) (t' := .int) (by decide) (by decide)))).other W114 (Or.inr (slot_ne (Or.inr (hw _ (List.mem_of_getElem? (i := 18) rfl))) (Or.inr (hw _ (List.mem_of_getElem? (i := 13) rfl))) (by decide) (t := (.array .int)) (t' := .int) (by decide) (by decide)))).ext E117).other W123 (Or.inr (slot_ne (Or.inr (hw _ (List.mem_of_getElem? (i := 18) rfl))) (Or.inr (hw _ (List.mem_of_getElem? (i := 16) rfl))) (by decide) (t := (.array .int)) (t' := (.array .byte)) (by decide) (by decide)))).ext E127)
  obtain ⟨T134, h134, X134, e134, W134, st134⟩ := putF X127 hx hZ hown (host := "") (Or.inl (hw _ (List.mem_of_getElem? (i := 17) rfl))) Via.refl e127 f133 f132 (Or.inr ⟨(hw _ (List.mem_of_getElem? (i := 18) rfl)), rfl, hnm⟩) (hw _ (List.mem_of_getElem? (i := 1) rfl)) (ty := (.array .int)) (by decide) rfl rfl (g := (mkF m 96 #[.val (.ref a1), .val (.int (3 : Int32)), .val (.ref b102), .val (.int (6 : Int32)), .val (.int (-1 : Int32)), .unset, .unset, .unset, .unset] [(.ref b127), (.ref a1)])) rfl rfl (hb hby dc5_96)
  have Fw134 : Fld Z h134 a1 "com/example/frontward/frontward/offline/Orderings" "swaps" "[I" (.ref b127) := Fld.same W134 f133
  have N134 := Fr.snoc X134 N123 g1
  have O135 : Old Z n0 h134 := ((O126.ext E127).wr W134 g1)
  obtain ⟨T136, h136, k136, X136, e136, E136, A136, st136⟩ := newP X134 hx hZ (hw _ (List.mem_of_getElem? (i := 9) rfl)) e134 (g := (mkF m 100 #[.val (.ref a1), .val (.int (3 : Int32)), .val (.ref b102), .val (.int (6 : Int32)), .val (.int (-1 : Int32)), .unset, .unset, .unset, .unset] [(.int (3 : Int32))])) rfl (hb hby dc5_100) rfl (by decide) (cap := 3) (by decide) (by decide) (by decide) (by decide)
  obtain ⟨b136, g136⟩ : ∃ z, z = h134.size := ⟨_, rfl⟩
  rw [← g136] at A136 st136
  have gb136 : n0 ≤ b136 := by rw [g136, ← O135.1]; exact O135.2.1
  have f137 := (f132.wr W134)
  have ne136_a1 : a1 ≠ b136 := by rw [g136]; exact Nat.ne_of_lt (f137).lt
  have f138 := ((f129.ext E127).other W134 (Ne.symm ne102_a1))
  have ne136_b102 : b102 ≠ b136 := by rw [g136]; exact Nat.ne_of_lt (f138).lt
  have f139 := ((f130.ext E127).other W134 (Ne.symm ne117_a1))
  have ne136_b117 : b117 ≠ b136 := by rw [g136]; exact Nat.ne_of_lt (f139).lt
  have f140 := (V127.other W134 (Ne.symm ne127_a1))
  have ne136_b127 : b127 ≠ b136 := by rw [g136]; exact Nat.ne_of_lt (f140).lt
  have K141 : Keep h0 h134 [a1] := (Keep.wr (Keep.ext K131 E127) W134 (Or.inl (List.mem_of_getElem? (i := 0) rfl)))
  have sz136 : h0.size ≤ b136 := by rw [g136]; exact (K141).1
  have V136 : Arv Z h136 b136 k136 .int (3 : Int32) [(.int (0 : Int32)), (.int (0 : Int32)), (.int (0 : Int32))] (.int (0 : Int32)) := (Arv.new A136 (by decide)).pad (pad_rep [] (.int (0 : Int32)) 3)
  have O142 : Old Z n0 h136 := (O135.ext E136)
  obtain ⟨T143, h143, k143, X143, e143, E143, A143, st143⟩ := newP X136 hx hZ (hw _ (List.mem_of_getElem? (i := 9) rfl)) e136 (g := (mkF m 105 #[.val (.ref a1), .val (.int (3 : Int32)), .val (.ref b102), .val (.int (6 : Int32)), .val (.ref b136), .unset, .unset, .unset, .unset] [(.int (3 : Int32))])) rfl (hb hby dc5_105) rfl (by decide) (cap := 3) (by decide) (by decide) (by decide) (by decide)
  obtain ⟨b143, g143⟩ : ∃ z, z = h136.size := ⟨_, rfl⟩
  rw [← g143] at A143 st143
  have gb143 : n0 ≤ b143 := by rw [g143, ← O142.1]; exact O142.2.1
  have f144 := (f137.ext E136)
  have ne143_a1 : a1 ≠ b143 := by rw [g143]; exact Nat.ne_of_lt (f144).lt
  have f145 := (f138.ext E136)
  have ne143_b102 : b102 ≠ b143 := by rw [g143]; exact Nat.ne_of_lt (f145).lt
  have f146 := (f139.ext E136)
  have ne143_b117 : b117 ≠ b143 := by rw [g143]; exact Nat.ne_of_lt (f146).lt
  have f147 := (f140.ext E136)
  have ne143_b127 : b127 ≠ b143 := by rw [g143]; exact Nat.ne_of_lt (f147).lt
  have ne143_b136 : b136 ≠ b143 := by rw [g143]; exact Nat.ne_of_lt (V136).lt
  have K148 : Keep h0 h136 [a1] := (Keep.ext K141 E136)
  have sz143 : h0.size ≤ b143 := by rw [g143]; exact (K148).1
  have V143 : Arv Z h143 b143 k143 .int (3 : Int32) [(.int (0 : Int32)), (.int (0 : Int32)), (.int (0 : Int32))] (.int (0 : Int32)) := (Arv.new A143 (by decide)).pad (pad_rep [] (.int (0 : Int32)) 3)
  have pre149 : ∀ t, Steps p.tables e below (T143.setTop (mkF m 112 #[.val (.ref a1), .val (.int (3 : Int32)), .val (.ref b102), .val (.int (6 : Int32)), .val (.ref b136), .val (.ref b143), .val (.int (0 : Int32)), .unset, .unset] [])) t → Steps p.tables e below (s₁.setTop (entryFrame m #[(.ref a1), (.int (3 : Int32))] 9)) t := fun t kt => pre0 t (by
      show Steps p.tables e below (s₁.setTop (mkF m 0 #[.val (.ref a1), .val (.int (3 : Int32)), .unset, .unset, .unset, .unset, .unset, .unset, .unset] [])) _
      refine XS.aloadN X0.here hx rfl (hb hby dc5_0) rfl rfl ?_
      refine st101 _ ?_
      refine XS.iloadN X101.here hx rfl (hb hby dc5_4) rfl ?_
      refine XS.iconst X101.here hx rfl (hb hby dc5_5) ?_
      show Steps p.tables e below (T101.setTop (mkF m 6 #[.val (.ref a1), .val (.int (3 : Int32)), .unset, .unset, .unset, .unset, .unset, .unset, .unset] [(.int (1 : Int32)), (.int (3 : Int32))])) _
      refine XS.icmpNo X101.here hx rfl (hb hby dc5_6) rfl (by decide) ?_
      refine XS.iloadN X101.here hx rfl (hb hby dc5_9) rfl ?_
      refine XS.bipush X101.here hx rfl (hb hby dc5_10) ?_
      show Steps p.tables e below (T101.setTop (mkF m 12 #[.val (.ref a1), .val (.int (3 : Int32)), .unset, .unset, .unset, .unset, .unset, .unset, .unset] [(.int (10 : Int32)), (.int (3 : Int32))])) _
      refine XS.icmpYes X101.here hx rfl (pc0 := 12) (pc' := 29) rfl (hb hby dc5_12) rfl (by decide) (by decide) (by decide) ?_
      refine XS.iloadN X101.here hx rfl (hb hby dc5_29) rfl ?_
      refine st102 _ ?_
      refine XS.astoreN X102.here hx rfl (hb hby dc5_32) rfl rfl (l' := #[.val (.ref a1), .val (.int (3 : Int32)), .val (.ref b102), .unset, .unset, .unset, .unset, .unset, .unset]) rfl ?_
      refine XS.iconst X102.here hx rfl (hb hby dc5_33) ?_
      refine XS.istoreN X102.here hx rfl (hb hby dc5_34) rfl (l' := #[.val (.ref a1), .val (.int (3 : Int32)), .val (.ref b102), .val (.int (1 : Int32)), .unset, .unset, .unset, .unset, .unset]) rfl ?_
      refine XS.iloadN X102.here hx rfl (hb hby dc5_35) rfl ?_
      refine XS.iconst X102.here hx rfl (hb hby dc5_36) ?_
      refine XS.isub X102.here hx rfl (hb hby dc5_37) rfl ?_
      refine XS.istore X102.here hx rfl (hb hby dc5_38) rfl (l' := #[.val (.ref a1), .val (.int (3 : Int32)), .val (.ref b102), .val (.int (1 : Int32)), .val (.int (2 : Int32)), .unset, .unset, .unset, .unset]) rfl ?_
      refine XS.iload X102.here hx rfl (hb hby dc5_40) rfl ?_
      show Steps p.tables e below (T102.setTop (mkF m 42 #[.val (.ref a1), .val (.int (3 : Int32)), .val (.ref b102), .val (.int (1 : Int32)), .val (.int (2 : Int32)), .unset, .unset, .unset, .unset] [(.int (2 : Int32))])) _
      refine XS.ifNo X102.here hx rfl (hb hby dc5_42) rfl (by decide) ?_
      refine XS.aloadN X102.here hx rfl (hb hby dc5_45) rfl rfl ?_
      refine XS.iload X102.here hx rfl (hb hby dc5_46) rfl ?_
      refine XS.iloadN X102.here hx rfl (hb hby dc5_48) rfl ?_
      refine st104 _ ?_
      refine XS.iloadN X104.here hx rfl (hb hby dc5_50) rfl ?_
      show Steps p.tables e below (T104.setTop (mkF m 51 #[.val (.ref a1), .val (.int (3 : Int32)), .val (.ref b102), .val (.int (1 : Int32)), .val (.int (2 : Int32)), .unset, .unset, .unset, .unset] [(.int (1 : Int32))])) _
      refine XS.iloadN X104.here hx rfl (hb hby dc5_51) rfl ?_
      refine XS.iload X104.here hx rfl (hb hby dc5_52) rfl ?_
      refine XS.isub X104.here hx rfl (hb hby dc5_54) rfl ?_
      refine XS.imul X104.here hx rfl (hb hby dc5_55) rfl ?_
      refine XS.istoreN X104.here hx rfl (hb hby dc5_56) rfl (l' := #[.val (.ref a1), .val (.int (3 : Int32)), .val (.ref b102), .val (.int (1 : Int32)), .val (.int (2 : Int32)), .unset, .unset, .unset, .unset]) rfl ?_
      refine XS.iinc X104.here hx rfl (hb hby dc5_57) rfl (l' := #[.val (.ref a1), .val (.int (3 : Int32)), .val (.ref b102), .val (.int (1 : Int32)), .val (.int (1 : Int32)), .unset, .unset, .unset, .unset]) rfl ?_
      refine XS.goto X104.here hx rfl (pc0 := 60) (pc' := 40) rfl (hb hby dc5_60) (by decide) (by decide) ?_
      refine XS.iload X104.here hx rfl (hb hby dc5_40) rfl ?_
      show Steps p.tables e below (T104.setTop (mkF m 42 #[.val (.ref a1), .val (.int (3 : Int32)), .val (.ref b102), .val (.int (1 : Int32)), .val (.int (1 : Int32)), .unset, .unset, .unset, .unset] [(.int (1 : Int32))])) _
      refine XS.ifNo X104.here hx rfl (hb hby dc5_42) rfl (by decide) ?_
      refine XS.aloadN X104.here hx rfl (hb hby dc5_45) rfl rfl ?_
      refine XS.iload X104.here hx rfl (hb hby dc5_46) rfl ?_
      refine XS.iloadN X104.here hx rfl (hb hby dc5_48) rfl ?_
      refine st106 _ ?_
      refine XS.iloadN X106.here hx rfl (hb hby dc5_50) rfl ?_
      refine XS.iloadN X106.here hx rfl (hb hby dc5_51) rfl ?_
      refine XS.iload X106.here hx rfl (hb hby dc5_52) rfl ?_
      refine XS.isub X106.here hx rfl (hb hby dc5_54) rfl ?_
      refine XS.imul X106.here hx rfl (hb hby dc5_55) rfl ?_
      refine XS.istoreN X106.here hx rfl (hb hby dc5_56) rfl (l' := #[.val (.ref a1), .val (.int (3 : Int32)), .val (.ref b102), .val (.int (2 : Int32)), .val (.int (1 : Int32)), .unset, .unset, .unset, .unset]) rfl ?_
      refine XS.iinc X106.here hx rfl (hb hby dc5_57) rfl (l' := #[.val (.ref a1), .val (.int (3 : Int32)), .val (.ref b102), .val (.int (2 : Int32)), .val (.int (0 : Int32)), .unset, .unset, .unset, .unset]) rfl ?_
      refine XS.goto X106.here hx rfl (pc0 := 60) (pc' := 40) rfl (hb hby dc5_60) (by decide) (by decide) ?_
      refine XS.iload X106.here hx rfl (hb hby dc5_40) rfl ?_
      show Steps p.tables e below (T106.setTop (mkF m 42 #[.val (.ref a1), .val (.int (3 : Int32)), .val (.ref b102), .val (.int (2 : Int32)), .val (.int (0 : Int32)), .unset, .unset, .unset, .unset] [(.int (0 : Int32))])) _
      refine XS.ifNo X106.here hx rfl (hb hby dc5_42) rfl (by decide) ?_
      refine XS.aloadN X106.here hx rfl (hb hby dc5_45) rfl rfl ?_
      refine XS.iload X106.here hx rfl (hb hby dc5_46) rfl ?_
      show Steps p.tables e below (T106.setTop (mkF m 48 #[.val (.ref a1), .val (.int (3 : Int32)), .val (.ref b102), .val (.int (2 : Int32)), .val (.int (0 : Int32)), .unset, .unset, .unset, .unset] [(.int (0 : Int32)), (.ref b102)])) _
      refine XS.iloadN X106.here hx rfl (hb hby dc5_48) rfl ?_
      refine st108 _ ?_
      refine XS.iloadN X108.here hx rfl (hb hby dc5_50) rfl ?_
      refine XS.iloadN X108.here hx rfl (hb hby dc5_51) rfl ?_
      refine XS.iload X108.here hx rfl (hb hby dc5_52) rfl ?_
      refine XS.isub X108.here hx rfl (hb hby dc5_54) rfl ?_
      refine XS.imul X108.here hx rfl (hb hby dc5_55) rfl ?_
      refine XS.istoreN X108.here hx rfl (hb hby dc5_56) rfl (l' := #[.val (.ref a1), .val (.int (3 : Int32)), .val (.ref b102), .val (.int (6 : Int32)), .val (.int (0 : Int32)), .unset, .unset, .unset, .unset]) rfl ?_
      refine XS.iinc X108.here hx rfl (hb hby dc5_57) rfl (l' := #[.val (.ref a1), .val (.int (3 : Int32)), .val (.ref b102), .val (.int (6 : Int32)), .val (.int (-1 : Int32)), .unset, .unset, .unset, .unset]) rfl ?_
      refine XS.goto X108.here hx rfl (pc0 := 60) (pc' := 40) rfl (hb hby dc5_60) (by decide) (by decide) ?_
      refine XS.iload X108.here hx rfl (hb hby dc5_40) rfl ?_
      show Steps p.tables e below (T108.setTop (mkF m 42 #[.val (.ref a1), .val (.int (3 : Int32)), .val (.ref b102), .val (.int (6 : Int32)), .val (.int (-1 : Int32)), .unset, .unset, .unset, .unset] [(.int (-1 : Int32))])) _
      refine XS.ifYes X108.here hx rfl (pc0 := 42) (pc' := 63) rfl (hb hby dc5_42) rfl (by decide) (by decide) (by decide) ?_
      refine XS.aloadN X108.here hx rfl (hb hby dc5_63) rfl rfl ?_
      refine XS.iloadN X108.here hx rfl (hb hby dc5_64) rfl ?_
      refine st111 _ ?_
      refine XS.aloadN X111.here hx rfl (hb hby dc5_68) rfl rfl ?_
      refine XS.iloadN X111.here hx rfl (hb hby dc5_69) rfl ?_
      refine st114 _ ?_
      refine XS.aloadN X114.here hx rfl (hb hby dc5_73) rfl rfl ?_
      refine XS.iloadN X114.here hx rfl (hb hby dc5_74) rfl ?_
      refine XS.aloadN X114.here hx rfl (hb hby dc5_75) rfl rfl ?_
      refine st115 _ ?_
      refine XS.imul X115.here hx rfl (hb hby dc5_79) rfl ?_
      refine st117 _ ?_
      refine st123 _ ?_
      show Steps p.tables e below (T123.setTop (mkF m 85 #[.val (.ref a1), .val (.int (3 : Int32)), .val (.ref b102), .val (.int (6 : Int32)), .val (.int (-1 : Int32)), .unset, .unset, .unset, .unset] [])) _
      refine XS.aloadN X123.here hx rfl (hb hby dc5_85) rfl rfl ?_
      refine XS.iloadN X123.here hx rfl (hb hby dc5_86) rfl ?_
      refine XS.iconst X123.here hx rfl (hb hby dc5_87) ?_
      refine XS.isub X123.here hx rfl (hb hby dc5_88) rfl ?_
      refine XS.aloadN X123.here hx rfl (hb hby dc5_89) rfl rfl ?_
      refine st125 _ ?_
      refine XS.imul X125.here hx rfl (hb hby dc5_93) rfl ?_
      refine st127 _ ?_
      refine st134 _ ?_
      refine XS.iloadN X134.here hx rfl (hb hby dc5_99) rfl ?_
      refine st136 _ ?_
      refine XS.astore X136.here hx rfl (hb hby dc5_102) rfl rfl (l' := #[.val (.ref a1), .val (.int (3 : Int32)), .val (.ref b102), .val (.int (6 : Int32)), .val (.ref b136), .unset, .unset, .unset, .unset]) rfl ?_
      refine XS.iloadN X136.here hx rfl (hb hby dc5_104) rfl ?_
      refine st143 _ ?_
      refine XS.astore X143.here hx rfl (hb hby dc5_107) rfl rfl (l' := #[.val (.ref a1), .val (.int (3 : Int32)), .val (.ref b102), .val (.int (6 : Int32)), .val (.ref b136), .val (.ref b143), .unset, .unset, .unset]) rfl ?_
      refine XS.iconst X143.here hx rfl (hb hby dc5_109) ?_
      refine XS.istore X143.here hx rfl (hb hby dc5_110) rfl (l' := #[.val (.ref a1), .val (.int (3 : Int32)), .val (.ref b102), .val (.int (6 : Int32)), .val (.ref b136), .val (.ref b143), .val (.int (0 : Int32)), .unset, .unset]) rfl ?_
      exact kt)
  have f150 := (f144.ext E143)
  have f151 := (((((((Fw111.other W114 (Or.inr (slot_ne (Or.inr (hw _ (List.mem_of_getElem? (i := 11) rfl))) (Or.inr (hw _ (List.mem_of_getElem? (i := 13) rfl))) (by decide) (t := .int) (t' := .int) (by decide) (by decide)))).ext E117).other W123 (Or.inr (slot_ne (Or.inr (hw _ (List.mem_of_getElem? (i := 11) rfl))) (Or.inr (hw _ (List.mem_of_getElem? (i := 16) rfl))) (by decide) (t := .int) (t' := (.array .byte)) (by decide) (by decide)))).ext E127).other W134 (Or.inr (slot_ne (Or.inr (hw _ (List.mem_of_getElem? (i := 11) rfl))) (Or.inr (hw _ (List.mem_of_getElem? (i := 18) rfl))) (by decide) (t := .int) (t' := (.array .int)) (by decide) (by decide)))).ext E136).ext E143)
  have f152 := ((((f124.ext E127).other W134 (Or.inr (slot_ne (Or.inr (hw _ (List.mem_of_getElem? (i := 13) rfl))) (Or.inr (hw _ (List.mem_of_getElem? (i := 18) rfl))) (by decide) (t := .int) (t' := (.array .int)) (by decide) (by decide)))).ext E136).ext E143)
  have f153 := ((((Fw123.ext E127).other W134 (Or.inr (slot_ne (Or.inr (hw _ (List.mem_of_getElem? (i := 16) rfl))) (Or.inr (hw _ (List.mem_of_getElem? (i := 18) rfl))) (by decide) (t := (.array .byte)) (t' := (.array .int)) (by decide) (by decide)))).ext E136).ext E143)
  have f154 := ((Fw134.ext E136).ext E143)
  have f155 := (f145.ext E143)
  have f156 := (V136.ext E143)
  have f157 := (f146.ext E143)
  have f158 := (f147.ext E143)
  have O159 : Old Z n0 h143 := (O142.ext E143)
  have K160 : Keep h0 h143 [a1] := (Keep.ext K148 E143)
  obtain ⟨TL, hL, LL, x7, x8, XL, eL, NL, OL, KL, EoL, FiL, FcL, FpL, FsL, LpL, LsL, stL⟩ := lp3 a1 b102 b117 b127 b136 b143 k102 k136 k143 hx hZ hw hby hml hown ne102_a1 ne117_a1 ne127_a1 ne136_a1 ne143_a1 ne117_b102 ne127_b102 ne136_b102 ne143_b102 ne127_b117 ne136_b117 ne143_b117 ne136_b127 ne143_b127 ne143_b136 gb117 gb127 gb136 gb143 6 0 _ _ _ _ _ rfl X143 e143 N134 O159 One.u One.u f150 f151 f152 f153 f154 f155 f156 ⟨_, _, _, V143⟩ (show La Z h143 b117 .byte (18 : Int32) (List.replicate 18 0) from ⟨_, f157, rfl⟩) (show La Z h143 b127 .int (12 : Int32) (List.replicate 12 0) from ⟨_, f158, rfl⟩)
  rw [own_PE3] at LpL
  rw [own_SE3] at LsL
  obtain ⟨fs, hr, hrun, hended, hW, hsame⟩ := XL.leave (v := none) (fun _ => rfl)
  have K161 : Keep h0 hL [a1] := (Keep.trans K160 KL (allS (P := fun x => x ∈ [a1] ∨ h0.size ≤ x) (Or.inr sz117) (allS (P := fun x => x ∈ [a1] ∨ h0.size ≤ x) (Or.inr sz127) (allS (P := fun x => x ∈ [a1] ∨ h0.size ≤ x) (Or.inr sz136) (allS (P := fun x => x ∈ [a1] ∨ h0.size ≤ x) (Or.inr sz143) all0)))))
  refine ⟨_, _, pre149 _ ?_, hrun, hended, _, _, rfl, ?_, ⟨_, rfl⟩, hW, hsame.mono (by decide) (by decide)⟩
  · skip
    refine stL _ ?_
    show Steps p.tables e below (TL.setTop (mkF m 312 #[.val (.ref a1), .val (.int (3 : Int32)), .val (.ref b102), .val (.int (6 : Int32)), .val (.ref b136), .val (.ref b143), .val (.int (6 : Int32)), x7, x8] [])) _
    exact XL.returnOut hx Bd.returns (hb hby dc5_312) hr
  · show QC3 Z a1 h0 n0 _ TL.heap _
    rw [eL]
    exact ⟨rfl, NL, K161, b117, b127, EoL, FiL, FcL, FpL, FsL, LpL, LsL⟩
def own_W3 (q f : Int32) : Prop := ¬ ((own_SL3.getD ((q * ((3 : Int32) - (1 : Int32))) + f).toNatClampNeg 0) < (0 : Int32)) ∧ (own_SL3.getD ((q * ((3 : Int32) - (1 : Int32))) + f).toNatClampNeg 0) < (6 : Int32) ∧ own_mv (own_PL3.getD ((((0 : Int32) * (6 : Int32)) + q)).toNatClampNeg 0) (own_PL3.getD ((((0 : Int32) * (6 : Int32)) + (own_SL3.getD ((q * ((3 : Int32) - (1 : Int32))) + f).toNatClampNeg 0))).toNatClampNeg 0) f = 1 ∧ own_mv (own_PL3.getD ((((1 : Int32) * (6 : Int32)) + q)).toNatClampNeg 0) (own_PL3.getD ((((1 : Int32) * (6 : Int32)) + (own_SL3.getD ((q * ((3 : Int32) - (1 : Int32))) + f).toNatClampNeg 0))).toNatClampNeg 0) f = 1 ∧ own_mv (own_PL3.getD ((((2 : Int32) * (6 : Int32)) + q)).toNatClampNeg 0) (own_PL3.getD ((((2 : Int32) * (6 : Int32)) + (own_SL3.getD ((q * ((3 : Int32) - (1 : Int32))) + f).toNatClampNeg 0))).toNatClampNeg 0) f = 1
instance (q f : Int32) : Decidable (own_W3 q f) := by unfold own_W3; infer_instance
set_option maxRecDepth 65536 in
theorem own_w3 : ∀ k : Fin 6, ∀ f : Fin 2, own_W3 (Int32.ofNat k.val) (Int32.ofNat f.val) := by decide +kernel
def own_nth4 (c u0 u1 u2 u3 : Int32) : Int32 := if c = (0 : Int32) then u0 else if c = (1 : Int32) then u1 else if c = (2 : Int32) then u2 else u3
theorem own_nb4 {c u0 u1 u2 u3 : Int32} (h0 : own_bd 4 u0) (h1 : own_bd 4 u1) (h2 : own_bd 4 u2) (h3 : own_bd 4 u3) : own_bd 4 (own_nth4 c u0 u1 u2 u3) := by
  unfold own_nth4
  repeat' split
  all_goals assumption
def own_d4_0 (k : Nat) : Int32 := Int32.ofNat (k / 6 % 4)
theorem own_dd4_0 : ∀ k : Fin 24, own_d4_0 k.val = (0 : Int32) ∨ own_d4_0 k.val = (1 : Int32) ∨ own_d4_0 k.val = (2 : Int32) ∨ own_d4_0 k.val = (3 : Int32) := by decide +kernel
theorem own_pin4_0 {c : Int32} (h : c = (0 : Int32) ∨ c = (1 : Int32) ∨ c = (2 : Int32) ∨ c = (3 : Int32)) : ¬ c < 0 ∧ c < (4 : Int32) := by
  rcases h with rfl | rfl | rfl | rfl <;> decide
theorem own_nl4_0 {c u0 u1 u2 u3 : Int32} (h : c = (0 : Int32) ∨ c = (1 : Int32) ∨ c = (2 : Int32) ∨ c = (3 : Int32)) : ([(.int u0), (.int u1), (.int u2), (.int u3)] : List Value).getD c.toNatClampNeg (.int (0 : Int32)) = .int (own_nth4 c u0 u1 u2 u3) := by
  rcases h with rfl | rfl | rfl | rfl <;> rfl
theorem own_cp4_0 {c u0 u1 u2 u3 : Int32} (h : c = (0 : Int32) ∨ c = (1 : Int32) ∨ c = (2 : Int32) ∨ c = (3 : Int32)) : ¬ (c + (1 : Int32)) < 0 ∧ ¬ c < 0 ∧ ¬ ((3 : Int32) - c) < 0 ∧ (c + (1 : Int32)).toNatClampNeg + ((3 : Int32) - c).toNatClampNeg ≤ (4 : Int32).toNatClampNeg ∧ c.toNatClampNeg + ((3 : Int32) - c).toNatClampNeg ≤ (4 : Int32).toNatClampNeg ∧ (([(.int u0), (.int u1), (.int u2), (.int u3)] : List Value).take c.toNatClampNeg ++ ((List.range ((3 : Int32) - c).toNatClampNeg).map fun i => ([(.int u0), (.int u1), (.int u2), (.int u3)] : List Value).getD ((c + (1 : Int32)).toNatClampNeg + i) (.int (0 : Int32))) ++ ([(.int u0), (.int u1), (.int u2), (.int u3)] : List Value).drop (c.toNatClampNeg + ((3 : Int32) - c).toNatClampNeg)) = [(.int (own_sh c (0 : Int32) u0 u1)), (.int (own_sh c (1 : Int32) u1 u2)), (.int (own_sh c (2 : Int32) u2 u3)), (.int u3)] := by
  rcases h with rfl | rfl | rfl | rfl <;> exact ⟨by decide, by decide, by decide, by decide, by decide, rfl⟩
def own_d4_1 (k : Nat) : Int32 := Int32.ofNat (k / 2 % 3)
theorem own_dd4_1 : ∀ k : Fin 24, own_d4_1 k.val = (0 : Int32) ∨ own_d4_1 k.val = (1 : Int32) ∨ own_d4_1 k.val = (2 : Int32) := by decide +kernel
theorem own_pin4_1 {c : Int32} (h : c = (0 : Int32) ∨ c = (1 : Int32) ∨ c = (2 : Int32)) : ¬ c < 0 ∧ c < (4 : Int32) := by
  rcases h with rfl | rfl | rfl <;> decide
theorem own_nl4_1 {c u0 u1 u2 u3 : Int32} (h : c = (0 : Int32) ∨ c = (1 : Int32) ∨ c = (2 : Int32)) : ([(.int u0), (.int u1), (.int u2), (.int u3)] : List Value).getD c.toNatClampNeg (.int (0 : Int32)) = .int (own_nth4 c u0 u1 u2 u3) := by
  rcases h with rfl | rfl | rfl <;> rfl
theorem own_cp4_1 {c u0 u1 u2 u3 : Int32} (h : c = (0 : Int32) ∨ c = (1 : Int32) ∨ c = (2 : Int32)) : ¬ (c + (1 : Int32)) < 0 ∧ ¬ c < 0 ∧ ¬ ((2 : Int32) - c) < 0 ∧ (c + (1 : Int32)).toNatClampNeg + ((2 : Int32) - c).toNatClampNeg ≤ (4 : Int32).toNatClampNeg ∧ c.toNatClampNeg + ((2 : Int32) - c).toNatClampNeg ≤ (4 : Int32).toNatClampNeg ∧ (([(.int u0), (.int u1), (.int u2), (.int u3)] : List Value).take c.toNatClampNeg ++ ((List.range ((2 : Int32) - c).toNatClampNeg).map fun i => ([(.int u0), (.int u1), (.int u2), (.int u3)] : List Value).getD ((c + (1 : Int32)).toNatClampNeg + i) (.int (0 : Int32))) ++ ([(.int u0), (.int u1), (.int u2), (.int u3)] : List Value).drop (c.toNatClampNeg + ((2 : Int32) - c).toNatClampNeg)) = [(.int (own_sh c (0 : Int32) u0 u1)), (.int (own_sh c (1 : Int32) u1 u2)), (.int u2), (.int u3)] := by
  rcases h with rfl | rfl | rfl <;> exact ⟨by decide, by decide, by decide, by decide, by decide, rfl⟩
def own_d4_2 (k : Nat) : Int32 := Int32.ofNat (k / 1 % 2)
theorem own_dd4_2 : ∀ k : Fin 24, own_d4_2 k.val = (0 : Int32) ∨ own_d4_2 k.val = (1 : Int32) := by decide +kernel
theorem own_pin4_2 {c : Int32} (h : c = (0 : Int32) ∨ c = (1 : Int32)) : ¬ c < 0 ∧ c < (4 : Int32) := by
  rcases h with rfl | rfl <;> decide
theorem own_nl4_2 {c u0 u1 u2 u3 : Int32} (h : c = (0 : Int32) ∨ c = (1 : Int32)) : ([(.int u0), (.int u1), (.int u2), (.int u3)] : List Value).getD c.toNatClampNeg (.int (0 : Int32)) = .int (own_nth4 c u0 u1 u2 u3) := by
  rcases h with rfl | rfl <;> rfl
theorem own_cp4_2 {c u0 u1 u2 u3 : Int32} (h : c = (0 : Int32) ∨ c = (1 : Int32)) : ¬ (c + (1 : Int32)) < 0 ∧ ¬ c < 0 ∧ ¬ ((1 : Int32) - c) < 0 ∧ (c + (1 : Int32)).toNatClampNeg + ((1 : Int32) - c).toNatClampNeg ≤ (4 : Int32).toNatClampNeg ∧ c.toNatClampNeg + ((1 : Int32) - c).toNatClampNeg ≤ (4 : Int32).toNatClampNeg ∧ (([(.int u0), (.int u1), (.int u2), (.int u3)] : List Value).take c.toNatClampNeg ++ ((List.range ((1 : Int32) - c).toNatClampNeg).map fun i => ([(.int u0), (.int u1), (.int u2), (.int u3)] : List Value).getD ((c + (1 : Int32)).toNatClampNeg + i) (.int (0 : Int32))) ++ ([(.int u0), (.int u1), (.int u2), (.int u3)] : List Value).drop (c.toNatClampNeg + ((1 : Int32) - c).toNatClampNeg)) = [(.int (own_sh c (0 : Int32) u0 u1)), (.int u1), (.int u2), (.int u3)] := by
  rcases h with rfl | rfl <;> exact ⟨by decide, by decide, by decide, by decide, by decide, rfl⟩
def own_d4_3 (k : Nat) : Int32 := Int32.ofNat (k / 1 % 1)
theorem own_dd4_3 : ∀ k : Fin 24, own_d4_3 k.val = (0 : Int32) := by decide +kernel
theorem own_pin4_3 {c : Int32} (h : c = (0 : Int32)) : ¬ c < 0 ∧ c < (4 : Int32) := by
  rcases h with rfl <;> decide
theorem own_nl4_3 {c u0 u1 u2 u3 : Int32} (h : c = (0 : Int32)) : ([(.int u0), (.int u1), (.int u2), (.int u3)] : List Value).getD c.toNatClampNeg (.int (0 : Int32)) = .int (own_nth4 c u0 u1 u2 u3) := by
  rcases h with rfl <;> rfl
theorem own_cp4_3 {c u0 u1 u2 u3 : Int32} (h : c = (0 : Int32)) : ¬ (c + (1 : Int32)) < 0 ∧ ¬ c < 0 ∧ ¬ ((0 : Int32) - c) < 0 ∧ (c + (1 : Int32)).toNatClampNeg + ((0 : Int32) - c).toNatClampNeg ≤ (4 : Int32).toNatClampNeg ∧ c.toNatClampNeg + ((0 : Int32) - c).toNatClampNeg ≤ (4 : Int32).toNatClampNeg ∧ (([(.int u0), (.int u1), (.int u2), (.int u3)] : List Value).take c.toNatClampNeg ++ ((List.range ((0 : Int32) - c).toNatClampNeg).map fun i => ([(.int u0), (.int u1), (.int u2), (.int u3)] : List Value).getD ((c + (1 : Int32)).toNatClampNeg + i) (.int (0 : Int32))) ++ ([(.int u0), (.int u1), (.int u2), (.int u3)] : List Value).drop (c.toNatClampNeg + ((0 : Int32) - c).toNatClampNeg)) = [(.int u0), (.int u1), (.int u2), (.int u3)] := by
  rcases h with rfl <;> exact ⟨by decide, by decide, by decide, by decide, by decide, rfl⟩
def own_tP4 (kk c0 c1 c2 c3 : Int32) (P : List Int32) : List Int32 :=
  let t0 := own_nth4 c0 (0 : Int32) (1 : Int32) (2 : Int32) (3 : Int32)
  let v0_0 := own_sh c0 (0 : Int32) (0 : Int32) (1 : Int32)
  let v0_1 := own_sh c0 (1 : Int32) (1 : Int32) (2 : Int32)
  let v0_2 := own_sh c0 (2 : Int32) (2 : Int32) (3 : Int32)
  let t1 := own_nth4 c1 v0_0 v0_1 v0_2 (3 : Int32)
  let v1_0 := own_sh c1 (0 : Int32) v0_0 v0_1
  let v1_1 := own_sh c1 (1 : Int32) v0_1 v0_2
  let t2 := own_nth4 c2 v1_0 v1_1 v0_2 (3 : Int32)
  let v2_0 := own_sh c2 (0 : Int32) v1_0 v1_1
  let t3 := own_nth4 c3 v2_0 v1_1 v0_2 (3 : Int32)
  ((((P.set ((t0 * (24 : Int32)) + kk).toNatClampNeg (0 : Int32)).set ((t1 * (24 : Int32)) + kk).toNatClampNeg (1 : Int32)).set ((t2 * (24 : Int32)) + kk).toNatClampNeg (2 : Int32)).set ((t3 * (24 : Int32)) + kk).toNatClampNeg (3 : Int32))
def own_tS4 (kk c0 c1 c2 c3 : Int32) (S : List Int32) : List Int32 := (((S.set ((kk * (3 : Int32)) + (0 : Int32)).toNatClampNeg (own_sw kk c0 c1 (6 : Int32) (2 : Int32))).set ((kk * (3 : Int32)) + (1 : Int32)).toNatClampNeg (own_sw kk c1 c2 (2 : Int32) (1 : Int32))).set ((kk * (3 : Int32)) + (2 : Int32)).toNatClampNeg (own_sw kk c2 c3 (1 : Int32) (1 : Int32)))
def own_P4 : Nat → List Int32
  | 0 => List.replicate 96 0
  | j + 1 => own_tP4 (Int32.ofNat j) (own_d4_0 j) (own_d4_1 j) (own_d4_2 j) (own_d4_3 j) (own_P4 j)
def own_S4 : Nat → List Int32
  | 0 => List.replicate 72 0
  | j + 1 => own_tS4 (Int32.ofNat j) (own_d4_0 j) (own_d4_1 j) (own_d4_2 j) (own_d4_3 j) (own_S4 j)
def own_PL4 : List Int32 := [0, 0, 0, 0, 0, 0, 1, 1, 2, 3, 2, 3, 1, 1, 2, 3, 2, 3, 1, 1, 2, 3, 2, 3, 1, 1, 2, 3, 2, 3, 0, 0, 0, 0, 0, 0, 2, 3, 1, 1, 3, 2, 2, 3, 1, 1, 3, 2, 2, 3, 1, 1, 3, 2, 2, 3, 1, 1, 3, 2, 0, 0, 0, 0, 0, 0, 3, 2, 3, 2, 1, 1, 3, 2, 3, 2, 1, 1, 3, 2, 3, 2, 1, 1, 3, 2, 3, 2, 1, 1, 0, 0, 0, 0, 0, 0]
def own_SL4 : List Int32 := [6, 2, 1, 7, 4, 0, 12, 0, 3, 13, 5, 2, 18, 1, 5, 19, 3, 4, 0, 8, 7, 1, 10, 6, 14, 6, 9, 15, 11, 8, 20, 7, 11, 21, 9, 10, 2, 14, 13, 3, 16, 12, 8, 12, 15, 9, 17, 14, 22, 13, 17, 23, 15, 16, 4, 20, 19, 5, 22, 18, 10, 18, 21, 11, 23, 20, 16, 19, 23, 17, 21, 22]
set_option maxRecDepth 65536 in
theorem own_PE4 : own_P4 24 = own_PL4 := by decide +kernel
set_option maxRecDepth 65536 in
theorem own_SE4 : own_S4 24 = own_SL4 := by decide +kernel
theorem own_in4_0 : ∀ k : Fin 24, (own_d4_2 k.val < (1 : Int32)) → own_d4_0 k.val = own_d4_0 (k.val + 1) ∧ own_d4_1 k.val = own_d4_1 (k.val + 1) ∧ own_d4_2 k.val + (1 : Int32) = own_d4_2 (k.val + 1) ∧ own_d4_3 k.val = own_d4_3 (k.val + 1) := by decide +kernel
theorem own_in4_1 : ∀ k : Fin 24, (¬ (own_d4_2 k.val < (1 : Int32))) → (own_d4_1 k.val < (2 : Int32)) → own_d4_0 k.val = own_d4_0 (k.val + 1) ∧ own_d4_1 k.val + (1 : Int32) = own_d4_1 (k.val + 1) ∧ (0 : Int32) = own_d4_2 (k.val + 1) ∧ own_d4_3 k.val = own_d4_3 (k.val + 1) := by decide +kernel
theorem own_in4_2 : ∀ k : Fin 24, (¬ (own_d4_2 k.val < (1 : Int32))) → (¬ (own_d4_1 k.val < (2 : Int32))) → (own_d4_0 k.val < (3 : Int32)) → own_d4_0 k.val + (1 : Int32) = own_d4_0 (k.val + 1) ∧ (0 : Int32) = own_d4_1 (k.val + 1) ∧ (0 : Int32) = own_d4_2 (k.val + 1) ∧ own_d4_3 k.val = own_d4_3 (k.val + 1) := by decide +kernel
theorem own_in4_3 : ∀ k : Fin 24, (¬ (own_d4_2 k.val < (1 : Int32))) → (¬ (own_d4_1 k.val < (2 : Int32))) → (¬ (own_d4_0 k.val < (3 : Int32))) → (0 : Int32) = own_d4_0 (k.val + 1) ∧ (0 : Int32) = own_d4_1 (k.val + 1) ∧ (0 : Int32) = own_d4_2 (k.val + 1) ∧ own_d4_3 k.val = own_d4_3 (k.val + 1) := by decide +kernel
theorem own_kb4 (k : Fin 24) : own_bd 24 (Int32.ofNat k.val) ∧ Int32.ofNat k.val < (24 : Int32) := by
  have h := k.isLt; have e := own_ofNat (j := k.val) (by omega); refine ⟨⟨by omega, by omega⟩, ?_⟩
  rw [Int32.lt_iff_toInt_lt, e]; show _ < (24 : Int); omega
set_option maxRecDepth 65536 in
set_option maxHeartbeats 40000000 in
theorem rmSw4_0 (l : Launch) (Z : State) (a0 : Array Value) (hw : ∀ d ∈ tables_1, d.before a0 Z = true) (ws : List Jvm.Cond) (kk : Int32) (b1 b2 : Addr) (k1 k2 : ClassId) (c0 c1 c2 c3 : Int32) (h0 : Heap) (n0 : Nat) (O0 : Old Z n0 h0) (Vc : Arv Z h0 b1 k1 .int (4 : Int32) [(.int c0), (.int c1), (.int c2), (.int c3)] (.int (0 : Int32))) (Vp : Arv Z h0 b2 k2 .int (4 : Int32) [(.int (6 : Int32)), (.int (2 : Int32)), (.int (1 : Int32)), (.int (1 : Int32))] (.int (0 : Int32))) :
    MetFree l (⟨"com/example/frontward/frontward/offline/Orderings", "swapped", "(I[I[II)I"⟩ : MethodName) (head1 (Jvm.Cond.code (⟨"com/example/frontward/frontward/offline/Orderings", "swapped", "(I[I[II)I"⟩ : MethodName) prog_26_method_2_code 6 (some .int) :: ws) ({ frames := 0, cells := 0, slots := 0, locals := 0 } : Room)) (fun a U => a = #[(.int kk), (.ref b1), (.ref b2), (.int (0 : Int32))] ∧ Z.Warmed39 U.vm ∧ U.heap = h0) (fun _ _ _ _ _ => True) (fun _ U o U' => ∃ v L, o = .returned v ∧ Q_g (own_sw kk c0 c1 (6 : Int32) (2 : Int32)) h0 n0 v U'.heap L ∧ FrameEnd U o U' L ({ frames := 0, cells := 0, slots := 0, locals := 0 } : Room).cells ({ frames := 0, cells := 0, slots := 0, locals := 0 } : Room).slots) := by
  refine MetFree.of_bodySF (plainFor_of_name pn_0) hisR ?_
  intro p e s m args below meth c s₁ Bd hml0 hP hK
  obtain ⟨rfl, hZ, hh⟩ := hP
  have hx := Bd.exec
  have hby := Bd.bytes
  have hml : c.maxLocals = 6 := hml0
  have hown : s.vm.findClass "com/example/frontward/frontward/offline/Orderings" = some m.cls := findClass_of_methodNamed Bd.named
  have hnm := (name_of_methodNamed Bd.named Bd.method).1
  have X0 : Stand p l e ({ frames := 0, cells := 0, slots := 0, locals := 0 } : Room) s m #[(.int kk), (.ref b1), (.ref b2), (.int (0 : Int32))] below meth c s₁ [] 0 0 := Stand.of_body Bd
  have e0 : s₁.heap = h0 := by rw [← hh, Bd.state]; rfl
  have N0 := Fr.nil n0
  have pre0 : ∀ t, Steps p.tables e below (s₁.setTop (mkF m 0 #[.val (.int kk), .val (.ref b1), .val (.ref b2), .val (.int (0 : Int32)), .unset, .unset] [])) t → Steps p.tables e below (s₁.setTop (entryFrame m #[(.int kk), (.ref b1), (.ref b2), (.int (0 : Int32))] 6)) t := fun t k => castTop (ef_3 m kk b1 b2 (0 : Int32)) k
  obtain ⟨cl101, Ar101, q101, S101, N101_, H101, G101⟩ := id Vc
  have hin101 : ¬ ((0 : Int32) < 0 ∨ cl101.slots.size ≤ ((0 : Int32)).toNatClampNeg) := inb_of S101 ⟨by decide, by decide⟩
  have hat101 : cl101.slots[((0 : Int32)).toNatClampNeg]? = some (.int c0) := H101.at hin101 rfl
  obtain ⟨cl102, Ar102, q102, S102, N102_, H102, G102⟩ := id Vc
  have hin102 : ¬ ((1 : Int32) < 0 ∨ cl102.slots.size ≤ ((1 : Int32)).toNatClampNeg) := inb_of S102 ⟨by decide, by decide⟩
  have hat102 : cl102.slots[((1 : Int32)).toNatClampNeg]? = some (.int c1) := H102.at hin102 rfl
  have pre103 : ∀ t, Steps p.tables e below (s₁.setTop (mkF m 16 #[.val (.int kk), .val (.ref b1), .val (.ref b2), .val (.int (0 : Int32)), .val (.int c0), .val (.int c1)] [(.int c1), (.int c0)])) t → Steps p.tables e below (s₁.setTop (entryFrame m #[(.int kk), (.ref b1), (.ref b2), (.int (0 : Int32))] 6)) t := fun t kt => pre0 t (by
      show Steps p.tables e below (s₁.setTop (mkF m 0 #[.val (.int kk), .val (.ref b1), .val (.ref b2), .val (.int (0 : Int32)), .unset, .unset] [])) _
      refine XS.aloadN X0.here hx rfl (hb hby dc4_0) rfl rfl ?_
      refine XS.iloadN X0.here hx rfl (hb hby dc4_1) rfl ?_
      refine X0.iaload hx (j := (0 : Int32)) (v := (.int c0)) (by rw [e0]; exact Ar101.1) (State.isArrayOf_alike hZ.alike Ar101.2.1) Ar101.2.2 hin101 hat101 (g := (mkF m 2 #[.val (.int kk), .val (.ref b1), .val (.ref b2), .val (.int (0 : Int32)), .unset, .unset] [(.int (0 : Int32)), (.ref b1)])) rfl rfl (hb hby dc4_2) _ ?_
      refine XS.istore X0.here hx rfl (hb hby dc4_3) rfl (l' := #[.val (.int kk), .val (.ref b1), .val (.ref b2), .val (.int (0 : Int32)), .val (.int c0), .unset]) rfl ?_
      refine XS.aloadN X0.here hx rfl (hb hby dc4_5) rfl rfl ?_
      refine XS.iloadN X0.here hx rfl (hb hby dc4_6) rfl ?_
      refine XS.iconst X0.here hx rfl (hb hby dc4_7) ?_
      refine XS.iadd X0.here hx rfl (hb hby dc4_8) rfl ?_
      refine X0.iaload hx (j := (1 : Int32)) (v := (.int c1)) (by rw [e0]; exact Ar102.1) (State.isArrayOf_alike hZ.alike Ar102.2.1) Ar102.2.2 hin102 hat102 (g := (mkF m 9 #[.val (.int kk), .val (.ref b1), .val (.ref b2), .val (.int (0 : Int32)), .val (.int c0), .unset] [(.int (1 : Int32)), (.ref b1)])) rfl rfl (hb hby dc4_9) _ ?_
      refine XS.istore X0.here hx rfl (hb hby dc4_10) rfl (l' := #[.val (.int kk), .val (.ref b1), .val (.ref b2), .val (.int (0 : Int32)), .val (.int c0), .val (.int c1)]) rfl ?_
      refine XS.iload X0.here hx rfl (hb hby dc4_12) rfl ?_
      refine XS.iload X0.here hx rfl (hb hby dc4_14) rfl ?_
      exact kt)
  by_cases hc104 : c1 < c0
  · skip
    obtain ⟨cl105, Ar105, q105, S105, N105_, H105, G105⟩ := id Vp
    have hin105 : ¬ ((0 : Int32) < 0 ∨ cl105.slots.size ≤ ((0 : Int32)).toNatClampNeg) := inb_of S105 ⟨by decide, by decide⟩
    have hat105 : cl105.slots[((0 : Int32)).toNatClampNeg]? = some (.int (6 : Int32)) := H105.at hin105 rfl
    obtain ⟨cl106, Ar106, q106, S106, N106_, H106, G106⟩ := id Vp
    have hin106 : ¬ ((1 : Int32) < 0 ∨ cl106.slots.size ≤ ((1 : Int32)).toNatClampNeg) := inb_of S106 ⟨by decide, by decide⟩
    have hat106 : cl106.slots[((1 : Int32)).toNatClampNeg]? = some (.int (2 : Int32)) := H106.at hin106 rfl
    obtain ⟨fs, hr, hrun, hended, hW, hsame⟩ := X0.leave (v := some (.int ((kk + ((c1 - c0) * (6 : Int32))) + (((c0 - (1 : Int32)) - c1) * (2 : Int32))))) (fun h => by rw [Bd.returns] at h; cases h)
    refine ⟨_, _, pre103 _ ?_, hrun, hended, _, _, rfl, ?_, ⟨_, rfl⟩, hW, hsame.mono (by decide) (by decide)⟩
    · skip
      show Steps p.tables e below (s₁.setTop (mkF m 16 #[.val (.int kk), .val (.ref b1), .val (.ref b2), .val (.int (0 : Int32)), .val (.int c0), .val (.int c1)] [(.int c1), (.int c0)])) _
      refine XS.icmpYes X0.here hx rfl (pc0 := 16) (pc' := 45) rfl (hb hby dc4_16) rfl (tlt hc104).2.2.1 (by decide) (by decide) ?_
      refine XS.iloadN X0.here hx rfl (hb hby dc4_45) rfl ?_
      show Steps p.tables e below (s₁.setTop (mkF m 46 #[.val (.int kk), .val (.ref b1), .val (.ref b2), .val (.int (0 : Int32)), .val (.int c0), .val (.int c1)] [(.int kk)])) _
      refine XS.iload X0.here hx rfl (hb hby dc4_46) rfl ?_
      refine XS.iload X0.here hx rfl (hb hby dc4_48) rfl ?_
      refine XS.isub X0.here hx rfl (hb hby dc4_50) rfl ?_
      refine XS.aloadN X0.here hx rfl (hb hby dc4_51) rfl rfl ?_
      refine XS.iloadN X0.here hx rfl (hb hby dc4_52) rfl ?_
      refine X0.iaload hx (j := (0 : Int32)) (v := (.int (6 : Int32))) (by rw [e0]; exact Ar105.1) (State.isArrayOf_alike hZ.alike Ar105.2.1) Ar105.2.2 hin105 hat105 (g := (mkF m 53 #[.val (.int kk), .val (.ref b1), .val (.ref b2), .val (.int (0 : Int32)), .val (.int c0), .val (.int c1)] [(.int (0 : Int32)), (.ref b2), (.int (c1 - c0)), (.int kk)])) rfl rfl (hb hby dc4_53) _ ?_
      refine XS.imul X0.here hx rfl (hb hby dc4_54) rfl ?_
      refine XS.iadd X0.here hx rfl (hb hby dc4_55) rfl ?_
      refine XS.iload X0.here hx rfl (hb hby dc4_56) rfl ?_
      refine XS.iconst X0.here hx rfl (hb hby dc4_58) ?_
      refine XS.isub X0.here hx rfl (hb hby dc4_59) rfl ?_
      refine XS.iload X0.here hx rfl (hb hby dc4_60) rfl ?_
      refine XS.isub X0.here hx rfl (hb hby dc4_62) rfl ?_
      refine XS.aloadN X0.here hx rfl (hb hby dc4_63) rfl rfl ?_
      refine XS.iloadN X0.here hx rfl (hb hby dc4_64) rfl ?_
      refine XS.iconst X0.here hx rfl (hb hby dc4_65) ?_
      refine XS.iadd X0.here hx rfl (hb hby dc4_66) rfl ?_
      refine X0.iaload hx (j := (1 : Int32)) (v := (.int (2 : Int32))) (by rw [e0]; exact Ar106.1) (State.isArrayOf_alike hZ.alike Ar106.2.1) Ar106.2.2 hin106 hat106 (g := (mkF m 67 #[.val (.int kk), .val (.ref b1), .val (.ref b2), .val (.int (0 : Int32)), .val (.int c0), .val (.int c1)] [(.int (1 : Int32)), (.ref b2), (.int ((c0 - (1 : Int32)) - c1)), (.int (kk + ((c1 - c0) * (6 : Int32))))])) rfl rfl (hb hby dc4_67) _ ?_
      refine XS.imul X0.here hx rfl (hb hby dc4_68) rfl ?_
      refine XS.iadd X0.here hx rfl (hb hby dc4_69) rfl ?_
      show Steps p.tables e below (s₁.setTop (mkF m 70 #[.val (.int kk), .val (.ref b1), .val (.ref b2), .val (.int (0 : Int32)), .val (.int c0), .val (.int c1)] [(.int ((kk + ((c1 - c0) * (6 : Int32))) + (((c0 - (1 : Int32)) - c1) * (2 : Int32))))])) _
      exact retI X0 hx Bd.returns (hb hby dc4_70) hr
    · show Q_g (own_sw kk c0 c1 (6 : Int32) (2 : Int32)) h0 n0 _ s₁.heap _
      rw [e0]
      exact ⟨by simp [own_sw, hc104], N0, rfl⟩
  · skip
    obtain ⟨cl107, Ar107, q107, S107, N107_, H107, G107⟩ := id Vp
    have hin107 : ¬ ((0 : Int32) < 0 ∨ cl107.slots.size ≤ ((0 : Int32)).toNatClampNeg) := inb_of S107 ⟨by decide, by decide⟩
    have hat107 : cl107.slots[((0 : Int32)).toNatClampNeg]? = some (.int (6 : Int32)) := H107.at hin107 rfl
    obtain ⟨cl108, Ar108, q108, S108, N108_, H108, G108⟩ := id Vp
    have hin108 : ¬ ((1 : Int32) < 0 ∨ cl108.slots.size ≤ ((1 : Int32)).toNatClampNeg) := inb_of S108 ⟨by decide, by decide⟩
    have hat108 : cl108.slots[((1 : Int32)).toNatClampNeg]? = some (.int (2 : Int32)) := H108.at hin108 rfl
    obtain ⟨fs, hr, hrun, hended, hW, hsame⟩ := X0.leave (v := some (.int ((kk + (((c1 + (1 : Int32)) - c0) * (6 : Int32))) + ((c0 - c1) * (2 : Int32))))) (fun h => by rw [Bd.returns] at h; cases h)
    refine ⟨_, _, pre103 _ ?_, hrun, hended, _, _, rfl, ?_, ⟨_, rfl⟩, hW, hsame.mono (by decide) (by decide)⟩
    · skip
      show Steps p.tables e below (s₁.setTop (mkF m 16 #[.val (.int kk), .val (.ref b1), .val (.ref b2), .val (.int (0 : Int32)), .val (.int c0), .val (.int c1)] [(.int c1), (.int c0)])) _
      refine XS.icmpNo X0.here hx rfl (hb hby dc4_16) rfl (flt hc104).2.2.1 ?_
      refine XS.iloadN X0.here hx rfl (hb hby dc4_19) rfl ?_
      refine XS.iload X0.here hx rfl (hb hby dc4_20) rfl ?_
      refine XS.iconst X0.here hx rfl (hb hby dc4_22) ?_
      show Steps p.tables e below (s₁.setTop (mkF m 23 #[.val (.int kk), .val (.ref b1), .val (.ref b2), .val (.int (0 : Int32)), .val (.int c0), .val (.int c1)] [(.int (1 : Int32)), (.int c1), (.int kk)])) _
      refine XS.iadd X0.here hx rfl (hb hby dc4_23) rfl ?_
      refine XS.iload X0.here hx rfl (hb hby dc4_24) rfl ?_
      refine XS.isub X0.here hx rfl (hb hby dc4_26) rfl ?_
      refine XS.aloadN X0.here hx rfl (hb hby dc4_27) rfl rfl ?_
      refine XS.iloadN X0.here hx rfl (hb hby dc4_28) rfl ?_
      refine X0.iaload hx (j := (0 : Int32)) (v := (.int (6 : Int32))) (by rw [e0]; exact Ar107.1) (State.isArrayOf_alike hZ.alike Ar107.2.1) Ar107.2.2 hin107 hat107 (g := (mkF m 29 #[.val (.int kk), .val (.ref b1), .val (.ref b2), .val (.int (0 : Int32)), .val (.int c0), .val (.int c1)] [(.int (0 : Int32)), (.ref b2), (.int ((c1 + (1 : Int32)) - c0)), (.int kk)])) rfl rfl (hb hby dc4_29) _ ?_
      refine XS.imul X0.here hx rfl (hb hby dc4_30) rfl ?_
      refine XS.iadd X0.here hx rfl (hb hby dc4_31) rfl ?_
      refine XS.iload X0.here hx rfl (hb hby dc4_32) rfl ?_
      refine XS.iload X0.here hx rfl (hb hby dc4_34) rfl ?_
      refine XS.isub X0.here hx rfl (hb hby dc4_36) rfl ?_
      refine XS.aloadN X0.here hx rfl (hb hby dc4_37) rfl rfl ?_
      refine XS.iloadN X0.here hx rfl (hb hby dc4_38) rfl ?_
      refine XS.iconst X0.here hx rfl (hb hby dc4_39) ?_
      refine XS.iadd X0.here hx rfl (hb hby dc4_40) rfl ?_
      refine X0.iaload hx (j := (1 : Int32)) (v := (.int (2 : Int32))) (by rw [e0]; exact Ar108.1) (State.isArrayOf_alike hZ.alike Ar108.2.1) Ar108.2.2 hin108 hat108 (g := (mkF m 41 #[.val (.int kk), .val (.ref b1), .val (.ref b2), .val (.int (0 : Int32)), .val (.int c0), .val (.int c1)] [(.int (1 : Int32)), (.ref b2), (.int (c0 - c1)), (.int (kk + (((c1 + (1 : Int32)) - c0) * (6 : Int32))))])) rfl rfl (hb hby dc4_41) _ ?_
      refine XS.imul X0.here hx rfl (hb hby dc4_42) rfl ?_
      refine XS.iadd X0.here hx rfl (hb hby dc4_43) rfl ?_
      show Steps p.tables e below (s₁.setTop (mkF m 44 #[.val (.int kk), .val (.ref b1), .val (.ref b2), .val (.int (0 : Int32)), .val (.int c0), .val (.int c1)] [(.int ((kk + (((c1 + (1 : Int32)) - c0) * (6 : Int32))) + ((c0 - c1) * (2 : Int32))))])) _
      exact retI X0 hx Bd.returns (hb hby dc4_44) hr
    · show Q_g (own_sw kk c0 c1 (6 : Int32) (2 : Int32)) h0 n0 _ s₁.heap _
      rw [e0]
      exact ⟨by simp [own_sw, hc104], N0, rfl⟩
set_option maxRecDepth 65536 in
set_option maxHeartbeats 40000000 in
theorem rmSw4_1 (l : Launch) (Z : State) (a0 : Array Value) (hw : ∀ d ∈ tables_1, d.before a0 Z = true) (ws : List Jvm.Cond) (kk : Int32) (b1 b2 : Addr) (k1 k2 : ClassId) (c0 c1 c2 c3 : Int32) (h0 : Heap) (n0 : Nat) (O0 : Old Z n0 h0) (Vc : Arv Z h0 b1 k1 .int (4 : Int32) [(.int c0), (.int c1), (.int c2), (.int c3)] (.int (0 : Int32))) (Vp : Arv Z h0 b2 k2 .int (4 : Int32) [(.int (6 : Int32)), (.int (2 : Int32)), (.int (1 : Int32)), (.int (1 : Int32))] (.int (0 : Int32))) :
    MetFree l (⟨"com/example/frontward/frontward/offline/Orderings", "swapped", "(I[I[II)I"⟩ : MethodName) (head1 (Jvm.Cond.code (⟨"com/example/frontward/frontward/offline/Orderings", "swapped", "(I[I[II)I"⟩ : MethodName) prog_26_method_2_code 6 (some .int) :: ws) ({ frames := 0, cells := 0, slots := 0, locals := 0 } : Room)) (fun a U => a = #[(.int kk), (.ref b1), (.ref b2), (.int (1 : Int32))] ∧ Z.Warmed39 U.vm ∧ U.heap = h0) (fun _ _ _ _ _ => True) (fun _ U o U' => ∃ v L, o = .returned v ∧ Q_g (own_sw kk c1 c2 (2 : Int32) (1 : Int32)) h0 n0 v U'.heap L ∧ FrameEnd U o U' L ({ frames := 0, cells := 0, slots := 0, locals := 0 } : Room).cells ({ frames := 0, cells := 0, slots := 0, locals := 0 } : Room).slots) := by
  refine MetFree.of_bodySF (plainFor_of_name pn_0) hisR ?_
  intro p e s m args below meth c s₁ Bd hml0 hP hK
  obtain ⟨rfl, hZ, hh⟩ := hP
  have hx := Bd.exec
  have hby := Bd.bytes
  have hml : c.maxLocals = 6 := hml0
  have hown : s.vm.findClass "com/example/frontward/frontward/offline/Orderings" = some m.cls := findClass_of_methodNamed Bd.named
  have hnm := (name_of_methodNamed Bd.named Bd.method).1
  have X0 : Stand p l e ({ frames := 0, cells := 0, slots := 0, locals := 0 } : Room) s m #[(.int kk), (.ref b1), (.ref b2), (.int (1 : Int32))] below meth c s₁ [] 0 0 := Stand.of_body Bd
  have e0 : s₁.heap = h0 := by rw [← hh, Bd.state]; rfl
  have N0 := Fr.nil n0
  have pre0 : ∀ t, Steps p.tables e below (s₁.setTop (mkF m 0 #[.val (.int kk), .val (.ref b1), .val (.ref b2), .val (.int (1 : Int32)), .unset, .unset] [])) t → Steps p.tables e below (s₁.setTop (entryFrame m #[(.int kk), (.ref b1), (.ref b2), (.int (1 : Int32))] 6)) t := fun t k => castTop (ef_3 m kk b1 b2 (1 : Int32)) k
  obtain ⟨cl101, Ar101, q101, S101, N101_, H101, G101⟩ := id Vc
  have hin101 : ¬ ((1 : Int32) < 0 ∨ cl101.slots.size ≤ ((1 : Int32)).toNatClampNeg) := inb_of S101 ⟨by decide, by decide⟩
  have hat101 : cl101.slots[((1 : Int32)).toNatClampNeg]? = some (.int c1) := H101.at hin101 rfl
  obtain ⟨cl102, Ar102, q102, S102, N102_, H102, G102⟩ := id Vc
  have hin102 : ¬ ((2 : Int32) < 0 ∨ cl102.slots.size ≤ ((2 : Int32)).toNatClampNeg) := inb_of S102 ⟨by decide, by decide⟩
  have hat102 : cl102.slots[((2 : Int32)).toNatClampNeg]? = some (.int c2) := H102.at hin102 rfl
  have pre103 : ∀ t, Steps p.tables e below (s₁.setTop (mkF m 16 #[.val (.int kk), .val (.ref b1), .val (.ref b2), .val (.int (1 : Int32)), .val (.int c1), .val (.int c2)] [(.int c2), (.int c1)])) t → Steps p.tables e below (s₁.setTop (entryFrame m #[(.int kk), (.ref b1), (.ref b2), (.int (1 : Int32))] 6)) t := fun t kt => pre0 t (by
      show Steps p.tables e below (s₁.setTop (mkF m 0 #[.val (.int kk), .val (.ref b1), .val (.ref b2), .val (.int (1 : Int32)), .unset, .unset] [])) _
      refine XS.aloadN X0.here hx rfl (hb hby dc4_0) rfl rfl ?_
      refine XS.iloadN X0.here hx rfl (hb hby dc4_1) rfl ?_
      refine X0.iaload hx (j := (1 : Int32)) (v := (.int c1)) (by rw [e0]; exact Ar101.1) (State.isArrayOf_alike hZ.alike Ar101.2.1) Ar101.2.2 hin101 hat101 (g := (mkF m 2 #[.val (.int kk), .val (.ref b1), .val (.ref b2), .val (.int (1 : Int32)), .unset, .unset] [(.int (1 : Int32)), (.ref b1)])) rfl rfl (hb hby dc4_2) _ ?_
      refine XS.istore X0.here hx rfl (hb hby dc4_3) rfl (l' := #[.val (.int kk), .val (.ref b1), .val (.ref b2), .val (.int (1 : Int32)), .val (.int c1), .unset]) rfl ?_
      refine XS.aloadN X0.here hx rfl (hb hby dc4_5) rfl rfl ?_
      refine XS.iloadN X0.here hx rfl (hb hby dc4_6) rfl ?_
      refine XS.iconst X0.here hx rfl (hb hby dc4_7) ?_
      refine XS.iadd X0.here hx rfl (hb hby dc4_8) rfl ?_
      refine X0.iaload hx (j := (2 : Int32)) (v := (.int c2)) (by rw [e0]; exact Ar102.1) (State.isArrayOf_alike hZ.alike Ar102.2.1) Ar102.2.2 hin102 hat102 (g := (mkF m 9 #[.val (.int kk), .val (.ref b1), .val (.ref b2), .val (.int (1 : Int32)), .val (.int c1), .unset] [(.int (2 : Int32)), (.ref b1)])) rfl rfl (hb hby dc4_9) _ ?_
      refine XS.istore X0.here hx rfl (hb hby dc4_10) rfl (l' := #[.val (.int kk), .val (.ref b1), .val (.ref b2), .val (.int (1 : Int32)), .val (.int c1), .val (.int c2)]) rfl ?_
      refine XS.iload X0.here hx rfl (hb hby dc4_12) rfl ?_
      refine XS.iload X0.here hx rfl (hb hby dc4_14) rfl ?_
      exact kt)
  by_cases hc104 : c2 < c1
  · skip
    obtain ⟨cl105, Ar105, q105, S105, N105_, H105, G105⟩ := id Vp
    have hin105 : ¬ ((1 : Int32) < 0 ∨ cl105.slots.size ≤ ((1 : Int32)).toNatClampNeg) := inb_of S105 ⟨by decide, by decide⟩
    have hat105 : cl105.slots[((1 : Int32)).toNatClampNeg]? = some (.int (2 : Int32)) := H105.at hin105 rfl
    obtain ⟨cl106, Ar106, q106, S106, N106_, H106, G106⟩ := id Vp
    have hin106 : ¬ ((2 : Int32) < 0 ∨ cl106.slots.size ≤ ((2 : Int32)).toNatClampNeg) := inb_of S106 ⟨by decide, by decide⟩
    have hat106 : cl106.slots[((2 : Int32)).toNatClampNeg]? = some (.int (1 : Int32)) := H106.at hin106 rfl
    obtain ⟨fs, hr, hrun, hended, hW, hsame⟩ := X0.leave (v := some (.int ((kk + ((c2 - c1) * (2 : Int32))) + (((c1 - (1 : Int32)) - c2) * (1 : Int32))))) (fun h => by rw [Bd.returns] at h; cases h)
    refine ⟨_, _, pre103 _ ?_, hrun, hended, _, _, rfl, ?_, ⟨_, rfl⟩, hW, hsame.mono (by decide) (by decide)⟩
    · skip
      show Steps p.tables e below (s₁.setTop (mkF m 16 #[.val (.int kk), .val (.ref b1), .val (.ref b2), .val (.int (1 : Int32)), .val (.int c1), .val (.int c2)] [(.int c2), (.int c1)])) _
      refine XS.icmpYes X0.here hx rfl (pc0 := 16) (pc' := 45) rfl (hb hby dc4_16) rfl (tlt hc104).2.2.1 (by decide) (by decide) ?_
      refine XS.iloadN X0.here hx rfl (hb hby dc4_45) rfl ?_
      show Steps p.tables e below (s₁.setTop (mkF m 46 #[.val (.int kk), .val (.ref b1), .val (.ref b2), .val (.int (1 : Int32)), .val (.int c1), .val (.int c2)] [(.int kk)])) _
      refine XS.iload X0.here hx rfl (hb hby dc4_46) rfl ?_
      refine XS.iload X0.here hx rfl (hb hby dc4_48) rfl ?_
      refine XS.isub X0.here hx rfl (hb hby dc4_50) rfl ?_
      refine XS.aloadN X0.here hx rfl (hb hby dc4_51) rfl rfl ?_
      refine XS.iloadN X0.here hx rfl (hb hby dc4_52) rfl ?_
      refine X0.iaload hx (j := (1 : Int32)) (v := (.int (2 : Int32))) (by rw [e0]; exact Ar105.1) (State.isArrayOf_alike hZ.alike Ar105.2.1) Ar105.2.2 hin105 hat105 (g := (mkF m 53 #[.val (.int kk), .val (.ref b1), .val (.ref b2), .val (.int (1 : Int32)), .val (.int c1), .val (.int c2)] [(.int (1 : Int32)), (.ref b2), (.int (c2 - c1)), (.int kk)])) rfl rfl (hb hby dc4_53) _ ?_
      refine XS.imul X0.here hx rfl (hb hby dc4_54) rfl ?_
      refine XS.iadd X0.here hx rfl (hb hby dc4_55) rfl ?_
      refine XS.iload X0.here hx rfl (hb hby dc4_56) rfl ?_
      refine XS.iconst X0.here hx rfl (hb hby dc4_58) ?_
      refine XS.isub X0.here hx rfl (hb hby dc4_59) rfl ?_
      refine XS.iload X0.here hx rfl (hb hby dc4_60) rfl ?_
      refine XS.isub X0.here hx rfl (hb hby dc4_62) rfl ?_
      refine XS.aloadN X0.here hx rfl (hb hby dc4_63) rfl rfl ?_
      refine XS.iloadN X0.here hx rfl (hb hby dc4_64) rfl ?_
      refine XS.iconst X0.here hx rfl (hb hby dc4_65) ?_
      refine XS.iadd X0.here hx rfl (hb hby dc4_66) rfl ?_
      refine X0.iaload hx (j := (2 : Int32)) (v := (.int (1 : Int32))) (by rw [e0]; exact Ar106.1) (State.isArrayOf_alike hZ.alike Ar106.2.1) Ar106.2.2 hin106 hat106 (g := (mkF m 67 #[.val (.int kk), .val (.ref b1), .val (.ref b2), .val (.int (1 : Int32)), .val (.int c1), .val (.int c2)] [(.int (2 : Int32)), (.ref b2), (.int ((c1 - (1 : Int32)) - c2)), (.int (kk + ((c2 - c1) * (2 : Int32))))])) rfl rfl (hb hby dc4_67) _ ?_
      refine XS.imul X0.here hx rfl (hb hby dc4_68) rfl ?_
      refine XS.iadd X0.here hx rfl (hb hby dc4_69) rfl ?_
      show Steps p.tables e below (s₁.setTop (mkF m 70 #[.val (.int kk), .val (.ref b1), .val (.ref b2), .val (.int (1 : Int32)), .val (.int c1), .val (.int c2)] [(.int ((kk + ((c2 - c1) * (2 : Int32))) + (((c1 - (1 : Int32)) - c2) * (1 : Int32))))])) _
      exact retI X0 hx Bd.returns (hb hby dc4_70) hr
    · show Q_g (own_sw kk c1 c2 (2 : Int32) (1 : Int32)) h0 n0 _ s₁.heap _
      rw [e0]
      exact ⟨by simp [own_sw, hc104], N0, rfl⟩
  · skip
    obtain ⟨cl107, Ar107, q107, S107, N107_, H107, G107⟩ := id Vp
    have hin107 : ¬ ((1 : Int32) < 0 ∨ cl107.slots.size ≤ ((1 : Int32)).toNatClampNeg) := inb_of S107 ⟨by decide, by decide⟩
    have hat107 : cl107.slots[((1 : Int32)).toNatClampNeg]? = some (.int (2 : Int32)) := H107.at hin107 rfl
    obtain ⟨cl108, Ar108, q108, S108, N108_, H108, G108⟩ := id Vp
    have hin108 : ¬ ((2 : Int32) < 0 ∨ cl108.slots.size ≤ ((2 : Int32)).toNatClampNeg) := inb_of S108 ⟨by decide, by decide⟩
    have hat108 : cl108.slots[((2 : Int32)).toNatClampNeg]? = some (.int (1 : Int32)) := H108.at hin108 rfl
    obtain ⟨fs, hr, hrun, hended, hW, hsame⟩ := X0.leave (v := some (.int ((kk + (((c2 + (1 : Int32)) - c1) * (2 : Int32))) + ((c1 - c2) * (1 : Int32))))) (fun h => by rw [Bd.returns] at h; cases h)
    refine ⟨_, _, pre103 _ ?_, hrun, hended, _, _, rfl, ?_, ⟨_, rfl⟩, hW, hsame.mono (by decide) (by decide)⟩
    · skip
      show Steps p.tables e below (s₁.setTop (mkF m 16 #[.val (.int kk), .val (.ref b1), .val (.ref b2), .val (.int (1 : Int32)), .val (.int c1), .val (.int c2)] [(.int c2), (.int c1)])) _
      refine XS.icmpNo X0.here hx rfl (hb hby dc4_16) rfl (flt hc104).2.2.1 ?_
      refine XS.iloadN X0.here hx rfl (hb hby dc4_19) rfl ?_
      refine XS.iload X0.here hx rfl (hb hby dc4_20) rfl ?_
      refine XS.iconst X0.here hx rfl (hb hby dc4_22) ?_
      show Steps p.tables e below (s₁.setTop (mkF m 23 #[.val (.int kk), .val (.ref b1), .val (.ref b2), .val (.int (1 : Int32)), .val (.int c1), .val (.int c2)] [(.int (1 : Int32)), (.int c2), (.int kk)])) _
      refine XS.iadd X0.here hx rfl (hb hby dc4_23) rfl ?_
      refine XS.iload X0.here hx rfl (hb hby dc4_24) rfl ?_
      refine XS.isub X0.here hx rfl (hb hby dc4_26) rfl ?_
      refine XS.aloadN X0.here hx rfl (hb hby dc4_27) rfl rfl ?_
      refine XS.iloadN X0.here hx rfl (hb hby dc4_28) rfl ?_
      refine X0.iaload hx (j := (1 : Int32)) (v := (.int (2 : Int32))) (by rw [e0]; exact Ar107.1) (State.isArrayOf_alike hZ.alike Ar107.2.1) Ar107.2.2 hin107 hat107 (g := (mkF m 29 #[.val (.int kk), .val (.ref b1), .val (.ref b2), .val (.int (1 : Int32)), .val (.int c1), .val (.int c2)] [(.int (1 : Int32)), (.ref b2), (.int ((c2 + (1 : Int32)) - c1)), (.int kk)])) rfl rfl (hb hby dc4_29) _ ?_
      refine XS.imul X0.here hx rfl (hb hby dc4_30) rfl ?_
      refine XS.iadd X0.here hx rfl (hb hby dc4_31) rfl ?_
      refine XS.iload X0.here hx rfl (hb hby dc4_32) rfl ?_
      refine XS.iload X0.here hx rfl (hb hby dc4_34) rfl ?_
      refine XS.isub X0.here hx rfl (hb hby dc4_36) rfl ?_
      refine XS.aloadN X0.here hx rfl (hb hby dc4_37) rfl rfl ?_
      refine XS.iloadN X0.here hx rfl (hb hby dc4_38) rfl ?_
      refine XS.iconst X0.here hx rfl (hb hby dc4_39) ?_
      refine XS.iadd X0.here hx rfl (hb hby dc4_40) rfl ?_
      refine X0.iaload hx (j := (2 : Int32)) (v := (.int (1 : Int32))) (by rw [e0]; exact Ar108.1) (State.isArrayOf_alike hZ.alike Ar108.2.1) Ar108.2.2 hin108 hat108 (g := (mkF m 41 #[.val (.int kk), .val (.ref b1), .val (.ref b2), .val (.int (1 : Int32)), .val (.int c1), .val (.int c2)] [(.int (2 : Int32)), (.ref b2), (.int (c1 - c2)), (.int (kk + (((c2 + (1 : Int32)) - c1) * (2 : Int32))))])) rfl rfl (hb hby dc4_41) _ ?_
      refine XS.imul X0.here hx rfl (hb hby dc4_42) rfl ?_
      refine XS.iadd X0.here hx rfl (hb hby dc4_43) rfl ?_
      show Steps p.tables e below (s₁.setTop (mkF m 44 #[.val (.int kk), .val (.ref b1), .val (.ref b2), .val (.int (1 : Int32)), .val (.int c1), .val (.int c2)] [(.int ((kk + (((c2 + (1 : Int32)) - c1) * (2 : Int32))) + ((c1 - c2) * (1 : Int32))))])) _
      exact retI X0 hx Bd.returns (hb hby dc4_44) hr
    · show Q_g (own_sw kk c1 c2 (2 : Int32) (1 : Int32)) h0 n0 _ s₁.heap _
      rw [e0]
      exact ⟨by simp [own_sw, hc104], N0, rfl⟩
set_option maxRecDepth 65536 in
set_option maxHeartbeats 40000000 in
theorem rmSw4_2 (l : Launch) (Z : State) (a0 : Array Value) (hw : ∀ d ∈ tables_1, d.before a0 Z = true) (ws : List Jvm.Cond) (kk : Int32) (b1 b2 : Addr) (k1 k2 : ClassId) (c0 c1 c2 c3 : Int32) (h0 : Heap) (n0 : Nat) (O0 : Old Z n0 h0) (Vc : Arv Z h0 b1 k1 .int (4 : Int32) [(.int c0), (.int c1), (.int c2), (.int c3)] (.int (0 : Int32))) (Vp : Arv Z h0 b2 k2 .int (4 : Int32) [(.int (6 : Int32)), (.int (2 : Int32)), (.int (1 : Int32)), (.int (1 : Int32))] (.int (0 : Int32))) :
    MetFree l (⟨"com/example/frontward/frontward/offline/Orderings", "swapped", "(I[I[II)I"⟩ : MethodName) (head1 (Jvm.Cond.code (⟨"com/example/frontward/frontward/offline/Orderings", "swapped", "(I[I[II)I"⟩ : MethodName) prog_26_method_2_code 6 (some .int) :: ws) ({ frames := 0, cells := 0, slots := 0, locals := 0 } : Room)) (fun a U => a = #[(.int kk), (.ref b1), (.ref b2), (.int (2 : Int32))] ∧ Z.Warmed39 U.vm ∧ U.heap = h0) (fun _ _ _ _ _ => True) (fun _ U o U' => ∃ v L, o = .returned v ∧ Q_g (own_sw kk c2 c3 (1 : Int32) (1 : Int32)) h0 n0 v U'.heap L ∧ FrameEnd U o U' L ({ frames := 0, cells := 0, slots := 0, locals := 0 } : Room).cells ({ frames := 0, cells := 0, slots := 0, locals := 0 } : Room).slots) := by
  refine MetFree.of_bodySF (plainFor_of_name pn_0) hisR ?_
  intro p e s m args below meth c s₁ Bd hml0 hP hK
  obtain ⟨rfl, hZ, hh⟩ := hP
  have hx := Bd.exec
  have hby := Bd.bytes
  have hml : c.maxLocals = 6 := hml0
  have hown : s.vm.findClass "com/example/frontward/frontward/offline/Orderings" = some m.cls := findClass_of_methodNamed Bd.named
  have hnm := (name_of_methodNamed Bd.named Bd.method).1
  have X0 : Stand p l e ({ frames := 0, cells := 0, slots := 0, locals := 0 } : Room) s m #[(.int kk), (.ref b1), (.ref b2), (.int (2 : Int32))] below meth c s₁ [] 0 0 := Stand.of_body Bd
  have e0 : s₁.heap = h0 := by rw [← hh, Bd.state]; rfl
  have N0 := Fr.nil n0
  have pre0 : ∀ t, Steps p.tables e below (s₁.setTop (mkF m 0 #[.val (.int kk), .val (.ref b1), .val (.ref b2), .val (.int (2 : Int32)), .unset, .unset] [])) t → Steps p.tables e below (s₁.setTop (entryFrame m #[(.int kk), (.ref b1), (.ref b2), (.int (2 : Int32))] 6)) t := fun t k => castTop (ef_3 m kk b1 b2 (2 : Int32)) k
  obtain ⟨cl101, Ar101, q101, S101, N101_, H101, G101⟩ := id Vc
  have hin101 : ¬ ((2 : Int32) < 0 ∨ cl101.slots.size ≤ ((2 : Int32)).toNatClampNeg) := inb_of S101 ⟨by decide, by decide⟩
  have hat101 : cl101.slots[((2 : Int32)).toNatClampNeg]? = some (.int c2) := H101.at hin101 rfl
  obtain ⟨cl102, Ar102, q102, S102, N102_, H102, G102⟩ := id Vc
  have hin102 : ¬ ((3 : Int32) < 0 ∨ cl102.slots.size ≤ ((3 : Int32)).toNatClampNeg) := inb_of S102 ⟨by decide, by decide⟩
  have hat102 : cl102.slots[((3 : Int32)).toNatClampNeg]? = some (.int c3) := H102.at hin102 rfl
  have pre103 : ∀ t, Steps p.tables e below (s₁.setTop (mkF m 16 #[.val (.int kk), .val (.ref b1), .val (.ref b2), .val (.int (2 : Int32)), .val (.int c2), .val (.int c3)] [(.int c3), (.int c2)])) t → Steps p.tables e below (s₁.setTop (entryFrame m #[(.int kk), (.ref b1), (.ref b2), (.int (2 : Int32))] 6)) t := fun t kt => pre0 t (by
      show Steps p.tables e below (s₁.setTop (mkF m 0 #[.val (.int kk), .val (.ref b1), .val (.ref b2), .val (.int (2 : Int32)), .unset, .unset] [])) _
      refine XS.aloadN X0.here hx rfl (hb hby dc4_0) rfl rfl ?_
      refine XS.iloadN X0.here hx rfl (hb hby dc4_1) rfl ?_
      refine X0.iaload hx (j := (2 : Int32)) (v := (.int c2)) (by rw [e0]; exact Ar101.1) (State.isArrayOf_alike hZ.alike Ar101.2.1) Ar101.2.2 hin101 hat101 (g := (mkF m 2 #[.val (.int kk), .val (.ref b1), .val (.ref b2), .val (.int (2 : Int32)), .unset, .unset] [(.int (2 : Int32)), (.ref b1)])) rfl rfl (hb hby dc4_2) _ ?_
      refine XS.istore X0.here hx rfl (hb hby dc4_3) rfl (l' := #[.val (.int kk), .val (.ref b1), .val (.ref b2), .val (.int (2 : Int32)), .val (.int c2), .unset]) rfl ?_
      refine XS.aloadN X0.here hx rfl (hb hby dc4_5) rfl rfl ?_
      refine XS.iloadN X0.here hx rfl (hb hby dc4_6) rfl ?_
      refine XS.iconst X0.here hx rfl (hb hby dc4_7) ?_
      refine XS.iadd X0.here hx rfl (hb hby dc4_8) rfl ?_
      refine X0.iaload hx (j := (3 : Int32)) (v := (.int c3)) (by rw [e0]; exact Ar102.1) (State.isArrayOf_alike hZ.alike Ar102.2.1) Ar102.2.2 hin102 hat102 (g := (mkF m 9 #[.val (.int kk), .val (.ref b1), .val (.ref b2), .val (.int (2 : Int32)), .val (.int c2), .unset] [(.int (3 : Int32)), (.ref b1)])) rfl rfl (hb hby dc4_9) _ ?_
      refine XS.istore X0.here hx rfl (hb hby dc4_10) rfl (l' := #[.val (.int kk), .val (.ref b1), .val (.ref b2), .val (.int (2 : Int32)), .val (.int c2), .val (.int c3)]) rfl ?_
      refine XS.iload X0.here hx rfl (hb hby dc4_12) rfl ?_
      refine XS.iload X0.here hx rfl (hb hby dc4_14) rfl ?_
      exact kt)
  by_cases hc104 : c3 < c2
  · skip
    obtain ⟨cl105, Ar105, q105, S105, N105_, H105, G105⟩ := id Vp
    have hin105 : ¬ ((2 : Int32) < 0 ∨ cl105.slots.size ≤ ((2 : Int32)).toNatClampNeg) := inb_of S105 ⟨by decide, by decide⟩
    have hat105 : cl105.slots[((2 : Int32)).toNatClampNeg]? = some (.int (1 : Int32)) := H105.at hin105 rfl
    obtain ⟨cl106, Ar106, q106, S106, N106_, H106, G106⟩ := id Vp
    have hin106 : ¬ ((3 : Int32) < 0 ∨ cl106.slots.size ≤ ((3 : Int32)).toNatClampNeg) := inb_of S106 ⟨by decide, by decide⟩
    have hat106 : cl106.slots[((3 : Int32)).toNatClampNeg]? = some (.int (1 : Int32)) := H106.at hin106 rfl
    obtain ⟨fs, hr, hrun, hended, hW, hsame⟩ := X0.leave (v := some (.int ((kk + ((c3 - c2) * (1 : Int32))) + (((c2 - (1 : Int32)) - c3) * (1 : Int32))))) (fun h => by rw [Bd.returns] at h; cases h)
    refine ⟨_, _, pre103 _ ?_, hrun, hended, _, _, rfl, ?_, ⟨_, rfl⟩, hW, hsame.mono (by decide) (by decide)⟩
    · skip
      show Steps p.tables e below (s₁.setTop (mkF m 16 #[.val (.int kk), .val (.ref b1), .val (.ref b2), .val (.int (2 : Int32)), .val (.int c2), .val (.int c3)] [(.int c3), (.int c2)])) _
      refine XS.icmpYes X0.here hx rfl (pc0 := 16) (pc' := 45) rfl (hb hby dc4_16) rfl (tlt hc104).2.2.1 (by decide) (by decide) ?_
      refine XS.iloadN X0.here hx rfl (hb hby dc4_45) rfl ?_
      show Steps p.tables e below (s₁.setTop (mkF m 46 #[.val (.int kk), .val (.ref b1), .val (.ref b2), .val (.int (2 : Int32)), .val (.int c2), .val (.int c3)] [(.int kk)])) _
      refine XS.iload X0.here hx rfl (hb hby dc4_46) rfl ?_
      refine XS.iload X0.here hx rfl (hb hby dc4_48) rfl ?_
      refine XS.isub X0.here hx rfl (hb hby dc4_50) rfl ?_
      refine XS.aloadN X0.here hx rfl (hb hby dc4_51) rfl rfl ?_
      refine XS.iloadN X0.here hx rfl (hb hby dc4_52) rfl ?_
      refine X0.iaload hx (j := (2 : Int32)) (v := (.int (1 : Int32))) (by rw [e0]; exact Ar105.1) (State.isArrayOf_alike hZ.alike Ar105.2.1) Ar105.2.2 hin105 hat105 (g := (mkF m 53 #[.val (.int kk), .val (.ref b1), .val (.ref b2), .val (.int (2 : Int32)), .val (.int c2), .val (.int c3)] [(.int (2 : Int32)), (.ref b2), (.int (c3 - c2)), (.int kk)])) rfl rfl (hb hby dc4_53) _ ?_
      refine XS.imul X0.here hx rfl (hb hby dc4_54) rfl ?_
      refine XS.iadd X0.here hx rfl (hb hby dc4_55) rfl ?_
      refine XS.iload X0.here hx rfl (hb hby dc4_56) rfl ?_
      refine XS.iconst X0.here hx rfl (hb hby dc4_58) ?_
      refine XS.isub X0.here hx rfl (hb hby dc4_59) rfl ?_
      refine XS.iload X0.here hx rfl (hb hby dc4_60) rfl ?_
      refine XS.isub X0.here hx rfl (hb hby dc4_62) rfl ?_
      refine XS.aloadN X0.here hx rfl (hb hby dc4_63) rfl rfl ?_
      refine XS.iloadN X0.here hx rfl (hb hby dc4_64) rfl ?_
      refine XS.iconst X0.here hx rfl (hb hby dc4_65) ?_
      refine XS.iadd X0.here hx rfl (hb hby dc4_66) rfl ?_
      refine X0.iaload hx (j := (3 : Int32)) (v := (.int (1 : Int32))) (by rw [e0]; exact Ar106.1) (State.isArrayOf_alike hZ.alike Ar106.2.1) Ar106.2.2 hin106 hat106 (g := (mkF m 67 #[.val (.int kk), .val (.ref b1), .val (.ref b2), .val (.int (2 : Int32)), .val (.int c2), .val (.int c3)] [(.int (3 : Int32)), (.ref b2), (.int ((c2 - (1 : Int32)) - c3)), (.int (kk + ((c3 - c2) * (1 : Int32))))])) rfl rfl (hb hby dc4_67) _ ?_
      refine XS.imul X0.here hx rfl (hb hby dc4_68) rfl ?_
      refine XS.iadd X0.here hx rfl (hb hby dc4_69) rfl ?_
      show Steps p.tables e below (s₁.setTop (mkF m 70 #[.val (.int kk), .val (.ref b1), .val (.ref b2), .val (.int (2 : Int32)), .val (.int c2), .val (.int c3)] [(.int ((kk + ((c3 - c2) * (1 : Int32))) + (((c2 - (1 : Int32)) - c3) * (1 : Int32))))])) _
      exact retI X0 hx Bd.returns (hb hby dc4_70) hr
    · show Q_g (own_sw kk c2 c3 (1 : Int32) (1 : Int32)) h0 n0 _ s₁.heap _
      rw [e0]
      exact ⟨by simp [own_sw, hc104], N0, rfl⟩
  · skip
    obtain ⟨cl107, Ar107, q107, S107, N107_, H107, G107⟩ := id Vp
    have hin107 : ¬ ((2 : Int32) < 0 ∨ cl107.slots.size ≤ ((2 : Int32)).toNatClampNeg) := inb_of S107 ⟨by decide, by decide⟩
    have hat107 : cl107.slots[((2 : Int32)).toNatClampNeg]? = some (.int (1 : Int32)) := H107.at hin107 rfl
    obtain ⟨cl108, Ar108, q108, S108, N108_, H108, G108⟩ := id Vp
    have hin108 : ¬ ((3 : Int32) < 0 ∨ cl108.slots.size ≤ ((3 : Int32)).toNatClampNeg) := inb_of S108 ⟨by decide, by decide⟩
    have hat108 : cl108.slots[((3 : Int32)).toNatClampNeg]? = some (.int (1 : Int32)) := H108.at hin108 rfl
    obtain ⟨fs, hr, hrun, hended, hW, hsame⟩ := X0.leave (v := some (.int ((kk + (((c3 + (1 : Int32)) - c2) * (1 : Int32))) + ((c2 - c3) * (1 : Int32))))) (fun h => by rw [Bd.returns] at h; cases h)
    refine ⟨_, _, pre103 _ ?_, hrun, hended, _, _, rfl, ?_, ⟨_, rfl⟩, hW, hsame.mono (by decide) (by decide)⟩
    · skip
      show Steps p.tables e below (s₁.setTop (mkF m 16 #[.val (.int kk), .val (.ref b1), .val (.ref b2), .val (.int (2 : Int32)), .val (.int c2), .val (.int c3)] [(.int c3), (.int c2)])) _
      refine XS.icmpNo X0.here hx rfl (hb hby dc4_16) rfl (flt hc104).2.2.1 ?_
      refine XS.iloadN X0.here hx rfl (hb hby dc4_19) rfl ?_
      refine XS.iload X0.here hx rfl (hb hby dc4_20) rfl ?_
      refine XS.iconst X0.here hx rfl (hb hby dc4_22) ?_
      show Steps p.tables e below (s₁.setTop (mkF m 23 #[.val (.int kk), .val (.ref b1), .val (.ref b2), .val (.int (2 : Int32)), .val (.int c2), .val (.int c3)] [(.int (1 : Int32)), (.int c3), (.int kk)])) _
      refine XS.iadd X0.here hx rfl (hb hby dc4_23) rfl ?_
      refine XS.iload X0.here hx rfl (hb hby dc4_24) rfl ?_
      refine XS.isub X0.here hx rfl (hb hby dc4_26) rfl ?_
      refine XS.aloadN X0.here hx rfl (hb hby dc4_27) rfl rfl ?_
      refine XS.iloadN X0.here hx rfl (hb hby dc4_28) rfl ?_
      refine X0.iaload hx (j := (2 : Int32)) (v := (.int (1 : Int32))) (by rw [e0]; exact Ar107.1) (State.isArrayOf_alike hZ.alike Ar107.2.1) Ar107.2.2 hin107 hat107 (g := (mkF m 29 #[.val (.int kk), .val (.ref b1), .val (.ref b2), .val (.int (2 : Int32)), .val (.int c2), .val (.int c3)] [(.int (2 : Int32)), (.ref b2), (.int ((c3 + (1 : Int32)) - c2)), (.int kk)])) rfl rfl (hb hby dc4_29) _ ?_
      refine XS.imul X0.here hx rfl (hb hby dc4_30) rfl ?_
      refine XS.iadd X0.here hx rfl (hb hby dc4_31) rfl ?_
      refine XS.iload X0.here hx rfl (hb hby dc4_32) rfl ?_
      refine XS.iload X0.here hx rfl (hb hby dc4_34) rfl ?_
      refine XS.isub X0.here hx rfl (hb hby dc4_36) rfl ?_
      refine XS.aloadN X0.here hx rfl (hb hby dc4_37) rfl rfl ?_
      refine XS.iloadN X0.here hx rfl (hb hby dc4_38) rfl ?_
      refine XS.iconst X0.here hx rfl (hb hby dc4_39) ?_
      refine XS.iadd X0.here hx rfl (hb hby dc4_40) rfl ?_
      refine X0.iaload hx (j := (3 : Int32)) (v := (.int (1 : Int32))) (by rw [e0]; exact Ar108.1) (State.isArrayOf_alike hZ.alike Ar108.2.1) Ar108.2.2 hin108 hat108 (g := (mkF m 41 #[.val (.int kk), .val (.ref b1), .val (.ref b2), .val (.int (2 : Int32)), .val (.int c2), .val (.int c3)] [(.int (3 : Int32)), (.ref b2), (.int (c2 - c3)), (.int (kk + (((c3 + (1 : Int32)) - c2) * (1 : Int32))))])) rfl rfl (hb hby dc4_41) _ ?_
      refine XS.imul X0.here hx rfl (hb hby dc4_42) rfl ?_
      refine XS.iadd X0.here hx rfl (hb hby dc4_43) rfl ?_
      show Steps p.tables e below (s₁.setTop (mkF m 44 #[.val (.int kk), .val (.ref b1), .val (.ref b2), .val (.int (2 : Int32)), .val (.int c2), .val (.int c3)] [(.int ((kk + (((c3 + (1 : Int32)) - c2) * (1 : Int32))) + ((c2 - c3) * (1 : Int32))))])) _
      exact retI X0 hx Bd.returns (hb hby dc4_44) hr
    · show Q_g (own_sw kk c2 c3 (1 : Int32) (1 : Int32)) h0 n0 _ s₁.heap _
      rw [e0]
      exact ⟨by simp [own_sw, hc104], N0, rfl⟩
set_option maxRecDepth 65536 in
set_option maxHeartbeats 40000000 in
theorem tn4 {p : Program} {l : Launch} {e : Env} {s : State} {m : MethodId} {args : Array Value} {below : List Frame} {meth : Method} {c : Code} {T0 : State} {locs : List Loc} {Z : State} {a0 : Array Value} {h0 : Heap} {n0 : Nat} (a1 bv bp bs bc bu : Addr) (kv kc ku : ClassId) (w7 w8 : Slot) (k : Fin 24) (kk c0 c1 c2 c3 q0 q1 q2 q3 : Int32) (P S : List Int32)
    (X0 : Stand p l e ({ frames := 2, cells := 5, slots := 180, locals := 60 } : Room) s m args below meth c T0 locs 5 180) (hx : p.tables.exec = Jvm.exec) (hZ : Z.Warmed39 s.vm) (hw : ∀ d ∈ tables_1, d.before a0 Z = true) (hby : c.code = prog_26_method_1_code) (hml : c.maxLocals = 9) (hown : s.vm.findClass "com/example/frontward/frontward/offline/Orderings" = some m.cls) (e0 : T0.heap = h0) (N0 : Fr n0 locs) (O0 : Old Z n0 h0) (hw7 : One w7) (hw8 : One w8) (Eo : Exa Z h0 a1 "com/example/frontward/frontward/offline/Orderings") (Fi : Fld Z h0 a1 "com/example/frontward/frontward/offline/Orderings" "items" "I" (.int (4 : Int32))) (Fc : Fld Z h0 a1 "com/example/frontward/frontward/offline/Orderings" "count" "I" (.int (24 : Int32))) (Fp : Fld Z h0 a1 "com/example/frontward/frontward/offline/Orderings" "positions" "[B" (.ref bp)) (Fs : Fld Z h0 a1 "com/example/frontward/frontward/offline/Orderings" "swaps" "[I" (.ref bs)) (Vv : Arv Z h0 bv kv .int (4 : Int32) [(.int (6 : Int32)), (.int (2 : Int32)), (.int (1 : Int32)), (.int (1 : Int32))] (.int (0 : Int32))) (Vc : Arv Z h0 bc kc .int (4 : Int32) [(.int c0), (.int c1), (.int c2), (.int c3)] (.int (0 : Int32))) (Vu : Arv Z h0 bu ku .int (4 : Int32) [(.int q0), (.int q1), (.int q2), (.int q3)] (.int (0 : Int32))) (Lp : La Z h0 bp .byte (96 : Int32) P) (Ls : La Z h0 bs .int (72 : Int32) S) (ne_a1_bv : a1 ≠ bv) (ne_a1_bp : a1 ≠ bp) (ne_a1_bs : a1 ≠ bs) (ne_a1_bc : a1 ≠ bc) (ne_a1_bu : a1 ≠ bu) (ne_bv_bp : bv ≠ bp) (ne_bv_bs : bv ≠ bs) (ne_bv_bc : bv ≠ bc) (ne_bv_bu : bv ≠ bu) (ne_bp_bs : bp ≠ bs) (ne_bp_bc : bp ≠ bc) (ne_bp_bu : bp ≠ bu) (ne_bs_bc : bs ≠ bc) (ne_bs_bu : bs ≠ bu) (ne_bc_bu : bc ≠ bu) (g_bp : n0 ≤ bp) (g_bs : n0 ≤ bs) (g_bc : n0 ≤ bc) (g_bu : n0 ≤ bu) (hkk : kk = Int32.ofNat k.val) (hc0 : c0 = own_d4_0 k.val) (hc1 : c1 = own_d4_1 k.val) (hc2 : c2 = own_d4_2 k.val) (hc3 : c3 = own_d4_3 k.val) :
    ∃ (T' : State) (h' : Heap) (L' : List Loc) (w7' w8' : Slot), Stand p l e ({ frames := 2, cells := 5, slots := 180, locals := 60 } : Room) s m args below meth c T' L' 5 180 ∧ T'.heap = h' ∧ Fr n0 L' ∧ Old Z n0 h' ∧ Keep h0 h' [bp, bs, bc, bu] ∧ Exa Z h' a1 "com/example/frontward/frontward/offline/Orderings" ∧ Fld Z h' a1 "com/example/frontward/frontward/offline/Orderings" "items" "I" (.int (4 : Int32)) ∧ Fld Z h' a1 "com/example/frontward/frontward/offline/Orderings" "count" "I" (.int (24 : Int32)) ∧ Fld Z h' a1 "com/example/frontward/frontward/offline/Orderings" "positions" "[B" (.ref bp) ∧ Fld Z h' a1 "com/example/frontward/frontward/offline/Orderings" "swaps" "[I" (.ref bs) ∧ Arv Z h' bv kv .int (4 : Int32) [(.int (6 : Int32)), (.int (2 : Int32)), (.int (1 : Int32)), (.int (1 : Int32))] (.int (0 : Int32)) ∧ Arv Z h' bc kc .int (4 : Int32) [(.int (own_d4_0 (k.val + 1))), (.int (own_d4_1 (k.val + 1))), (.int (own_d4_2 (k.val + 1))), (.int (own_d4_3 (k.val + 1)))] (.int (0 : Int32)) ∧ (∃ q0 q1 q2 q3 : Int32, Arv Z h' bu ku .int (4 : Int32) [(.int q0), (.int q1), (.int q2), (.int q3)] (.int (0 : Int32))) ∧ La Z h' bp .byte (96 : Int32) (own_tP4 (Int32.ofNat k.val) (own_d4_0 k.val) (own_d4_1 k.val) (own_d4_2 k.val) (own_d4_3 k.val) P) ∧ La Z h' bs .int (72 : Int32) (own_tS4 (Int32.ofNat k.val) (own_d4_0 k.val) (own_d4_1 k.val) (own_d4_2 k.val) (own_d4_3 k.val) S) ∧ One w7' ∧ One w8' ∧ ∀ t, Steps p.tables e below (T'.setTop (mkF m 112 #[.val (.ref a1), .val (.int (4 : Int32)), .val (.ref bv), .val (.int (24 : Int32)), .val (.ref bc), .val (.ref bu), .val (.int (Int32.ofNat (k.val + 1))), w7', w8'] [])) t → Steps p.tables e below (T0.setTop (mkF m 112 #[.val (.ref a1), .val (.int (4 : Int32)), .val (.ref bv), .val (.int (24 : Int32)), .val (.ref bc), .val (.ref bu), .val (.int kk), w7, w8] [])) t := by
  have hd0 : c0 = (0 : Int32) ∨ c0 = (1 : Int32) ∨ c0 = (2 : Int32) ∨ c0 = (3 : Int32) := by rw [hc0]; exact own_dd4_0 k
  have hd1 : c1 = (0 : Int32) ∨ c1 = (1 : Int32) ∨ c1 = (2 : Int32) := by rw [hc1]; exact own_dd4_1 k
  have hd2 : c2 = (0 : Int32) ∨ c2 = (1 : Int32) := by rw [hc2]; exact own_dd4_2 k
  have hd3 : c3 = (0 : Int32) := by rw [hc3]; exact own_dd4_3 k
  have hkb : own_bd 24 kk := by rw [hkk]; exact (own_kb4 k).1
  have hkl : kk < (24 : Int32) := by rw [hkk]; exact (own_kb4 k).2
  have pre0 : ∀ t, Steps p.tables e below (T0.setTop (mkF m 112 #[.val (.ref a1), .val (.int (4 : Int32)), .val (.ref bv), .val (.int (24 : Int32)), .val (.ref bc), .val (.ref bu), .val (.int kk), w7, w8] [])) t → Steps p.tables e below (T0.setTop (mkF m 112 #[.val (.ref a1), .val (.int (4 : Int32)), .val (.ref bv), .val (.int (24 : Int32)), .val (.ref bc), .val (.ref bu), .val (.int kk), w7, w8] [])) t := fun _ k => k
  obtain ⟨T101, X101, e101, st101⟩ := getF X0 hx hZ hown (host := "") (Or.inl (hw _ (List.mem_of_getElem? (i := 12) rfl))) Via.refl e0 Fc (g := (mkF m 115 #[.val (.ref a1), .val (.int (4 : Int32)), .val (.ref bv), .val (.int (24 : Int32)), .val (.ref bc), .val (.ref bu), .val (.int kk), w7, w8] [(.ref a1), (.int kk)])) rfl rfl (hb hby dc5_115)
  obtain ⟨cl102, Ar102, q102, S102, N102_, H102, G102⟩ := id Vu
  have hin102 : ¬ ((0 : Int32) < 0 ∨ cl102.slots.size ≤ ((0 : Int32)).toNatClampNeg) := inb_of S102 ⟨by decide, by decide⟩
  obtain ⟨T103, h103, X103, e103, W103, st103⟩ := stI X101 hx hZ e101 Ar102 (j := (0 : Int32)) hin102 (g := (mkF m 136 #[.val (.ref a1), .val (.int (4 : Int32)), .val (.ref bv), .val (.int (24 : Int32)), .val (.ref bc), .val (.ref bu), .val (.int kk), .val (.int (0 : Int32)), w8] [(.int (0 : Int32)), (.int (0 : Int32)), (.ref bu)])) rfl rfl (hb hby dc5_136)
  have V103 : Arv Z h103 bu ku .int (4 : Int32) [(.int (0 : Int32)), (.int q1), (.int q2), (.int q3)] (.int (0 : Int32)) := Arv.set Ar102 q102 S102 N102_ H102 G102 rfl W103 0 rfl (Nat.le_of_ble_eq_true rfl)
  have N103 := Fr.snoc X103 N0 g_bu
  obtain ⟨cl104, Ar104, q104, S104, N104_, H104, G104⟩ := id V103
  have hin104 : ¬ ((1 : Int32) < 0 ∨ cl104.slots.size ≤ ((1 : Int32)).toNatClampNeg) := inb_of S104 ⟨by decide, by decide⟩
  obtain ⟨T105, h105, X105, e105, W105, st105⟩ := stI X103 hx hZ e103 Ar104 (j := (1 : Int32)) hin104 (g := (mkF m 136 #[.val (.ref a1), .val (.int (4 : Int32)), .val (.ref bv), .val (.int (24 : Int32)), .val (.ref bc), .val (.ref bu), .val (.int kk), .val (.int (1 : Int32)), w8] [(.int (1 : Int32)), (.int (1 : Int32)), (.ref bu)])) rfl rfl (hb hby dc5_136)
  have V105 : Arv Z h105 bu ku .int (4 : Int32) [(.int (0 : Int32)), (.int (1 : Int32)), (.int q2), (.int q3)] (.int (0 : Int32)) := Arv.set Ar104 q104 S104 N104_ H104 G104 rfl W105 1 rfl (Nat.le_of_ble_eq_true rfl)
  have N105 := Fr.snoc X105 N103 g_bu
  obtain ⟨cl106, Ar106, q106, S106, N106_, H106, G106⟩ := id V105
  have hin106 : ¬ ((2 : Int32) < 0 ∨ cl106.slots.size ≤ ((2 : Int32)).toNatClampNeg) := inb_of S106 ⟨by decide, by decide⟩
  obtain ⟨T107, h107, X107, e107, W107, st107⟩ := stI X105 hx hZ e105 Ar106 (j := (2 : Int32)) hin106 (g := (mkF m 136 #[.val (.ref a1), .val (.int (4 : Int32)), .val (.ref bv), .val (.int (24 : Int32)), .val (.ref bc), .val (.ref bu), .val (.int kk), .val (.int (2 : Int32)), w8] [(.int (2 : Int32)), (.int (2 : Int32)), (.ref bu)])) rfl rfl (hb hby dc5_136)
  have V107 : Arv Z h107 bu ku .int (4 : Int32) [(.int (0 : Int32)), (.int (1 : Int32)), (.int (2 : Int32)), (.int q3)] (.int (0 : Int32)) := Arv.set Ar106 q106 S106 N106_ H106 G106 rfl W107 2 rfl (Nat.le_of_ble_eq_true rfl)
  have N107 := Fr.snoc X107 N105 g_bu
  obtain ⟨cl108, Ar108, q108, S108, N108_, H108, G108⟩ := id V107
  have hin108 : ¬ ((3 : Int32) < 0 ∨ cl108.slots.size ≤ ((3 : Int32)).toNatClampNeg) := inb_of S108 ⟨by decide, by decide⟩
  obtain ⟨T109, h109, X109, e109, W109, st109⟩ := stI X107 hx hZ e107 Ar108 (j := (3 : Int32)) hin108 (g := (mkF m 136 #[.val (.ref a1), .val (.int (4 : Int32)), .val (.ref bv), .val (.int (24 : Int32)), .val (.ref bc), .val (.ref bu), .val (.int kk), .val (.int (3 : Int32)), w8] [(.int (3 : Int32)), (.int (3 : Int32)), (.ref bu)])) rfl rfl (hb hby dc5_136)
  have V109 : Arv Z h109 bu ku .int (4 : Int32) [(.int (0 : Int32)), (.int (1 : Int32)), (.int (2 : Int32)), (.int (3 : Int32))] (.int (0 : Int32)) := Arv.set Ar108 q108 S108 N108_ H108 G108 rfl W109 3 rfl (Nat.le_of_ble_eq_true rfl)
  have N109 := Fr.snoc X109 N107 g_bu
  have f110 := ((((Vc.other W103 ne_bc_bu).other W105 ne_bc_bu).other W107 ne_bc_bu).other W109 ne_bc_bu)
  obtain ⟨cl111, Ar111, q111, S111, N111_, H111, G111⟩ := id f110
  have hin111 : ¬ ((0 : Int32) < 0 ∨ cl111.slots.size ≤ ((0 : Int32)).toNatClampNeg) := inb_of S111 ⟨by decide, by decide⟩
  have hat111 : cl111.slots[((0 : Int32)).toNatClampNeg]? = some (.int c0) := H111.at hin111 rfl
  obtain ⟨cl112, Ar112, q112, S112, N112_, H112, G112⟩ := id V109
  obtain ⟨it113, hit113⟩ : ∃ z, z = own_nth4 c0 (0 : Int32) (1 : Int32) (2 : Int32) (3 : Int32) := ⟨_, rfl⟩
  have bit113 : own_bd 4 it113 := by rw [hit113]; exact own_nb4 (by decide : own_bd 4 (0 : Int32)) (by decide : own_bd 4 (1 : Int32)) (by decide : own_bd 4 (2 : Int32)) (by decide : own_bd 4 (3 : Int32))
  have hin112 : ¬ (c0 < 0 ∨ cl112.slots.size ≤ (c0).toNatClampNeg) := inb_of S112 (own_pin4_0 hd0)
  have hat112 : cl112.slots[(c0).toNatClampNeg]? = some (.int it113) := H112.at hin112 (by rw [hit113]; exact own_nl4_0 hd0)
  obtain ⟨cl114, Ar114, q114, S114, N114_, H114, G114⟩ := id f110
  have hin114 : ¬ ((0 : Int32) < 0 ∨ cl114.slots.size ≤ ((0 : Int32)).toNatClampNeg) := inb_of S114 ⟨by decide, by decide⟩
  have hat114 : cl114.slots[((0 : Int32)).toNatClampNeg]? = some (.int c0) := H114.at hin114 rfl
  obtain ⟨cl115, Ar115, q115, S115, N115_, H115, G115⟩ := id f110
  have hin115 : ¬ ((0 : Int32) < 0 ∨ cl115.slots.size ≤ ((0 : Int32)).toNatClampNeg) := inb_of S115 ⟨by decide, by decide⟩
  have hat115 : cl115.slots[((0 : Int32)).toNatClampNeg]? = some (.int c0) := H115.at hin115 rfl
  obtain ⟨cl116, Ar116, q116, S116, N116_, H116, G116⟩ := id f110
  have hin116 : ¬ ((0 : Int32) < 0 ∨ cl116.slots.size ≤ ((0 : Int32)).toNatClampNeg) := inb_of S116 ⟨by decide, by decide⟩
  have hat116 : cl116.slots[((0 : Int32)).toNatClampNeg]? = some (.int c0) := H116.at hin116 rfl
  obtain ⟨T117, h117, L117, X117, e117, N117, K117, V117_, st117⟩ := cpA X109 hx hZ hown (hw _ (List.mem_of_getElem? (i := 19) rfl)) (hw _ (List.mem_of_getElem? (i := 22) rfl)) (hw _ (List.mem_of_getElem? (i := 20) rfl)) (hw _ (List.mem_of_getElem? (i := 21) rfl)) e109 V109 V109 (Or.inl ⟨rfl, rfl⟩) (own_cp4_0 (u0 := (0 : Int32)) (u1 := (1 : Int32)) (u2 := (2 : Int32)) (u3 := (3 : Int32)) hd0).1 (own_cp4_0 (u0 := (0 : Int32)) (u1 := (1 : Int32)) (u2 := (2 : Int32)) (u3 := (3 : Int32)) hd0).2.1 (own_cp4_0 (u0 := (0 : Int32)) (u1 := (1 : Int32)) (u2 := (2 : Int32)) (u3 := (3 : Int32)) hd0).2.2.1 (own_cp4_0 (u0 := (0 : Int32)) (u1 := (1 : Int32)) (u2 := (2 : Int32)) (u3 := (3 : Int32)) hd0).2.2.2.1 (own_cp4_0 (u0 := (0 : Int32)) (u1 := (1 : Int32)) (u2 := (2 : Int32)) (u3 := (3 : Int32)) hd0).2.2.2.2.1 rfl (Nat.le_trans (own_cp4_0 (u0 := (0 : Int32)) (u1 := (1 : Int32)) (u2 := (2 : Int32)) (u3 := (3 : Int32)) hd0).2.2.2.2.1 (by decide : (4 : Int32).toNatClampNeg ≤ 4)) N109 g_bu (g := (mkF m 190 #[.val (.ref a1), .val (.int (4 : Int32)), .val (.ref bv), .val (.int (24 : Int32)), .val (.ref bc), .val (.ref bu), .val (.int kk), .val (.int (0 : Int32)), .val (.int it113)] [(.int ((3 : Int32) - c0)), (.int c0), (.ref bu), (.int (c0 + (1 : Int32))), (.ref bu)])) rfl (by rw [hml]; rfl) rfl (hb hby dc5_190) (by decide) (W := 0) (by show 2 * 0 + _ ≤ _; exact Nat.le_of_eq rfl) (by decide)
  have V117 : Arv Z h117 bu ku .int (4 : Int32) [(.int (own_sh c0 (0 : Int32) (0 : Int32) (1 : Int32))), (.int (own_sh c0 (1 : Int32) (1 : Int32) (2 : Int32))), (.int (own_sh c0 (2 : Int32) (2 : Int32) (3 : Int32))), (.int (3 : Int32))] (.int (0 : Int32)) := by have q := V117_; rw [(own_cp4_0 (u0 := (0 : Int32)) (u1 := (1 : Int32)) (u2 := (2 : Int32)) (u3 := (3 : Int32)) hd0).2.2.2.2.2] at q; exact q
  obtain ⟨u118, hu118⟩ : ∃ z, z = (own_sh c0 (0 : Int32) (0 : Int32) (1 : Int32)) := ⟨_, rfl⟩
  rw [← hu118] at V117
  have bu118 : own_bd 4 u118 := by rw [hu118]; exact own_sh_bd (by decide : own_bd 4 (0 : Int32)) (by decide : own_bd 4 (1 : Int32))
  obtain ⟨u119, hu119⟩ : ∃ z, z = (own_sh c0 (1 : Int32) (1 : Int32) (2 : Int32)) := ⟨_, rfl⟩
  rw [← hu119] at V117
  have bu119 : own_bd 4 u119 := by rw [hu119]; exact own_sh_bd (by decide : own_bd 4 (1 : Int32)) (by decide : own_bd 4 (2 : Int32))
  obtain ⟨u120, hu120⟩ : ∃ z, z = (own_sh c0 (2 : Int32) (2 : Int32) (3 : Int32)) := ⟨_, rfl⟩
  rw [← hu120] at V117
  have bu120 : own_bd 4 u120 := by rw [hu120]; exact own_sh_bd (by decide : own_bd 4 (2 : Int32)) (by decide : own_bd 4 (3 : Int32))
  have f121 := (((((Fp.other W103 (Or.inl ne_a1_bu)).other W105 (Or.inl ne_a1_bu)).other W107 (Or.inl ne_a1_bu)).other W109 (Or.inl ne_a1_bu)).keep K117 (ninS ne_a1_bu nin0))
  obtain ⟨T122, X122, e122, st122⟩ := getF X117 hx hZ hown (host := "") (Or.inl (hw _ (List.mem_of_getElem? (i := 15) rfl))) Via.refl e117 f121 (g := (mkF m 194 #[.val (.ref a1), .val (.int (4 : Int32)), .val (.ref bv), .val (.int (24 : Int32)), .val (.ref bc), .val (.ref bu), .val (.int kk), .val (.int (0 : Int32)), .val (.int it113)] [(.ref a1)])) rfl rfl (hb hby dc5_194)
  have f123 := (((((Fc.other W103 (Or.inl ne_a1_bu)).other W105 (Or.inl ne_a1_bu)).other W107 (Or.inl ne_a1_bu)).other W109 (Or.inl ne_a1_bu)).keep K117 (ninS ne_a1_bu nin0))
  obtain ⟨T124, X124, e124, st124⟩ := getF X122 hx hZ hown (host := "") (Or.inl (hw _ (List.mem_of_getElem? (i := 12) rfl))) Via.refl e122 f123 (g := (mkF m 200 #[.val (.ref a1), .val (.int (4 : Int32)), .val (.ref bv), .val (.int (24 : Int32)), .val (.ref bc), .val (.ref bu), .val (.int kk), .val (.int (0 : Int32)), .val (.int it113)] [(.ref a1), (.int it113), (.ref bp)])) rfl rfl (hb hby dc5_200)
  have f125 := (((((Lp.other W103 ne_bp_bu).other W105 ne_bp_bu).other W107 ne_bp_bu).other W109 ne_bp_bu).keep K117 (ninS ne_bp_bu nin0))
  obtain ⟨cl126, Ar126, hin126, up126⟩ := La.up (j := ((it113 * (24 : Int32)) + kk)) f125 (own_ix (n := 4) (cn := 24) bit113 hkb (by decide) (by decide) (by decide) (by decide) (by decide))
  obtain ⟨T127, h127, X127, e127, W127, st127⟩ := stB X124 hx hZ e124 Ar126 (j := ((it113 * (24 : Int32)) + kk)) hin126 (g := (mkF m 210 #[.val (.ref a1), .val (.int (4 : Int32)), .val (.ref bv), .val (.int (24 : Int32)), .val (.ref bc), .val (.ref bu), .val (.int kk), .val (.int (0 : Int32)), .val (.int it113)] [(.int (0 : Int32)), (.int ((it113 * (24 : Int32)) + kk)), (.ref bp)])) rfl rfl (hb hby dc5_210)
  have A127 : La Z h127 bp .byte (96 : Int32) (P.set (((it113 * (24 : Int32)) + kk)).toNatClampNeg (0 : Int32)) := up126 _ (by first | rfl | decide) _ W127
  have N127 := Fr.snoc X127 N117 g_bp
  have f128 := ((f110.keep K117 (ninS ne_bc_bu nin0)).other W127 (Ne.symm ne_bp_bc))
  obtain ⟨cl129, Ar129, q129, S129, N129_, H129, G129⟩ := id f128
  have hin129 : ¬ ((1 : Int32) < 0 ∨ cl129.slots.size ≤ ((1 : Int32)).toNatClampNeg) := inb_of S129 ⟨by decide, by decide⟩
  have hat129 : cl129.slots[((1 : Int32)).toNatClampNeg]? = some (.int c1) := H129.at hin129 rfl
  have f130 := (V117.other W127 (Ne.symm ne_bp_bu))
  obtain ⟨cl131, Ar131, q131, S131, N131_, H131, G131⟩ := id f130
  obtain ⟨it132, hit132⟩ : ∃ z, z = own_nth4 c1 u118 u119 u120 (3 : Int32) := ⟨_, rfl⟩
  have bit132 : own_bd 4 it132 := by rw [hit132]; exact own_nb4 bu118 bu119 bu120 (by decide : own_bd 4 (3 : Int32))
  have hin131 : ¬ (c1 < 0 ∨ cl131.slots.size ≤ (c1).toNatClampNeg) := inb_of S131 (own_pin4_1 hd1)
  have hat131 : cl131.slots[(c1).toNatClampNeg]? = some (.int it132) := H131.at hin131 (by rw [hit132]; exact own_nl4_1 hd1)
  obtain ⟨cl133, Ar133, q133, S133, N133_, H133, G133⟩ := id f128
  have hin133 : ¬ ((1 : Int32) < 0 ∨ cl133.slots.size ≤ ((1 : Int32)).toNatClampNeg) := inb_of S133 ⟨by decide, by decide⟩
  have hat133 : cl133.slots[((1 : Int32)).toNatClampNeg]? = some (.int c1) := H133.at hin133 rfl
  obtain ⟨cl134, Ar134, q134, S134, N134_, H134, G134⟩ := id f128
  have hin134 : ¬ ((1 : Int32) < 0 ∨ cl134.slots.size ≤ ((1 : Int32)).toNatClampNeg) := inb_of S134 ⟨by decide, by decide⟩
  have hat134 : cl134.slots[((1 : Int32)).toNatClampNeg]? = some (.int c1) := H134.at hin134 rfl
  obtain ⟨cl135, Ar135, q135, S135, N135_, H135, G135⟩ := id f128
  have hin135 : ¬ ((1 : Int32) < 0 ∨ cl135.slots.size ≤ ((1 : Int32)).toNatClampNeg) := inb_of S135 ⟨by decide, by decide⟩
  have hat135 : cl135.slots[((1 : Int32)).toNatClampNeg]? = some (.int c1) := H135.at hin135 rfl
  obtain ⟨T136, h136, L136, X136, e136, N136, K136, V136_, st136⟩ := cpA X127 hx hZ hown (hw _ (List.mem_of_getElem? (i := 19) rfl)) (hw _ (List.mem_of_getElem? (i := 22) rfl)) (hw _ (List.mem_of_getElem? (i := 20) rfl)) (hw _ (List.mem_of_getElem? (i := 21) rfl)) e127 f130 f130 (Or.inl ⟨rfl, rfl⟩) (own_cp4_1 (u0 := u118) (u1 := u119) (u2 := u120) (u3 := (3 : Int32)) hd1).1 (own_cp4_1 (u0 := u118) (u1 := u119) (u2 := u120) (u3 := (3 : Int32)) hd1).2.1 (own_cp4_1 (u0 := u118) (u1 := u119) (u2 := u120) (u3 := (3 : Int32)) hd1).2.2.1 (own_cp4_1 (u0 := u118) (u1 := u119) (u2 := u120) (u3 := (3 : Int32)) hd1).2.2.2.1 (own_cp4_1 (u0 := u118) (u1 := u119) (u2 := u120) (u3 := (3 : Int32)) hd1).2.2.2.2.1 rfl (Nat.le_trans (own_cp4_1 (u0 := u118) (u1 := u119) (u2 := u120) (u3 := (3 : Int32)) hd1).2.2.2.2.1 (by decide : (4 : Int32).toNatClampNeg ≤ 4)) N127 g_bu (g := (mkF m 190 #[.val (.ref a1), .val (.int (4 : Int32)), .val (.ref bv), .val (.int (24 : Int32)), .val (.ref bc), .val (.ref bu), .val (.int kk), .val (.int (1 : Int32)), .val (.int it132)] [(.int ((2 : Int32) - c1)), (.int c1), (.ref bu), (.int (c1 + (1 : Int32))), (.ref bu)])) rfl (by rw [hml]; rfl) rfl (hb hby dc5_190) (by decide) (W := 0) (by show 2 * 0 + _ ≤ _; exact Nat.le_of_eq rfl) (by decide)
  have V136 : Arv Z h136 bu ku .int (4 : Int32) [(.int (own_sh c1 (0 : Int32) u118 u119)), (.int (own_sh c1 (1 : Int32) u119 u120)), (.int u120), (.int (3 : Int32))] (.int (0 : Int32)) := by have q := V136_; rw [(own_cp4_1 (u0 := u118) (u1 := u119) (u2 := u120) (u3 := (3 : Int32)) hd1).2.2.2.2.2] at q; exact q
  obtain ⟨u137, hu137⟩ : ∃ z, z = (own_sh c1 (0 : Int32) u118 u119) := ⟨_, rfl⟩
  rw [← hu137] at V136
  have bu137 : own_bd 4 u137 := by rw [hu137]; exact own_sh_bd bu118 bu119
  obtain ⟨u138, hu138⟩ : ∃ z, z = (own_sh c1 (1 : Int32) u119 u120) := ⟨_, rfl⟩
  rw [← hu138] at V136
  have bu138 : own_bd 4 u138 := by rw [hu138]; exact own_sh_bd bu119 bu120
  have f139 := ((f121.other W127 (Or.inl ne_a1_bp)).keep K136 (ninS ne_a1_bu nin0))
  obtain ⟨T140, X140, e140, st140⟩ := getF X136 hx hZ hown (host := "") (Or.inl (hw _ (List.mem_of_getElem? (i := 15) rfl))) Via.refl e136 f139 (g := (mkF m 194 #[.val (.ref a1), .val (.int (4 : Int32)), .val (.ref bv), .val (.int (24 : Int32)), .val (.ref bc), .val (.ref bu), .val (.int kk), .val (.int (1 : Int32)), .val (.int it132)] [(.ref a1)])) rfl rfl (hb hby dc5_194)
  have f141 := ((f123.other W127 (Or.inl ne_a1_bp)).keep K136 (ninS ne_a1_bu nin0))
  obtain ⟨T142, X142, e142, st142⟩ := getF X140 hx hZ hown (host := "") (Or.inl (hw _ (List.mem_of_getElem? (i := 12) rfl))) Via.refl e140 f141 (g := (mkF m 200 #[.val (.ref a1), .val (.int (4 : Int32)), .val (.ref bv), .val (.int (24 : Int32)), .val (.ref bc), .val (.ref bu), .val (.int kk), .val (.int (1 : Int32)), .val (.int it132)] [(.ref a1), (.int it132), (.ref bp)])) rfl rfl (hb hby dc5_200)
  have f143 := (A127.keep K136 (ninS ne_bp_bu nin0))
  obtain ⟨cl144, Ar144, hin144, up144⟩ := La.up (j := ((it132 * (24 : Int32)) + kk)) f143 (own_ix (n := 4) (cn := 24) bit132 hkb (by decide) (by decide) (by decide) (by decide) (by decide))
  obtain ⟨T145, h145, X145, e145, W145, st145⟩ := stB X142 hx hZ e142 Ar144 (j := ((it132 * (24 : Int32)) + kk)) hin144 (g := (mkF m 210 #[.val (.ref a1), .val (.int (4 : Int32)), .val (.ref bv), .val (.int (24 : Int32)), .val (.ref bc), .val (.ref bu), .val (.int kk), .val (.int (1 : Int32)), .val (.int it132)] [(.int (1 : Int32)), (.int ((it132 * (24 : Int32)) + kk)), (.ref bp)])) rfl rfl (hb hby dc5_210)
  have A145 : La Z h145 bp .byte (96 : Int32) ((P.set (((it113 * (24 : Int32)) + kk)).toNatClampNeg (0 : Int32)).set (((it132 * (24 : Int32)) + kk)).toNatClampNeg (1 : Int32)) := up144 _ (by first | rfl | decide) _ W145
  have N145 := Fr.snoc X145 N136 g_bp
  have f146 := ((f128.keep K136 (ninS ne_bc_bu nin0)).other W145 (Ne.symm ne_bp_bc))
  obtain ⟨cl147, Ar147, q147, S147, N147_, H147, G147⟩ := id f146
  have hin147 : ¬ ((2 : Int32) < 0 ∨ cl147.slots.size ≤ ((2 : Int32)).toNatClampNeg) := inb_of S147 ⟨by decide, by decide⟩
  have hat147 : cl147.slots[((2 : Int32)).toNatClampNeg]? = some (.int c2) := H147.at hin147 rfl
  have f148 := (V136.other W145 (Ne.symm ne_bp_bu))
  obtain ⟨cl149, Ar149, q149, S149, N149_, H149, G149⟩ := id f148
  obtain ⟨it150, hit150⟩ : ∃ z, z = own_nth4 c2 u137 u138 u120 (3 : Int32) := ⟨_, rfl⟩
  have bit150 : own_bd 4 it150 := by rw [hit150]; exact own_nb4 bu137 bu138 bu120 (by decide : own_bd 4 (3 : Int32))
  have hin149 : ¬ (c2 < 0 ∨ cl149.slots.size ≤ (c2).toNatClampNeg) := inb_of S149 (own_pin4_2 hd2)
  have hat149 : cl149.slots[(c2).toNatClampNeg]? = some (.int it150) := H149.at hin149 (by rw [hit150]; exact own_nl4_2 hd2)
  obtain ⟨cl151, Ar151, q151, S151, N151_, H151, G151⟩ := id f146
  have hin151 : ¬ ((2 : Int32) < 0 ∨ cl151.slots.size ≤ ((2 : Int32)).toNatClampNeg) := inb_of S151 ⟨by decide, by decide⟩
  have hat151 : cl151.slots[((2 : Int32)).toNatClampNeg]? = some (.int c2) := H151.at hin151 rfl
  obtain ⟨cl152, Ar152, q152, S152, N152_, H152, G152⟩ := id f146
  have hin152 : ¬ ((2 : Int32) < 0 ∨ cl152.slots.size ≤ ((2 : Int32)).toNatClampNeg) := inb_of S152 ⟨by decide, by decide⟩
  have hat152 : cl152.slots[((2 : Int32)).toNatClampNeg]? = some (.int c2) := H152.at hin152 rfl
  obtain ⟨cl153, Ar153, q153, S153, N153_, H153, G153⟩ := id f146
  have hin153 : ¬ ((2 : Int32) < 0 ∨ cl153.slots.size ≤ ((2 : Int32)).toNatClampNeg) := inb_of S153 ⟨by decide, by decide⟩
  have hat153 : cl153.slots[((2 : Int32)).toNatClampNeg]? = some (.int c2) := H153.at hin153 rfl
  obtain ⟨T154, h154, L154, X154, e154, N154, K154, V154_, st154⟩ := cpA X145 hx hZ hown (hw _ (List.mem_of_getElem? (i := 19) rfl)) (hw _ (List.mem_of_getElem? (i := 22) rfl)) (hw _ (List.mem_of_getElem? (i := 20) rfl)) (hw _ (List.mem_of_getElem? (i := 21) rfl)) e145 f148 f148 (Or.inl ⟨rfl, rfl⟩) (own_cp4_2 (u0 := u137) (u1 := u138) (u2 := u120) (u3 := (3 : Int32)) hd2).1 (own_cp4_2 (u0 := u137) (u1 := u138) (u2 := u120) (u3 := (3 : Int32)) hd2).2.1 (own_cp4_2 (u0 := u137) (u1 := u138) (u2 := u120) (u3 := (3 : Int32)) hd2).2.2.1 (own_cp4_2 (u0 := u137) (u1 := u138) (u2 := u120) (u3 := (3 : Int32)) hd2).2.2.2.1 (own_cp4_2 (u0 := u137) (u1 := u138) (u2 := u120) (u3 := (3 : Int32)) hd2).2.2.2.2.1 rfl (Nat.le_trans (own_cp4_2 (u0 := u137) (u1 := u138) (u2 := u120) (u3 := (3 : Int32)) hd2).2.2.2.2.1 (by decide : (4 : Int32).toNatClampNeg ≤ 4)) N145 g_bu (g := (mkF m 190 #[.val (.ref a1), .val (.int (4 : Int32)), .val (.ref bv), .val (.int (24 : Int32)), .val (.ref bc), .val (.ref bu), .val (.int kk), .val (.int (2 : Int32)), .val (.int it150)] [(.int ((1 : Int32) - c2)), (.int c2), (.ref bu), (.int (c2 + (1 : Int32))), (.ref bu)])) rfl (by rw [hml]; rfl) rfl (hb hby dc5_190) (by decide) (W := 0) (by show 2 * 0 + _ ≤ _; exact Nat.le_of_eq rfl) (by decide)
  have V154 : Arv Z h154 bu ku .int (4 : Int32) [(.int (own_sh c2 (0 : Int32) u137 u138)), (.int u138), (.int u120), (.int (3 : Int32))] (.int (0 : Int32)) := by have q := V154_; rw [(own_cp4_2 (u0 := u137) (u1 := u138) (u2 := u120) (u3 := (3 : Int32)) hd2).2.2.2.2.2] at q; exact q
  obtain ⟨u155, hu155⟩ : ∃ z, z = (own_sh c2 (0 : Int32) u137 u138) := ⟨_, rfl⟩
  rw [← hu155] at V154
  have bu155 : own_bd 4 u155 := by rw [hu155]; exact own_sh_bd bu137 bu138
  have f156 := ((f139.other W145 (Or.inl ne_a1_bp)).keep K154 (ninS ne_a1_bu nin0))
  obtain ⟨T157, X157, e157, st157⟩ := getF X154 hx hZ hown (host := "") (Or.inl (hw _ (List.mem_of_getElem? (i := 15) rfl))) Via.refl e154 f156 (g := (mkF m 194 #[.val (.ref a1), .val (.int (4 : Int32)), .val (.ref bv), .val (.int (24 : Int32)), .val (.ref bc), .val (.ref bu), .val (.int kk), .val (.int (2 : Int32)), .val (.int it150)] [(.ref a1)])) rfl rfl (hb hby dc5_194)
  have f158 := ((f141.other W145 (Or.inl ne_a1_bp)).keep K154 (ninS ne_a1_bu nin0))
  obtain ⟨T159, X159, e159, st159⟩ := getF X157 hx hZ hown (host := "") (Or.inl (hw _ (List.mem_of_getElem? (i := 12) rfl))) Via.refl e157 f158 (g := (mkF m 200 #[.val (.ref a1), .val (.int (4 : Int32)), .val (.ref bv), .val (.int (24 : Int32)), .val (.ref bc), .val (.ref bu), .val (.int kk), .val (.int (2 : Int32)), .val (.int it150)] [(.ref a1), (.int it150), (.ref bp)])) rfl rfl (hb hby dc5_200)
  have f160 := (A145.keep K154 (ninS ne_bp_bu nin0))
  obtain ⟨cl161, Ar161, hin161, up161⟩ := La.up (j := ((it150 * (24 : Int32)) + kk)) f160 (own_ix (n := 4) (cn := 24) bit150 hkb (by decide) (by decide) (by decide) (by decide) (by decide))
  obtain ⟨T162, h162, X162, e162, W162, st162⟩ := stB X159 hx hZ e159 Ar161 (j := ((it150 * (24 : Int32)) + kk)) hin161 (g := (mkF m 210 #[.val (.ref a1), .val (.int (4 : Int32)), .val (.ref bv), .val (.int (24 : Int32)), .val (.ref bc), .val (.ref bu), .val (.int kk), .val (.int (2 : Int32)), .val (.int it150)] [(.int (2 : Int32)), (.int ((it150 * (24 : Int32)) + kk)), (.ref bp)])) rfl rfl (hb hby dc5_210)
  have A162 : La Z h162 bp .byte (96 : Int32) (((P.set (((it113 * (24 : Int32)) + kk)).toNatClampNeg (0 : Int32)).set (((it132 * (24 : Int32)) + kk)).toNatClampNeg (1 : Int32)).set (((it150 * (24 : Int32)) + kk)).toNatClampNeg (2 : Int32)) := up161 _ (by first | rfl | decide) _ W162
  have N162 := Fr.snoc X162 N154 g_bp
  have f163 := ((f146.keep K154 (ninS ne_bc_bu nin0)).other W162 (Ne.symm ne_bp_bc))
  obtain ⟨cl164, Ar164, q164, S164, N164_, H164, G164⟩ := id f163
  have hin164 : ¬ ((3 : Int32) < 0 ∨ cl164.slots.size ≤ ((3 : Int32)).toNatClampNeg) := inb_of S164 ⟨by decide, by decide⟩
  have hat164 : cl164.slots[((3 : Int32)).toNatClampNeg]? = some (.int c3) := H164.at hin164 rfl
  have f165 := (V154.other W162 (Ne.symm ne_bp_bu))
  obtain ⟨cl166, Ar166, q166, S166, N166_, H166, G166⟩ := id f165
  obtain ⟨it167, hit167⟩ : ∃ z, z = own_nth4 c3 u155 u138 u120 (3 : Int32) := ⟨_, rfl⟩
  have bit167 : own_bd 4 it167 := by rw [hit167]; exact own_nb4 bu155 bu138 bu120 (by decide : own_bd 4 (3 : Int32))
  have hin166 : ¬ (c3 < 0 ∨ cl166.slots.size ≤ (c3).toNatClampNeg) := inb_of S166 (own_pin4_3 hd3)
  have hat166 : cl166.slots[(c3).toNatClampNeg]? = some (.int it167) := H166.at hin166 (by rw [hit167]; exact own_nl4_3 hd3)
  obtain ⟨cl168, Ar168, q168, S168, N168_, H168, G168⟩ := id f163
  have hin168 : ¬ ((3 : Int32) < 0 ∨ cl168.slots.size ≤ ((3 : Int32)).toNatClampNeg) := inb_of S168 ⟨by decide, by decide⟩
  have hat168 : cl168.slots[((3 : Int32)).toNatClampNeg]? = some (.int c3) := H168.at hin168 rfl
  obtain ⟨cl169, Ar169, q169, S169, N169_, H169, G169⟩ := id f163
  have hin169 : ¬ ((3 : Int32) < 0 ∨ cl169.slots.size ≤ ((3 : Int32)).toNatClampNeg) := inb_of S169 ⟨by decide, by decide⟩
  have hat169 : cl169.slots[((3 : Int32)).toNatClampNeg]? = some (.int c3) := H169.at hin169 rfl
  obtain ⟨cl170, Ar170, q170, S170, N170_, H170, G170⟩ := id f163
  have hin170 : ¬ ((3 : Int32) < 0 ∨ cl170.slots.size ≤ ((3 : Int32)).toNatClampNeg) := inb_of S170 ⟨by decide, by decide⟩
  have hat170 : cl170.slots[((3 : Int32)).toNatClampNeg]? = some (.int c3) := H170.at hin170 rfl
  obtain ⟨T171, h171, L171, X171, e171, N171, K171, V171_, st171⟩ := cpA X162 hx hZ hown (hw _ (List.mem_of_getElem? (i := 19) rfl)) (hw _ (List.mem_of_getElem? (i := 22) rfl)) (hw _ (List.mem_of_getElem? (i := 20) rfl)) (hw _ (List.mem_of_getElem? (i := 21) rfl)) e162 f165 f165 (Or.inl ⟨rfl, rfl⟩) (own_cp4_3 (u0 := u155) (u1 := u138) (u2 := u120) (u3 := (3 : Int32)) hd3).1 (own_cp4_3 (u0 := u155) (u1 := u138) (u2 := u120) (u3 := (3 : Int32)) hd3).2.1 (own_cp4_3 (u0 := u155) (u1 := u138) (u2 := u120) (u3 := (3 : Int32)) hd3).2.2.1 (own_cp4_3 (u0 := u155) (u1 := u138) (u2 := u120) (u3 := (3 : Int32)) hd3).2.2.2.1 (own_cp4_3 (u0 := u155) (u1 := u138) (u2 := u120) (u3 := (3 : Int32)) hd3).2.2.2.2.1 rfl (Nat.le_trans (own_cp4_3 (u0 := u155) (u1 := u138) (u2 := u120) (u3 := (3 : Int32)) hd3).2.2.2.2.1 (by decide : (4 : Int32).toNatClampNeg ≤ 4)) N162 g_bu (g := (mkF m 190 #[.val (.ref a1), .val (.int (4 : Int32)), .val (.ref bv), .val (.int (24 : Int32)), .val (.ref bc), .val (.ref bu), .val (.int kk), .val (.int (3 : Int32)), .val (.int it167)] [(.int ((0 : Int32) - c3)), (.int c3), (.ref bu), (.int (c3 + (1 : Int32))), (.ref bu)])) rfl (by rw [hml]; rfl) rfl (hb hby dc5_190) (by decide) (W := 0) (by show 2 * 0 + _ ≤ _; exact Nat.le_of_eq rfl) (by decide)
  have V171 : Arv Z h171 bu ku .int (4 : Int32) [(.int u155), (.int u138), (.int u120), (.int (3 : Int32))] (.int (0 : Int32)) := by have q := V171_; rw [(own_cp4_3 (u0 := u155) (u1 := u138) (u2 := u120) (u3 := (3 : Int32)) hd3).2.2.2.2.2] at q; exact q
  have f172 := ((f156.other W162 (Or.inl ne_a1_bp)).keep K171 (ninS ne_a1_bu nin0))
  obtain ⟨T173, X173, e173, st173⟩ := getF X171 hx hZ hown (host := "") (Or.inl (hw _ (List.mem_of_getElem? (i := 15) rfl))) Via.refl e171 f172 (g := (mkF m 194 #[.val (.ref a1), .val (.int (4 : Int32)), .val (.ref bv), .val (.int (24 : Int32)), .val (.ref bc), .val (.ref bu), .val (.int kk), .val (.int (3 : Int32)), .val (.int it167)] [(.ref a1)])) rfl rfl (hb hby dc5_194)
  have f174 := ((f158.other W162 (Or.inl ne_a1_bp)).keep K171 (ninS ne_a1_bu nin0))
  obtain ⟨T175, X175, e175, st175⟩ := getF X173 hx hZ hown (host := "") (Or.inl (hw _ (List.mem_of_getElem? (i := 12) rfl))) Via.refl e173 f174 (g := (mkF m 200 #[.val (.ref a1), .val (.int (4 : Int32)), .val (.ref bv), .val (.int (24 : Int32)), .val (.ref bc), .val (.ref bu), .val (.int kk), .val (.int (3 : Int32)), .val (.int it167)] [(.ref a1), (.int it167), (.ref bp)])) rfl rfl (hb hby dc5_200)
  have f176 := (A162.keep K171 (ninS ne_bp_bu nin0))
  obtain ⟨cl177, Ar177, hin177, up177⟩ := La.up (j := ((it167 * (24 : Int32)) + kk)) f176 (own_ix (n := 4) (cn := 24) bit167 hkb (by decide) (by decide) (by decide) (by decide) (by decide))
  obtain ⟨T178, h178, X178, e178, W178, st178⟩ := stB X175 hx hZ e175 Ar177 (j := ((it167 * (24 : Int32)) + kk)) hin177 (g := (mkF m 210 #[.val (.ref a1), .val (.int (4 : Int32)), .val (.ref bv), .val (.int (24 : Int32)), .val (.ref bc), .val (.ref bu), .val (.int kk), .val (.int (3 : Int32)), .val (.int it167)] [(.int (3 : Int32)), (.int ((it167 * (24 : Int32)) + kk)), (.ref bp)])) rfl rfl (hb hby dc5_210)
  have A178 : La Z h178 bp .byte (96 : Int32) ((((P.set (((it113 * (24 : Int32)) + kk)).toNatClampNeg (0 : Int32)).set (((it132 * (24 : Int32)) + kk)).toNatClampNeg (1 : Int32)).set (((it150 * (24 : Int32)) + kk)).toNatClampNeg (2 : Int32)).set (((it167 * (24 : Int32)) + kk)).toNatClampNeg (3 : Int32)) := up177 _ (by first | rfl | decide) _ W178
  have N178 := Fr.snoc X178 N171 g_bp
  have f179 := ((((((((((((Fs.other W103 (Or.inl ne_a1_bu)).other W105 (Or.inl ne_a1_bu)).other W107 (Or.inl ne_a1_bu)).other W109 (Or.inl ne_a1_bu)).keep K117 (ninS ne_a1_bu nin0)).other W127 (Or.inl ne_a1_bp)).keep K136 (ninS ne_a1_bu nin0)).other W145 (Or.inl ne_a1_bp)).keep K154 (ninS ne_a1_bu nin0)).other W162 (Or.inl ne_a1_bp)).keep K171 (ninS ne_a1_bu nin0)).other W178 (Or.inl ne_a1_bp))
  obtain ⟨T180, X180, e180, st180⟩ := getF X178 hx hZ hown (host := "") (Or.inl (hw _ (List.mem_of_getElem? (i := 17) rfl))) Via.refl e178 f179 (g := (mkF m 229 #[.val (.ref a1), .val (.int (4 : Int32)), .val (.ref bv), .val (.int (24 : Int32)), .val (.ref bc), .val (.ref bu), .val (.int kk), .val (.int (0 : Int32)), .val (.int it167)] [(.ref a1)])) rfl rfl (hb hby dc5_229)
  have O181 : Old Z n0 h178 := ((((((((((((O0.wr W103 g_bu).wr W105 g_bu).wr W107 g_bu).wr W109 g_bu).keep K117 (allS g_bu all0)).wr W127 g_bp).keep K136 (allS g_bu all0)).wr W145 g_bp).keep K154 (allS g_bu all0)).wr W162 g_bp).keep K171 (allS g_bu all0)).wr W178 g_bp)
  have f182 := ((f163.keep K171 (ninS ne_bc_bu nin0)).other W178 (Ne.symm ne_bp_bc))
  have f183 := ((((((((((((Vv.other W103 ne_bv_bu).other W105 ne_bv_bu).other W107 ne_bv_bu).other W109 ne_bv_bu).keep K117 (ninS ne_bv_bu nin0)).other W127 ne_bv_bp).keep K136 (ninS ne_bv_bu nin0)).other W145 ne_bv_bp).keep K154 (ninS ne_bv_bu nin0)).other W162 ne_bv_bp).keep K171 (ninS ne_bv_bu nin0)).other W178 ne_bv_bp)
  obtain ⟨_, _, ⟨T184, L184, k184, n184⟩, -, X184, ⟨Lc184, hQ184, l184, y184, z184⟩, st184⟩ := Jvm.LawKit.callS X180 hx (y := (⟨"com/example/frontward/frontward/offline/Orderings", "swapped", "(I[I[II)I"⟩ : MethodName)) hown (mvT hZ (hw _ (List.mem_of_getElem? (i := 23) rfl))) (mvT hZ (hw _ (List.mem_of_getElem? (i := 24) rfl))) (mvT hZ (hw _ (List.mem_of_getElem? (i := 2) rfl))) (mvT hZ (hw _ (List.mem_of_getElem? (i := 25) rfl))) (by decide) (backOf (W := 2) (rmSw4_0 l Z a0 hw [] kk bc bv kc kv c0 c1 c2 c3 h178 n0 O181 f182 f183) hZ (hw _ (List.mem_of_getElem? (i := 25) rfl)) (hw _ (List.mem_of_getElem? (i := 2) rfl)) (by decide) (by decide)) (g := (mkF m 248 #[.val (.ref a1), .val (.int (4 : Int32)), .val (.ref bv), .val (.int (24 : Int32)), .val (.ref bc), .val (.ref bu), .val (.int kk), .val (.int (0 : Int32)), .val (.int it167)] [(.int (0 : Int32)), (.ref bv), (.ref bc), (.int kk), (.int ((kk * (3 : Int32)) + (0 : Int32))), (.ref bs)])) rfl (by rw [hml]; rfl) (argsL := [(.int kk), (.ref bc), (.ref bv), (.int (0 : Int32))]) (rest := [(.int ((kk * (3 : Int32)) + (0 : Int32))), (.ref bs)]) (lenOf pd_1 rfl) rfl (by show 2 * 0 + _ ≤ _; exact Nat.le_of_eq rfl) (hb hby dc5_248) (fun _ _ => ⟨rfl, e180, (by decide : 5 + 0 ≤ _), (by decide : 180 + 0 ≤ _)⟩)
  dsimp only [Pt.U, Pt.locs, Pt.cells, Pt.slots] at X184 l184 y184 z184 st184 hQ184
  subst l184 y184 z184
  obtain ⟨rfl, N184q, hh184⟩ := hQ184
  have N184 := Fr.app N178 N184q
  have f185 := ((((((((((((Ls.other W103 ne_bs_bu).other W105 ne_bs_bu).other W107 ne_bs_bu).other W109 ne_bs_bu).keep K117 (ninS ne_bs_bu nin0)).other W127 (Ne.symm ne_bp_bs)).keep K136 (ninS ne_bs_bu nin0)).other W145 (Ne.symm ne_bp_bs)).keep K154 (ninS ne_bs_bu nin0)).other W162 (Ne.symm ne_bp_bs)).keep K171 (ninS ne_bs_bu nin0)).other W178 (Ne.symm ne_bp_bs))
  obtain ⟨cl186, Ar186, hin186, up186⟩ := La.up (j := ((kk * (3 : Int32)) + (0 : Int32))) f185 (own_iy (n := 3) (cn := 24) hkb (by decide) (by decide) (by decide) (by decide) (by decide) (by decide))
  obtain ⟨T187, h187, X187, e187, W187, st187⟩ := stI X184 hx hZ hh184 Ar186 (j := ((kk * (3 : Int32)) + (0 : Int32))) hin186 (g := (mkF m 251 #[.val (.ref a1), .val (.int (4 : Int32)), .val (.ref bv), .val (.int (24 : Int32)), .val (.ref bc), .val (.ref bu), .val (.int kk), .val (.int (0 : Int32)), .val (.int it167)] [(.int (own_sw kk c0 c1 (6 : Int32) (2 : Int32))), (.int ((kk * (3 : Int32)) + (0 : Int32))), (.ref bs)])) rfl rfl (hb hby dc5_251)
  have A187 : La Z h187 bs .int (72 : Int32) (S.set (((kk * (3 : Int32)) + (0 : Int32))).toNatClampNeg (own_sw kk c0 c1 (6 : Int32) (2 : Int32))) := up186 _ (by first | rfl | decide) _ W187
  have N187 := Fr.snoc X187 N184 g_bs
  have f188 := (f179.other W187 (Or.inl ne_a1_bs))
  obtain ⟨T189, X189, e189, st189⟩ := getF X187 hx hZ hown (host := "") (Or.inl (hw _ (List.mem_of_getElem? (i := 17) rfl))) Via.refl e187 f188 (g := (mkF m 229 #[.val (.ref a1), .val (.int (4 : Int32)), .val (.ref bv), .val (.int (24 : Int32)), .val (.ref bc), .val (.ref bu), .val (.int kk), .val (.int (1 : Int32)), .val (.int it167)] [(.ref a1)])) rfl rfl (hb hby dc5_229)
  have O190 : Old Z n0 h187 := (O181.wr W187 g_bs)
  have f191 := (f182.other W187 (Ne.symm ne_bs_bc))
  have f192 := (f183.other W187 ne_bv_bs)
  obtain ⟨_, _, ⟨T193, L193, k193, n193⟩, -, X193, ⟨Lc193, hQ193, l193, y193, z193⟩, st193⟩ := Jvm.LawKit.callS X189 hx (y := (⟨"com/example/frontward/frontward/offline/Orderings", "swapped", "(I[I[II)I"⟩ : MethodName)) hown (mvT hZ (hw _ (List.mem_of_getElem? (i := 23) rfl))) (mvT hZ (hw _ (List.mem_of_getElem? (i := 24) rfl))) (mvT hZ (hw _ (List.mem_of_getElem? (i := 2) rfl))) (mvT hZ (hw _ (List.mem_of_getElem? (i := 25) rfl))) (by decide) (backOf (W := 2) (rmSw4_1 l Z a0 hw [] kk bc bv kc kv c0 c1 c2 c3 h187 n0 O190 f191 f192) hZ (hw _ (List.mem_of_getElem? (i := 25) rfl)) (hw _ (List.mem_of_getElem? (i := 2) rfl)) (by decide) (by decide)) (g := (mkF m 248 #[.val (.ref a1), .val (.int (4 : Int32)), .val (.ref bv), .val (.int (24 : Int32)), .val (.ref bc), .val (.ref bu), .val (.int kk), .val (.int (1 : Int32)), .val (.int it167)] [(.int (1 : Int32)), (.ref bv), (.ref bc), (.int kk), (.int ((kk * (3 : Int32)) + (1 : Int32))), (.ref bs)])) rfl (by rw [hml]; rfl) (argsL := [(.int kk), (.ref bc), (.ref bv), (.int (1 : Int32))]) (rest := [(.int ((kk * (3 : Int32)) + (1 : Int32))), (.ref bs)]) (lenOf pd_1 rfl) rfl (by show 2 * 0 + _ ≤ _; exact Nat.le_of_eq rfl) (hb hby dc5_248) (fun _ _ => ⟨rfl, e189, (by decide : 5 + 0 ≤ _), (by decide : 180 + 0 ≤ _)⟩)
  dsimp only [Pt.U, Pt.locs, Pt.cells, Pt.slots] at X193 l193 y193 z193 st193 hQ193
  subst l193 y193 z193
  obtain ⟨rfl, N193q, hh193⟩ := hQ193
  have N193 := Fr.app N187 N193q
  obtain ⟨cl194, Ar194, hin194, up194⟩ := La.up (j := ((kk * (3 : Int32)) + (1 : Int32))) A187 (own_iy (n := 3) (cn := 24) hkb (by decide) (by decide) (by decide) (by decide) (by decide) (by decide))
  obtain ⟨T195, h195, X195, e195, W195, st195⟩ := stI X193 hx hZ hh193 Ar194 (j := ((kk * (3 : Int32)) + (1 : Int32))) hin194 (g := (mkF m 251 #[.val (.ref a1), .val (.int (4 : Int32)), .val (.ref bv), .val (.int (24 : Int32)), .val (.ref bc), .val (.ref bu), .val (.int kk), .val (.int (1 : Int32)), .val (.int it167)] [(.int (own_sw kk c1 c2 (2 : Int32) (1 : Int32))), (.int ((kk * (3 : Int32)) + (1 : Int32))), (.ref bs)])) rfl rfl (hb hby dc5_251)
  have A195 : La Z h195 bs .int (72 : Int32) ((S.set (((kk * (3 : Int32)) + (0 : Int32))).toNatClampNeg (own_sw kk c0 c1 (6 : Int32) (2 : Int32))).set (((kk * (3 : Int32)) + (1 : Int32))).toNatClampNeg (own_sw kk c1 c2 (2 : Int32) (1 : Int32))) := up194 _ (by first | rfl | decide) _ W195
  have N195 := Fr.snoc X195 N193 g_bs
  have f196 := (f188.other W195 (Or.inl ne_a1_bs))
  obtain ⟨T197, X197, e197, st197⟩ := getF X195 hx hZ hown (host := "") (Or.inl (hw _ (List.mem_of_getElem? (i := 17) rfl))) Via.refl e195 f196 (g := (mkF m 229 #[.val (.ref a1), .val (.int (4 : Int32)), .val (.ref bv), .val (.int (24 : Int32)), .val (.ref bc), .val (.ref bu), .val (.int kk), .val (.int (2 : Int32)), .val (.int it167)] [(.ref a1)])) rfl rfl (hb hby dc5_229)
  have O198 : Old Z n0 h195 := (O190.wr W195 g_bs)
  have f199 := (f191.other W195 (Ne.symm ne_bs_bc))
  have f200 := (f192.other W195 ne_bv_bs)
  obtain ⟨_, _, ⟨T201, L201, k201, n201⟩, -, X201, ⟨Lc201, hQ201, l201, y201, z201⟩, st201⟩ := Jvm.LawKit.callS X197 hx (y := (⟨"com/example/frontward/frontward/offline/Orderings", "swapped", "(I[I[II)I"⟩ : MethodName)) hown (mvT hZ (hw _ (List.mem_of_getElem? (i := 23) rfl))) (mvT hZ (hw _ (List.mem_of_getElem? (i := 24) rfl))) (mvT hZ (hw _ (List.mem_of_getElem? (i := 2) rfl))) (mvT hZ (hw _ (List.mem_of_getElem? (i := 25) rfl))) (by decide) (backOf (W := 2) (rmSw4_2 l Z a0 hw [] kk bc bv kc kv c0 c1 c2 c3 h195 n0 O198 f199 f200) hZ (hw _ (List.mem_of_getElem? (i := 25) rfl)) (hw _ (List.mem_of_getElem? (i := 2) rfl)) (by decide) (by decide)) (g := (mkF m 248 #[.val (.ref a1), .val (.int (4 : Int32)), .val (.ref bv), .val (.int (24 : Int32)), .val (.ref bc), .val (.ref bu), .val (.int kk), .val (.int (2 : Int32)), .val (.int it167)] [(.int (2 : Int32)), (.ref bv), (.ref bc), (.int kk), (.int ((kk * (3 : Int32)) + (2 : Int32))), (.ref bs)])) rfl (by rw [hml]; rfl) (argsL := [(.int kk), (.ref bc), (.ref bv), (.int (2 : Int32))]) (rest := [(.int ((kk * (3 : Int32)) + (2 : Int32))), (.ref bs)]) (lenOf pd_1 rfl) rfl (by show 2 * 0 + _ ≤ _; exact Nat.le_of_eq rfl) (hb hby dc5_248) (fun _ _ => ⟨rfl, e197, (by decide : 5 + 0 ≤ _), (by decide : 180 + 0 ≤ _)⟩)
  dsimp only [Pt.U, Pt.locs, Pt.cells, Pt.slots] at X201 l201 y201 z201 st201 hQ201
  subst l201 y201 z201
  obtain ⟨rfl, N201q, hh201⟩ := hQ201
  have N201 := Fr.app N195 N201q
  obtain ⟨cl202, Ar202, hin202, up202⟩ := La.up (j := ((kk * (3 : Int32)) + (2 : Int32))) A195 (own_iy (n := 3) (cn := 24) hkb (by decide) (by decide) (by decide) (by decide) (by decide) (by decide))
  obtain ⟨T203, h203, X203, e203, W203, st203⟩ := stI X201 hx hZ hh201 Ar202 (j := ((kk * (3 : Int32)) + (2 : Int32))) hin202 (g := (mkF m 251 #[.val (.ref a1), .val (.int (4 : Int32)), .val (.ref bv), .val (.int (24 : Int32)), .val (.ref bc), .val (.ref bu), .val (.int kk), .val (.int (2 : Int32)), .val (.int it167)] [(.int (own_sw kk c2 c3 (1 : Int32) (1 : Int32))), (.int ((kk * (3 : Int32)) + (2 : Int32))), (.ref bs)])) rfl rfl (hb hby dc5_251)
  have A203 : La Z h203 bs .int (72 : Int32) (((S.set (((kk * (3 : Int32)) + (0 : Int32))).toNatClampNeg (own_sw kk c0 c1 (6 : Int32) (2 : Int32))).set (((kk * (3 : Int32)) + (1 : Int32))).toNatClampNeg (own_sw kk c1 c2 (2 : Int32) (1 : Int32))).set (((kk * (3 : Int32)) + (2 : Int32))).toNatClampNeg (own_sw kk c2 c3 (1 : Int32) (1 : Int32))) := up202 _ (by first | rfl | decide) _ W203
  have N203 := Fr.snoc X203 N201 g_bs
  have f204 := (f199.other W203 (Ne.symm ne_bs_bc))
  obtain ⟨cl205, Ar205, q205, S205, N205_, H205, G205⟩ := id f204
  have hin205 : ¬ ((2 : Int32) < 0 ∨ cl205.slots.size ≤ ((2 : Int32)).toNatClampNeg) := inb_of S205 ⟨by decide, by decide⟩
  have hat205 : cl205.slots[((2 : Int32)).toNatClampNeg]? = some (.int c2) := H205.at hin205 rfl
  have pre206 : ∀ t, Steps p.tables e below (T203.setTop (mkF m 279 #[.val (.ref a1), .val (.int (4 : Int32)), .val (.ref bv), .val (.int (24 : Int32)), .val (.ref bc), .val (.ref bu), .val (.int kk), .val (.int (2 : Int32)), .val (.int it167)] [(.int (1 : Int32)), (.int c2)])) t → Steps p.tables e below (T0.setTop (mkF m 112 #[.val (.ref a1), .val (.int (4 : Int32)), .val (.ref bv), .val (.int (24 : Int32)), .val (.ref bc), .val (.ref bu), .val (.int kk), w7, w8] [])) t := fun t kt => pre0 t (by
      show Steps p.tables e below (T0.setTop (mkF m 112 #[.val (.ref a1), .val (.int (4 : Int32)), .val (.ref bv), .val (.int (24 : Int32)), .val (.ref bc), .val (.ref bu), .val (.int kk), w7, w8] [])) _
      refine XS.iload X0.here hx rfl (hb hby dc5_112) rfl ?_
      refine XS.aloadN X0.here hx rfl (hb hby dc5_114) rfl rfl ?_
      refine st101 _ ?_
      show Steps p.tables e below (T101.setTop (mkF m 118 #[.val (.ref a1), .val (.int (4 : Int32)), .val (.ref bv), .val (.int (24 : Int32)), .val (.ref bc), .val (.ref bu), .val (.int kk), w7, w8] [(.int (24 : Int32)), (.int kk)])) _
      refine XS.icmpNo X101.here hx rfl (hb hby dc5_118) rfl (tlt hkl).2.1 ?_
      refine XS.iconst X101.here hx rfl (hb hby dc5_121) ?_
      refine XS.istore X101.here hx rfl (hb hby dc5_122) rfl (l' := #[.val (.ref a1), .val (.int (4 : Int32)), .val (.ref bv), .val (.int (24 : Int32)), .val (.ref bc), .val (.ref bu), .val (.int kk), .val (.int (0 : Int32)), w8]) (os_0 hw7) ?_
      refine XS.iload X101.here hx rfl (hb hby dc5_124) rfl ?_
      refine XS.iloadN X101.here hx rfl (hb hby dc5_126) rfl ?_
      show Steps p.tables e below (T101.setTop (mkF m 127 #[.val (.ref a1), .val (.int (4 : Int32)), .val (.ref bv), .val (.int (24 : Int32)), .val (.ref bc), .val (.ref bu), .val (.int kk), .val (.int (0 : Int32)), w8] [(.int (4 : Int32)), (.int (0 : Int32))])) _
      refine XS.icmpNo X101.here hx rfl (hb hby dc5_127) rfl (by decide) ?_
      refine XS.aload X101.here hx rfl (hb hby dc5_130) rfl rfl ?_
      refine XS.iload X101.here hx rfl (hb hby dc5_132) rfl ?_
      refine XS.iload X101.here hx rfl (hb hby dc5_134) rfl ?_
      refine st103 _ ?_
      refine XS.iinc X103.here hx rfl (hb hby dc5_137) rfl (l' := #[.val (.ref a1), .val (.int (4 : Int32)), .val (.ref bv), .val (.int (24 : Int32)), .val (.ref bc), .val (.ref bu), .val (.int kk), .val (.int (1 : Int32)), w8]) rfl ?_
      refine XS.goto X103.here hx rfl (pc0 := 140) (pc' := 124) rfl (hb hby dc5_140) (by decide) (by decide) ?_
      refine XS.iload X103.here hx rfl (hb hby dc5_124) rfl ?_
      refine XS.iloadN X103.here hx rfl (hb hby dc5_126) rfl ?_
      show Steps p.tables e below (T103.setTop (mkF m 127 #[.val (.ref a1), .val (.int (4 : Int32)), .val (.ref bv), .val (.int (24 : Int32)), .val (.ref bc), .val (.ref bu), .val (.int kk), .val (.int (1 : Int32)), w8] [(.int (4 : Int32)), (.int (1 : Int32))])) _
      refine XS.icmpNo X103.here hx rfl (hb hby dc5_127) rfl (by decide) ?_
      refine XS.aload X103.here hx rfl (hb hby dc5_130) rfl rfl ?_
      refine XS.iload X103.here hx rfl (hb hby dc5_132) rfl ?_
      refine XS.iload X103.here hx rfl (hb hby dc5_134) rfl ?_
      refine st105 _ ?_
      refine XS.iinc X105.here hx rfl (hb hby dc5_137) rfl (l' := #[.val (.ref a1), .val (.int (4 : Int32)), .val (.ref bv), .val (.int (24 : Int32)), .val (.ref bc), .val (.ref bu), .val (.int kk), .val (.int (2 : Int32)), w8]) rfl ?_
      refine XS.goto X105.here hx rfl (pc0 := 140) (pc' := 124) rfl (hb hby dc5_140) (by decide) (by decide) ?_
      show Steps p.tables e below (T105.setTop (mkF m 124 #[.val (.ref a1), .val (.int (4 : Int32)), .val (.ref bv), .val (.int (24 : Int32)), .val (.ref bc), .val (.ref bu), .val (.int kk), .val (.int (2 : Int32)), w8] [])) _
      refine XS.iload X105.here hx rfl (hb hby dc5_124) rfl ?_
      refine XS.iloadN X105.here hx rfl (hb hby dc5_126) rfl ?_
      show Steps p.tables e below (T105.setTop (mkF m 127 #[.val (.ref a1), .val (.int (4 : Int32)), .val (.ref bv), .val (.int (24 : Int32)), .val (.ref bc), .val (.ref bu), .val (.int kk), .val (.int (2 : Int32)), w8] [(.int (4 : Int32)), (.int (2 : Int32))])) _
      refine XS.icmpNo X105.here hx rfl (hb hby dc5_127) rfl (by decide) ?_
      refine XS.aload X105.here hx rfl (hb hby dc5_130) rfl rfl ?_
      refine XS.iload X105.here hx rfl (hb hby dc5_132) rfl ?_
      refine XS.iload X105.here hx rfl (hb hby dc5_134) rfl ?_
      refine st107 _ ?_
      refine XS.iinc X107.here hx rfl (hb hby dc5_137) rfl (l' := #[.val (.ref a1), .val (.int (4 : Int32)), .val (.ref bv), .val (.int (24 : Int32)), .val (.ref bc), .val (.ref bu), .val (.int kk), .val (.int (3 : Int32)), w8]) rfl ?_
      refine XS.goto X107.here hx rfl (pc0 := 140) (pc' := 124) rfl (hb hby dc5_140) (by decide) (by decide) ?_
      refine XS.iload X107.here hx rfl (hb hby dc5_124) rfl ?_
      refine XS.iloadN X107.here hx rfl (hb hby dc5_126) rfl ?_
      show Steps p.tables e below (T107.setTop (mkF m 127 #[.val (.ref a1), .val (.int (4 : Int32)), .val (.ref bv), .val (.int (24 : Int32)), .val (.ref bc), .val (.ref bu), .val (.int kk), .val (.int (3 : Int32)), w8] [(.int (4 : Int32)), (.int (3 : Int32))])) _
      refine XS.icmpNo X107.here hx rfl (hb hby dc5_127) rfl (by decide) ?_
      refine XS.aload X107.here hx rfl (hb hby dc5_130) rfl rfl ?_
      refine XS.iload X107.here hx rfl (hb hby dc5_132) rfl ?_
      refine XS.iload X107.here hx rfl (hb hby dc5_134) rfl ?_
      refine st109 _ ?_
      refine XS.iinc X109.here hx rfl (hb hby dc5_137) rfl (l' := #[.val (.ref a1), .val (.int (4 : Int32)), .val (.ref bv), .val (.int (24 : Int32)), .val (.ref bc), .val (.ref bu), .val (.int kk), .val (.int (4 : Int32)), w8]) rfl ?_
      refine XS.goto X109.here hx rfl (pc0 := 140) (pc' := 124) rfl (hb hby dc5_140) (by decide) (by decide) ?_
      refine XS.iload X109.here hx rfl (hb hby dc5_124) rfl ?_
      refine XS.iloadN X109.here hx rfl (hb hby dc5_126) rfl ?_
      show Steps p.tables e below (T109.setTop (mkF m 127 #[.val (.ref a1), .val (.int (4 : Int32)), .val (.ref bv), .val (.int (24 : Int32)), .val (.ref bc), .val (.ref bu), .val (.int kk), .val (.int (4 : Int32)), w8] [(.int (4 : Int32)), (.int (4 : Int32))])) _
      refine XS.icmpYes X109.here hx rfl (pc0 := 127) (pc' := 143) rfl (hb hby dc5_127) rfl (by decide) (by decide) (by decide) ?_
      refine XS.iconst X109.here hx rfl (hb hby dc5_143) ?_
      refine XS.istore X109.here hx rfl (hb hby dc5_144) rfl (l' := #[.val (.ref a1), .val (.int (4 : Int32)), .val (.ref bv), .val (.int (24 : Int32)), .val (.ref bc), .val (.ref bu), .val (.int kk), .val (.int (0 : Int32)), w8]) rfl ?_
      refine XS.iload X109.here hx rfl (hb hby dc5_146) rfl ?_
      refine XS.iloadN X109.here hx rfl (hb hby dc5_148) rfl ?_
      show Steps p.tables e below (T109.setTop (mkF m 149 #[.val (.ref a1), .val (.int (4 : Int32)), .val (.ref bv), .val (.int (24 : Int32)), .val (.ref bc), .val (.ref bu), .val (.int kk), .val (.int (0 : Int32)), w8] [(.int (4 : Int32)), (.int (0 : Int32))])) _
      refine XS.icmpNo X109.here hx rfl (hb hby dc5_149) rfl (by decide) ?_
      refine XS.aload X109.here hx rfl (hb hby dc5_152) rfl rfl ?_
      refine XS.aload X109.here hx rfl (hb hby dc5_154) rfl rfl ?_
      refine XS.iload X109.here hx rfl (hb hby dc5_156) rfl ?_
      refine X109.iaload hx (j := (0 : Int32)) (v := (.int c0)) (by rw [e109]; exact Ar111.1) (State.isArrayOf_alike hZ.alike Ar111.2.1) Ar111.2.2 hin111 hat111 (g := (mkF m 158 #[.val (.ref a1), .val (.int (4 : Int32)), .val (.ref bv), .val (.int (24 : Int32)), .val (.ref bc), .val (.ref bu), .val (.int kk), .val (.int (0 : Int32)), w8] [(.int (0 : Int32)), (.ref bc), (.ref bu)])) rfl rfl (hb hby dc5_158) _ ?_
      refine X109.iaload hx (j := c0) (v := (.int it113)) (by rw [e109]; exact Ar112.1) (State.isArrayOf_alike hZ.alike Ar112.2.1) Ar112.2.2 hin112 hat112 (g := (mkF m 159 #[.val (.ref a1), .val (.int (4 : Int32)), .val (.ref bv), .val (.int (24 : Int32)), .val (.ref bc), .val (.ref bu), .val (.int kk), .val (.int (0 : Int32)), w8] [(.int c0), (.ref bu)])) rfl rfl (hb hby dc5_159) _ ?_
      refine XS.istore X109.here hx rfl (hb hby dc5_160) rfl (l' := #[.val (.ref a1), .val (.int (4 : Int32)), .val (.ref bv), .val (.int (24 : Int32)), .val (.ref bc), .val (.ref bu), .val (.int kk), .val (.int (0 : Int32)), .val (.int it113)]) (os_1 hw8) ?_
      refine XS.aload X109.here hx rfl (hb hby dc5_162) rfl rfl ?_
      refine XS.aload X109.here hx rfl (hb hby dc5_164) rfl rfl ?_
      refine XS.iload X109.here hx rfl (hb hby dc5_166) rfl ?_
      refine X109.iaload hx (j := (0 : Int32)) (v := (.int c0)) (by rw [e109]; exact Ar114.1) (State.isArrayOf_alike hZ.alike Ar114.2.1) Ar114.2.2 hin114 hat114 (g := (mkF m 168 #[.val (.ref a1), .val (.int (4 : Int32)), .val (.ref bv), .val (.int (24 : Int32)), .val (.ref bc), .val (.ref bu), .val (.int kk), .val (.int (0 : Int32)), .val (.int it113)] [(.int (0 : Int32)), (.ref bc), (.ref bu)])) rfl rfl (hb hby dc5_168) _ ?_
      refine XS.iconst X109.here hx rfl (hb hby dc5_169) ?_
      refine XS.iadd X109.here hx rfl (hb hby dc5_170) rfl ?_
      refine XS.aload X109.here hx rfl (hb hby dc5_171) rfl rfl ?_
      refine XS.aload X109.here hx rfl (hb hby dc5_173) rfl rfl ?_
      refine XS.iload X109.here hx rfl (hb hby dc5_175) rfl ?_
      refine X109.iaload hx (j := (0 : Int32)) (v := (.int c0)) (by rw [e109]; exact Ar115.1) (State.isArrayOf_alike hZ.alike Ar115.2.1) Ar115.2.2 hin115 hat115 (g := (mkF m 177 #[.val (.ref a1), .val (.int (4 : Int32)), .val (.ref bv), .val (.int (24 : Int32)), .val (.ref bc), .val (.ref bu), .val (.int kk), .val (.int (0 : Int32)), .val (.int it113)] [(.int (0 : Int32)), (.ref bc), (.ref bu), (.int (c0 + (1 : Int32))), (.ref bu)])) rfl rfl (hb hby dc5_177) _ ?_
      refine XS.iloadN X109.here hx rfl (hb hby dc5_178) rfl ?_
      refine XS.iconst X109.here hx rfl (hb hby dc5_179) ?_
      refine XS.isub X109.here hx rfl (hb hby dc5_180) rfl ?_
      refine XS.iload X109.here hx rfl (hb hby dc5_181) rfl ?_
      refine XS.isub X109.here hx rfl (hb hby dc5_183) rfl ?_
      refine XS.aload X109.here hx rfl (hb hby dc5_184) rfl rfl ?_
      refine XS.iload X109.here hx rfl (hb hby dc5_186) rfl ?_
      refine X109.iaload hx (j := (0 : Int32)) (v := (.int c0)) (by rw [e109]; exact Ar116.1) (State.isArrayOf_alike hZ.alike Ar116.2.1) Ar116.2.2 hin116 hat116 (g := (mkF m 188 #[.val (.ref a1), .val (.int (4 : Int32)), .val (.ref bv), .val (.int (24 : Int32)), .val (.ref bc), .val (.ref bu), .val (.int kk), .val (.int (0 : Int32)), .val (.int it113)] [(.int (0 : Int32)), (.ref bc), (.int (3 : Int32)), (.int c0), (.ref bu), (.int (c0 + (1 : Int32))), (.ref bu)])) rfl rfl (hb hby dc5_188) _ ?_
      show Steps p.tables e below (T109.setTop (mkF m 189 #[.val (.ref a1), .val (.int (4 : Int32)), .val (.ref bv), .val (.int (24 : Int32)), .val (.ref bc), .val (.ref bu), .val (.int kk), .val (.int (0 : Int32)), .val (.int it113)] [(.int c0), (.int (3 : Int32)), (.int c0), (.ref bu), (.int (c0 + (1 : Int32))), (.ref bu)])) _
      refine XS.isub X109.here hx rfl (hb hby dc5_189) rfl ?_
      refine st117 _ ?_
      refine XS.aloadN X117.here hx rfl (hb hby dc5_193) rfl rfl ?_
      refine st122 _ ?_
      refine XS.iload X122.here hx rfl (hb hby dc5_197) rfl ?_
      refine XS.aloadN X122.here hx rfl (hb hby dc5_199) rfl rfl ?_
      refine st124 _ ?_
      refine XS.imul X124.here hx rfl (hb hby dc5_203) rfl ?_
      refine XS.iload X124.here hx rfl (hb hby dc5_204) rfl ?_
      refine XS.iadd X124.here hx rfl (hb hby dc5_206) rfl ?_
      refine XS.iload X124.here hx rfl (hb hby dc5_207) rfl ?_
      refine XS.i2b X124.here hx rfl (hb hby dc5_209) rfl ?_
      refine st127 _ ?_
      refine XS.iinc X127.here hx rfl (hb hby dc5_211) rfl (l' := #[.val (.ref a1), .val (.int (4 : Int32)), .val (.ref bv), .val (.int (24 : Int32)), .val (.ref bc), .val (.ref bu), .val (.int kk), .val (.int (1 : Int32)), .val (.int it113)]) rfl ?_
      refine XS.goto X127.here hx rfl (pc0 := 214) (pc' := 146) rfl (hb hby dc5_214) (by decide) (by decide) ?_
      refine XS.iload X127.here hx rfl (hb hby dc5_146) rfl ?_
      refine XS.iloadN X127.here hx rfl (hb hby dc5_148) rfl ?_
      show Steps p.tables e below (T127.setTop (mkF m 149 #[.val (.ref a1), .val (.int (4 : Int32)), .val (.ref bv), .val (.int (24 : Int32)), .val (.ref bc), .val (.ref bu), .val (.int kk), .val (.int (1 : Int32)), .val (.int it113)] [(.int (4 : Int32)), (.int (1 : Int32))])) _
      refine XS.icmpNo X127.here hx rfl (hb hby dc5_149) rfl (by decide) ?_
      refine XS.aload X127.here hx rfl (hb hby dc5_152) rfl rfl ?_
      refine XS.aload X127.here hx rfl (hb hby dc5_154) rfl rfl ?_
      refine XS.iload X127.here hx rfl (hb hby dc5_156) rfl ?_
      refine X127.iaload hx (j := (1 : Int32)) (v := (.int c1)) (by rw [e127]; exact Ar129.1) (State.isArrayOf_alike hZ.alike Ar129.2.1) Ar129.2.2 hin129 hat129 (g := (mkF m 158 #[.val (.ref a1), .val (.int (4 : Int32)), .val (.ref bv), .val (.int (24 : Int32)), .val (.ref bc), .val (.ref bu), .val (.int kk), .val (.int (1 : Int32)), .val (.int it113)] [(.int (1 : Int32)), (.ref bc), (.ref bu)])) rfl rfl (hb hby dc5_158) _ ?_
      refine X127.iaload hx (j := c1) (v := (.int it132)) (by rw [e127]; exact Ar131.1) (State.isArrayOf_alike hZ.alike Ar131.2.1) Ar131.2.2 hin131 hat131 (g := (mkF m 159 #[.val (.ref a1), .val (.int (4 : Int32)), .val (.ref bv), .val (.int (24 : Int32)), .val (.ref bc), .val (.ref bu), .val (.int kk), .val (.int (1 : Int32)), .val (.int it113)] [(.int c1), (.ref bu)])) rfl rfl (hb hby dc5_159) _ ?_
      refine XS.istore X127.here hx rfl (hb hby dc5_160) rfl (l' := #[.val (.ref a1), .val (.int (4 : Int32)), .val (.ref bv), .val (.int (24 : Int32)), .val (.ref bc), .val (.ref bu), .val (.int kk), .val (.int (1 : Int32)), .val (.int it132)]) rfl ?_
      refine XS.aload X127.here hx rfl (hb hby dc5_162) rfl rfl ?_
      show Steps p.tables e below (T127.setTop (mkF m 164 #[.val (.ref a1), .val (.int (4 : Int32)), .val (.ref bv), .val (.int (24 : Int32)), .val (.ref bc), .val (.ref bu), .val (.int kk), .val (.int (1 : Int32)), .val (.int it132)] [(.ref bu)])) _
      refine XS.aload X127.here hx rfl (hb hby dc5_164) rfl rfl ?_
      refine XS.iload X127.here hx rfl (hb hby dc5_166) rfl ?_
      refine X127.iaload hx (j := (1 : Int32)) (v := (.int c1)) (by rw [e127]; exact Ar133.1) (State.isArrayOf_alike hZ.alike Ar133.2.1) Ar133.2.2 hin133 hat133 (g := (mkF m 168 #[.val (.ref a1), .val (.int (4 : Int32)), .val (.ref bv), .val (.int (24 : Int32)), .val (.ref bc), .val (.ref bu), .val (.int kk), .val (.int (1 : Int32)), .val (.int it132)] [(.int (1 : Int32)), (.ref bc), (.ref bu)])) rfl rfl (hb hby dc5_168) _ ?_
      refine XS.iconst X127.here hx rfl (hb hby dc5_169) ?_
      refine XS.iadd X127.here hx rfl (hb hby dc5_170) rfl ?_
      refine XS.aload X127.here hx rfl (hb hby dc5_171) rfl rfl ?_
      refine XS.aload X127.here hx rfl (hb hby dc5_173) rfl rfl ?_
      refine XS.iload X127.here hx rfl (hb hby dc5_175) rfl ?_
      refine X127.iaload hx (j := (1 : Int32)) (v := (.int c1)) (by rw [e127]; exact Ar134.1) (State.isArrayOf_alike hZ.alike Ar134.2.1) Ar134.2.2 hin134 hat134 (g := (mkF m 177 #[.val (.ref a1), .val (.int (4 : Int32)), .val (.ref bv), .val (.int (24 : Int32)), .val (.ref bc), .val (.ref bu), .val (.int kk), .val (.int (1 : Int32)), .val (.int it132)] [(.int (1 : Int32)), (.ref bc), (.ref bu), (.int (c1 + (1 : Int32))), (.ref bu)])) rfl rfl (hb hby dc5_177) _ ?_
      refine XS.iloadN X127.here hx rfl (hb hby dc5_178) rfl ?_
      refine XS.iconst X127.here hx rfl (hb hby dc5_179) ?_
      refine XS.isub X127.here hx rfl (hb hby dc5_180) rfl ?_
      refine XS.iload X127.here hx rfl (hb hby dc5_181) rfl ?_
      refine XS.isub X127.here hx rfl (hb hby dc5_183) rfl ?_
      refine XS.aload X127.here hx rfl (hb hby dc5_184) rfl rfl ?_
      refine XS.iload X127.here hx rfl (hb hby dc5_186) rfl ?_
      refine X127.iaload hx (j := (1 : Int32)) (v := (.int c1)) (by rw [e127]; exact Ar135.1) (State.isArrayOf_alike hZ.alike Ar135.2.1) Ar135.2.2 hin135 hat135 (g := (mkF m 188 #[.val (.ref a1), .val (.int (4 : Int32)), .val (.ref bv), .val (.int (24 : Int32)), .val (.ref bc), .val (.ref bu), .val (.int kk), .val (.int (1 : Int32)), .val (.int it132)] [(.int (1 : Int32)), (.ref bc), (.int (2 : Int32)), (.int c1), (.ref bu), (.int (c1 + (1 : Int32))), (.ref bu)])) rfl rfl (hb hby dc5_188) _ ?_
      refine XS.isub X127.here hx rfl (hb hby dc5_189) rfl ?_
      refine st136 _ ?_
      refine XS.aloadN X136.here hx rfl (hb hby dc5_193) rfl rfl ?_
      refine st140 _ ?_
      refine XS.iload X140.here hx rfl (hb hby dc5_197) rfl ?_
      refine XS.aloadN X140.here hx rfl (hb hby dc5_199) rfl rfl ?_
      refine st142 _ ?_
      refine XS.imul X142.here hx rfl (hb hby dc5_203) rfl ?_
      show Steps p.tables e below (T142.setTop (mkF m 204 #[.val (.ref a1), .val (.int (4 : Int32)), .val (.ref bv), .val (.int (24 : Int32)), .val (.ref bc), .val (.ref bu), .val (.int kk), .val (.int (1 : Int32)), .val (.int it132)] [(.int (it132 * (24 : Int32))), (.ref bp)])) _
      refine XS.iload X142.here hx rfl (hb hby dc5_204) rfl ?_
      refine XS.iadd X142.here hx rfl (hb hby dc5_206) rfl ?_
      refine XS.iload X142.here hx rfl (hb hby dc5_207) rfl ?_
      refine XS.i2b X142.here hx rfl (hb hby dc5_209) rfl ?_
      refine st145 _ ?_
      refine XS.iinc X145.here hx rfl (hb hby dc5_211) rfl (l' := #[.val (.ref a1), .val (.int (4 : Int32)), .val (.ref bv), .val (.int (24 : Int32)), .val (.ref bc), .val (.ref bu), .val (.int kk), .val (.int (2 : Int32)), .val (.int it132)]) rfl ?_
      refine XS.goto X145.here hx rfl (pc0 := 214) (pc' := 146) rfl (hb hby dc5_214) (by decide) (by decide) ?_
      refine XS.iload X145.here hx rfl (hb hby dc5_146) rfl ?_
      refine XS.iloadN X145.here hx rfl (hb hby dc5_148) rfl ?_
      show Steps p.tables e below (T145.setTop (mkF m 149 #[.val (.ref a1), .val (.int (4 : Int32)), .val (.ref bv), .val (.int (24 : Int32)), .val (.ref bc), .val (.ref bu), .val (.int kk), .val (.int (2 : Int32)), .val (.int it132)] [(.int (4 : Int32)), (.int (2 : Int32))])) _
      refine XS.icmpNo X145.here hx rfl (hb hby dc5_149) rfl (by decide) ?_
      refine XS.aload X145.here hx rfl (hb hby dc5_152) rfl rfl ?_
      refine XS.aload X145.here hx rfl (hb hby dc5_154) rfl rfl ?_
      refine XS.iload X145.here hx rfl (hb hby dc5_156) rfl ?_
      refine X145.iaload hx (j := (2 : Int32)) (v := (.int c2)) (by rw [e145]; exact Ar147.1) (State.isArrayOf_alike hZ.alike Ar147.2.1) Ar147.2.2 hin147 hat147 (g := (mkF m 158 #[.val (.ref a1), .val (.int (4 : Int32)), .val (.ref bv), .val (.int (24 : Int32)), .val (.ref bc), .val (.ref bu), .val (.int kk), .val (.int (2 : Int32)), .val (.int it132)] [(.int (2 : Int32)), (.ref bc), (.ref bu)])) rfl rfl (hb hby dc5_158) _ ?_
      refine X145.iaload hx (j := c2) (v := (.int it150)) (by rw [e145]; exact Ar149.1) (State.isArrayOf_alike hZ.alike Ar149.2.1) Ar149.2.2 hin149 hat149 (g := (mkF m 159 #[.val (.ref a1), .val (.int (4 : Int32)), .val (.ref bv), .val (.int (24 : Int32)), .val (.ref bc), .val (.ref bu), .val (.int kk), .val (.int (2 : Int32)), .val (.int it132)] [(.int c2), (.ref bu)])) rfl rfl (hb hby dc5_159) _ ?_
      refine XS.istore X145.here hx rfl (hb hby dc5_160) rfl (l' := #[.val (.ref a1), .val (.int (4 : Int32)), .val (.ref bv), .val (.int (24 : Int32)), .val (.ref bc), .val (.ref bu), .val (.int kk), .val (.int (2 : Int32)), .val (.int it150)]) rfl ?_
      refine XS.aload X145.here hx rfl (hb hby dc5_162) rfl rfl ?_
      refine XS.aload X145.here hx rfl (hb hby dc5_164) rfl rfl ?_
      refine XS.iload X145.here hx rfl (hb hby dc5_166) rfl ?_
      refine X145.iaload hx (j := (2 : Int32)) (v := (.int c2)) (by rw [e145]; exact Ar151.1) (State.isArrayOf_alike hZ.alike Ar151.2.1) Ar151.2.2 hin151 hat151 (g := (mkF m 168 #[.val (.ref a1), .val (.int (4 : Int32)), .val (.ref bv), .val (.int (24 : Int32)), .val (.ref bc), .val (.ref bu), .val (.int kk), .val (.int (2 : Int32)), .val (.int it150)] [(.int (2 : Int32)), (.ref bc), (.ref bu)])) rfl rfl (hb hby dc5_168) _ ?_
      refine XS.iconst X145.here hx rfl (hb hby dc5_169) ?_
      refine XS.iadd X145.here hx rfl (hb hby dc5_170) rfl ?_
      refine XS.aload X145.here hx rfl (hb hby dc5_171) rfl rfl ?_
      refine XS.aload X145.here hx rfl (hb hby dc5_173) rfl rfl ?_
      refine XS.iload X145.here hx rfl (hb hby dc5_175) rfl ?_
      show Steps p.tables e below (T145.setTop (mkF m 177 #[.val (.ref a1), .val (.int (4 : Int32)), .val (.ref bv), .val (.int (24 : Int32)), .val (.ref bc), .val (.ref bu), .val (.int kk), .val (.int (2 : Int32)), .val (.int it150)] [(.int (2 : Int32)), (.ref bc), (.ref bu), (.int (c2 + (1 : Int32))), (.ref bu)])) _
      refine X145.iaload hx (j := (2 : Int32)) (v := (.int c2)) (by rw [e145]; exact Ar152.1) (State.isArrayOf_alike hZ.alike Ar152.2.1) Ar152.2.2 hin152 hat152 (g := (mkF m 177 #[.val (.ref a1), .val (.int (4 : Int32)), .val (.ref bv), .val (.int (24 : Int32)), .val (.ref bc), .val (.ref bu), .val (.int kk), .val (.int (2 : Int32)), .val (.int it150)] [(.int (2 : Int32)), (.ref bc), (.ref bu), (.int (c2 + (1 : Int32))), (.ref bu)])) rfl rfl (hb hby dc5_177) _ ?_
      refine XS.iloadN X145.here hx rfl (hb hby dc5_178) rfl ?_
      refine XS.iconst X145.here hx rfl (hb hby dc5_179) ?_
      refine XS.isub X145.here hx rfl (hb hby dc5_180) rfl ?_
      refine XS.iload X145.here hx rfl (hb hby dc5_181) rfl ?_
      refine XS.isub X145.here hx rfl (hb hby dc5_183) rfl ?_
      refine XS.aload X145.here hx rfl (hb hby dc5_184) rfl rfl ?_
      refine XS.iload X145.here hx rfl (hb hby dc5_186) rfl ?_
      refine X145.iaload hx (j := (2 : Int32)) (v := (.int c2)) (by rw [e145]; exact Ar153.1) (State.isArrayOf_alike hZ.alike Ar153.2.1) Ar153.2.2 hin153 hat153 (g := (mkF m 188 #[.val (.ref a1), .val (.int (4 : Int32)), .val (.ref bv), .val (.int (24 : Int32)), .val (.ref bc), .val (.ref bu), .val (.int kk), .val (.int (2 : Int32)), .val (.int it150)] [(.int (2 : Int32)), (.ref bc), (.int (1 : Int32)), (.int c2), (.ref bu), (.int (c2 + (1 : Int32))), (.ref bu)])) rfl rfl (hb hby dc5_188) _ ?_
      refine XS.isub X145.here hx rfl (hb hby dc5_189) rfl ?_
      refine st154 _ ?_
      refine XS.aloadN X154.here hx rfl (hb hby dc5_193) rfl rfl ?_
      refine st157 _ ?_
      refine XS.iload X157.here hx rfl (hb hby dc5_197) rfl ?_
      refine XS.aloadN X157.here hx rfl (hb hby dc5_199) rfl rfl ?_
      refine st159 _ ?_
      refine XS.imul X159.here hx rfl (hb hby dc5_203) rfl ?_
      refine XS.iload X159.here hx rfl (hb hby dc5_204) rfl ?_
      refine XS.iadd X159.here hx rfl (hb hby dc5_206) rfl ?_
      refine XS.iload X159.here hx rfl (hb hby dc5_207) rfl ?_
      refine XS.i2b X159.here hx rfl (hb hby dc5_209) rfl ?_
      refine st162 _ ?_
      refine XS.iinc X162.here hx rfl (hb hby dc5_211) rfl (l' := #[.val (.ref a1), .val (.int (4 : Int32)), .val (.ref bv), .val (.int (24 : Int32)), .val (.ref bc), .val (.ref bu), .val (.int kk), .val (.int (3 : Int32)), .val (.int it150)]) rfl ?_
      refine XS.goto X162.here hx rfl (pc0 := 214) (pc' := 146) rfl (hb hby dc5_214) (by decide) (by decide) ?_
      refine XS.iload X162.here hx rfl (hb hby dc5_146) rfl ?_
      show Steps p.tables e below (T162.setTop (mkF m 148 #[.val (.ref a1), .val (.int (4 : Int32)), .val (.ref bv), .val (.int (24 : Int32)), .val (.ref bc), .val (.ref bu), .val (.int kk), .val (.int (3 : Int32)), .val (.int it150)] [(.int (3 : Int32))])) _
      refine XS.iloadN X162.here hx rfl (hb hby dc5_148) rfl ?_
      show Steps p.tables e below (T162.setTop (mkF m 149 #[.val (.ref a1), .val (.int (4 : Int32)), .val (.ref bv), .val (.int (24 : Int32)), .val (.ref bc), .val (.ref bu), .val (.int kk), .val (.int (3 : Int32)), .val (.int it150)] [(.int (4 : Int32)), (.int (3 : Int32))])) _
      refine XS.icmpNo X162.here hx rfl (hb hby dc5_149) rfl (by decide) ?_
      refine XS.aload X162.here hx rfl (hb hby dc5_152) rfl rfl ?_
      refine XS.aload X162.here hx rfl (hb hby dc5_154) rfl rfl ?_
      refine XS.iload X162.here hx rfl (hb hby dc5_156) rfl ?_
      refine X162.iaload hx (j := (3 : Int32)) (v := (.int c3)) (by rw [e162]; exact Ar164.1) (State.isArrayOf_alike hZ.alike Ar164.2.1) Ar164.2.2 hin164 hat164 (g := (mkF m 158 #[.val (.ref a1), .val (.int (4 : Int32)), .val (.ref bv), .val (.int (24 : Int32)), .val (.ref bc), .val (.ref bu), .val (.int kk), .val (.int (3 : Int32)), .val (.int it150)] [(.int (3 : Int32)), (.ref bc), (.ref bu)])) rfl rfl (hb hby dc5_158) _ ?_
      refine X162.iaload hx (j := c3) (v := (.int it167)) (by rw [e162]; exact Ar166.1) (State.isArrayOf_alike hZ.alike Ar166.2.1) Ar166.2.2 hin166 hat166 (g := (mkF m 159 #[.val (.ref a1), .val (.int (4 : Int32)), .val (.ref bv), .val (.int (24 : Int32)), .val (.ref bc), .val (.ref bu), .val (.int kk), .val (.int (3 : Int32)), .val (.int it150)] [(.int c3), (.ref bu)])) rfl rfl (hb hby dc5_159) _ ?_
      refine XS.istore X162.here hx rfl (hb hby dc5_160) rfl (l' := #[.val (.ref a1), .val (.int (4 : Int32)), .val (.ref bv), .val (.int (24 : Int32)), .val (.ref bc), .val (.ref bu), .val (.int kk), .val (.int (3 : Int32)), .val (.int it167)]) rfl ?_
      refine XS.aload X162.here hx rfl (hb hby dc5_162) rfl rfl ?_
      refine XS.aload X162.here hx rfl (hb hby dc5_164) rfl rfl ?_
      refine XS.iload X162.here hx rfl (hb hby dc5_166) rfl ?_
      refine X162.iaload hx (j := (3 : Int32)) (v := (.int c3)) (by rw [e162]; exact Ar168.1) (State.isArrayOf_alike hZ.alike Ar168.2.1) Ar168.2.2 hin168 hat168 (g := (mkF m 168 #[.val (.ref a1), .val (.int (4 : Int32)), .val (.ref bv), .val (.int (24 : Int32)), .val (.ref bc), .val (.ref bu), .val (.int kk), .val (.int (3 : Int32)), .val (.int it167)] [(.int (3 : Int32)), (.ref bc), (.ref bu)])) rfl rfl (hb hby dc5_168) _ ?_
      refine XS.iconst X162.here hx rfl (hb hby dc5_169) ?_
      refine XS.iadd X162.here hx rfl (hb hby dc5_170) rfl ?_
      refine XS.aload X162.here hx rfl (hb hby dc5_171) rfl rfl ?_
      refine XS.aload X162.here hx rfl (hb hby dc5_173) rfl rfl ?_
      refine XS.iload X162.here hx rfl (hb hby dc5_175) rfl ?_
      refine X162.iaload hx (j := (3 : Int32)) (v := (.int c3)) (by rw [e162]; exact Ar169.1) (State.isArrayOf_alike hZ.alike Ar169.2.1) Ar169.2.2 hin169 hat169 (g := (mkF m 177 #[.val (.ref a1), .val (.int (4 : Int32)), .val (.ref bv), .val (.int (24 : Int32)), .val (.ref bc), .val (.ref bu), .val (.int kk), .val (.int (3 : Int32)), .val (.int it167)] [(.int (3 : Int32)), (.ref bc), (.ref bu), (.int (c3 + (1 : Int32))), (.ref bu)])) rfl rfl (hb hby dc5_177) _ ?_
      refine XS.iloadN X162.here hx rfl (hb hby dc5_178) rfl ?_
      refine XS.iconst X162.here hx rfl (hb hby dc5_179) ?_
      refine XS.isub X162.here hx rfl (hb hby dc5_180) rfl ?_
      refine XS.iload X162.here hx rfl (hb hby dc5_181) rfl ?_
      refine XS.isub X162.here hx rfl (hb hby dc5_183) rfl ?_
      refine XS.aload X162.here hx rfl (hb hby dc5_184) rfl rfl ?_
      refine XS.iload X162.here hx rfl (hb hby dc5_186) rfl ?_
      show Steps p.tables e below (T162.setTop (mkF m 188 #[.val (.ref a1), .val (.int (4 : Int32)), .val (.ref bv), .val (.int (24 : Int32)), .val (.ref bc), .val (.ref bu), .val (.int kk), .val (.int (3 : Int32)), .val (.int it167)] [(.int (3 : Int32)), (.ref bc), (.int (0 : Int32)), (.int c3), (.ref bu), (.int (c3 + (1 : Int32))), (.ref bu)])) _
      refine X162.iaload hx (j := (3 : Int32)) (v := (.int c3)) (by rw [e162]; exact Ar170.1) (State.isArrayOf_alike hZ.alike Ar170.2.1) Ar170.2.2 hin170 hat170 (g := (mkF m 188 #[.val (.ref a1), .val (.int (4 : Int32)), .val (.ref bv), .val (.int (24 : Int32)), .val (.ref bc), .val (.ref bu), .val (.int kk), .val (.int (3 : Int32)), .val (.int it167)] [(.int (3 : Int32)), (.ref bc), (.int (0 : Int32)), (.int c3), (.ref bu), (.int (c3 + (1 : Int32))), (.ref bu)])) rfl rfl (hb hby dc5_188) _ ?_
      refine XS.isub X162.here hx rfl (hb hby dc5_189) rfl ?_
      refine st171 _ ?_
      refine XS.aloadN X171.here hx rfl (hb hby dc5_193) rfl rfl ?_
      refine st173 _ ?_
      refine XS.iload X173.here hx rfl (hb hby dc5_197) rfl ?_
      refine XS.aloadN X173.here hx rfl (hb hby dc5_199) rfl rfl ?_
      refine st175 _ ?_
      refine XS.imul X175.here hx rfl (hb hby dc5_203) rfl ?_
      refine XS.iload X175.here hx rfl (hb hby dc5_204) rfl ?_
      refine XS.iadd X175.here hx rfl (hb hby dc5_206) rfl ?_
      refine XS.iload X175.here hx rfl (hb hby dc5_207) rfl ?_
      refine XS.i2b X175.here hx rfl (hb hby dc5_209) rfl ?_
      refine st178 _ ?_
      refine XS.iinc X178.here hx rfl (hb hby dc5_211) rfl (l' := #[.val (.ref a1), .val (.int (4 : Int32)), .val (.ref bv), .val (.int (24 : Int32)), .val (.ref bc), .val (.ref bu), .val (.int kk), .val (.int (4 : Int32)), .val (.int it167)]) rfl ?_
      refine XS.goto X178.here hx rfl (pc0 := 214) (pc' := 146) rfl (hb hby dc5_214) (by decide) (by decide) ?_
      refine XS.iload X178.here hx rfl (hb hby dc5_146) rfl ?_
      refine XS.iloadN X178.here hx rfl (hb hby dc5_148) rfl ?_
      show Steps p.tables e below (T178.setTop (mkF m 149 #[.val (.ref a1), .val (.int (4 : Int32)), .val (.ref bv), .val (.int (24 : Int32)), .val (.ref bc), .val (.ref bu), .val (.int kk), .val (.int (4 : Int32)), .val (.int it167)] [(.int (4 : Int32)), (.int (4 : Int32))])) _
      refine XS.icmpYes X178.here hx rfl (pc0 := 149) (pc' := 217) rfl (hb hby dc5_149) rfl (by decide) (by decide) (by decide) ?_
      refine XS.iconst X178.here hx rfl (hb hby dc5_217) ?_
      refine XS.istore X178.here hx rfl (hb hby dc5_218) rfl (l' := #[.val (.ref a1), .val (.int (4 : Int32)), .val (.ref bv), .val (.int (24 : Int32)), .val (.ref bc), .val (.ref bu), .val (.int kk), .val (.int (0 : Int32)), .val (.int it167)]) rfl ?_
      refine XS.iload X178.here hx rfl (hb hby dc5_220) rfl ?_
      refine XS.iloadN X178.here hx rfl (hb hby dc5_222) rfl ?_
      refine XS.iconst X178.here hx rfl (hb hby dc5_223) ?_
      refine XS.isub X178.here hx rfl (hb hby dc5_224) rfl ?_
      show Steps p.tables e below (T178.setTop (mkF m 225 #[.val (.ref a1), .val (.int (4 : Int32)), .val (.ref bv), .val (.int (24 : Int32)), .val (.ref bc), .val (.ref bu), .val (.int kk), .val (.int (0 : Int32)), .val (.int it167)] [(.int (3 : Int32)), (.int (0 : Int32))])) _
      refine XS.icmpNo X178.here hx rfl (hb hby dc5_225) rfl (by decide) ?_
      refine XS.aloadN X178.here hx rfl (hb hby dc5_228) rfl rfl ?_
      refine st180 _ ?_
      refine XS.iload X180.here hx rfl (hb hby dc5_232) rfl ?_
      refine XS.iloadN X180.here hx rfl (hb hby dc5_234) rfl ?_
      refine XS.iconst X180.here hx rfl (hb hby dc5_235) ?_
      refine XS.isub X180.here hx rfl (hb hby dc5_236) rfl ?_
      refine XS.imul X180.here hx rfl (hb hby dc5_237) rfl ?_
      refine XS.iload X180.here hx rfl (hb hby dc5_238) rfl ?_
      refine XS.iadd X180.here hx rfl (hb hby dc5_240) rfl ?_
      refine XS.iload X180.here hx rfl (hb hby dc5_241) rfl ?_
      refine XS.aload X180.here hx rfl (hb hby dc5_243) rfl rfl ?_
      refine XS.aloadN X180.here hx rfl (hb hby dc5_245) rfl rfl ?_
      refine XS.iload X180.here hx rfl (hb hby dc5_246) rfl ?_
      refine st184 _ ?_
      refine st187 _ ?_
      refine XS.iinc X187.here hx rfl (hb hby dc5_252) rfl (l' := #[.val (.ref a1), .val (.int (4 : Int32)), .val (.ref bv), .val (.int (24 : Int32)), .val (.ref bc), .val (.ref bu), .val (.int kk), .val (.int (1 : Int32)), .val (.int it167)]) rfl ?_
      refine XS.goto X187.here hx rfl (pc0 := 255) (pc' := 220) rfl (hb hby dc5_255) (by decide) (by decide) ?_
      refine XS.iload X187.here hx rfl (hb hby dc5_220) rfl ?_
      refine XS.iloadN X187.here hx rfl (hb hby dc5_222) rfl ?_
      refine XS.iconst X187.here hx rfl (hb hby dc5_223) ?_
      refine XS.isub X187.here hx rfl (hb hby dc5_224) rfl ?_
      show Steps p.tables e below (T187.setTop (mkF m 225 #[.val (.ref a1), .val (.int (4 : Int32)), .val (.ref bv), .val (.int (24 : Int32)), .val (.ref bc), .val (.ref bu), .val (.int kk), .val (.int (1 : Int32)), .val (.int it167)] [(.int (3 : Int32)), (.int (1 : Int32))])) _
      refine XS.icmpNo X187.here hx rfl (hb hby dc5_225) rfl (by decide) ?_
      refine XS.aloadN X187.here hx rfl (hb hby dc5_228) rfl rfl ?_
      refine st189 _ ?_
      show Steps p.tables e below (T189.setTop (mkF m 232 #[.val (.ref a1), .val (.int (4 : Int32)), .val (.ref bv), .val (.int (24 : Int32)), .val (.ref bc), .val (.ref bu), .val (.int kk), .val (.int (1 : Int32)), .val (.int it167)] [(.ref bs)])) _
      refine XS.iload X189.here hx rfl (hb hby dc5_232) rfl ?_
      refine XS.iloadN X189.here hx rfl (hb hby dc5_234) rfl ?_
      refine XS.iconst X189.here hx rfl (hb hby dc5_235) ?_
      refine XS.isub X189.here hx rfl (hb hby dc5_236) rfl ?_
      refine XS.imul X189.here hx rfl (hb hby dc5_237) rfl ?_
      refine XS.iload X189.here hx rfl (hb hby dc5_238) rfl ?_
      refine XS.iadd X189.here hx rfl (hb hby dc5_240) rfl ?_
      refine XS.iload X189.here hx rfl (hb hby dc5_241) rfl ?_
      refine XS.aload X189.here hx rfl (hb hby dc5_243) rfl rfl ?_
      refine XS.aloadN X189.here hx rfl (hb hby dc5_245) rfl rfl ?_
      refine XS.iload X189.here hx rfl (hb hby dc5_246) rfl ?_
      refine st193 _ ?_
      refine st195 _ ?_
      refine XS.iinc X195.here hx rfl (hb hby dc5_252) rfl (l' := #[.val (.ref a1), .val (.int (4 : Int32)), .val (.ref bv), .val (.int (24 : Int32)), .val (.ref bc), .val (.ref bu), .val (.int kk), .val (.int (2 : Int32)), .val (.int it167)]) rfl ?_
      refine XS.goto X195.here hx rfl (pc0 := 255) (pc' := 220) rfl (hb hby dc5_255) (by decide) (by decide) ?_
      refine XS.iload X195.here hx rfl (hb hby dc5_220) rfl ?_
      refine XS.iloadN X195.here hx rfl (hb hby dc5_222) rfl ?_
      refine XS.iconst X195.here hx rfl (hb hby dc5_223) ?_
      refine XS.isub X195.here hx rfl (hb hby dc5_224) rfl ?_
      show Steps p.tables e below (T195.setTop (mkF m 225 #[.val (.ref a1), .val (.int (4 : Int32)), .val (.ref bv), .val (.int (24 : Int32)), .val (.ref bc), .val (.ref bu), .val (.int kk), .val (.int (2 : Int32)), .val (.int it167)] [(.int (3 : Int32)), (.int (2 : Int32))])) _
      refine XS.icmpNo X195.here hx rfl (hb hby dc5_225) rfl (by decide) ?_
      refine XS.aloadN X195.here hx rfl (hb hby dc5_228) rfl rfl ?_
      refine st197 _ ?_
      refine XS.iload X197.here hx rfl (hb hby dc5_232) rfl ?_
      refine XS.iloadN X197.here hx rfl (hb hby dc5_234) rfl ?_
      refine XS.iconst X197.here hx rfl (hb hby dc5_235) ?_
      show Steps p.tables e below (T197.setTop (mkF m 236 #[.val (.ref a1), .val (.int (4 : Int32)), .val (.ref bv), .val (.int (24 : Int32)), .val (.ref bc), .val (.ref bu), .val (.int kk), .val (.int (2 : Int32)), .val (.int it167)] [(.int (1 : Int32)), (.int (4 : Int32)), (.int kk), (.ref bs)])) _
      refine XS.isub X197.here hx rfl (hb hby dc5_236) rfl ?_
      refine XS.imul X197.here hx rfl (hb hby dc5_237) rfl ?_
      refine XS.iload X197.here hx rfl (hb hby dc5_238) rfl ?_
      refine XS.iadd X197.here hx rfl (hb hby dc5_240) rfl ?_
      refine XS.iload X197.here hx rfl (hb hby dc5_241) rfl ?_
      refine XS.aload X197.here hx rfl (hb hby dc5_243) rfl rfl ?_
      refine XS.aloadN X197.here hx rfl (hb hby dc5_245) rfl rfl ?_
      refine XS.iload X197.here hx rfl (hb hby dc5_246) rfl ?_
      refine st201 _ ?_
      refine st203 _ ?_
      refine XS.iinc X203.here hx rfl (hb hby dc5_252) rfl (l' := #[.val (.ref a1), .val (.int (4 : Int32)), .val (.ref bv), .val (.int (24 : Int32)), .val (.ref bc), .val (.ref bu), .val (.int kk), .val (.int (3 : Int32)), .val (.int it167)]) rfl ?_
      refine XS.goto X203.here hx rfl (pc0 := 255) (pc' := 220) rfl (hb hby dc5_255) (by decide) (by decide) ?_
      refine XS.iload X203.here hx rfl (hb hby dc5_220) rfl ?_
      refine XS.iloadN X203.here hx rfl (hb hby dc5_222) rfl ?_
      refine XS.iconst X203.here hx rfl (hb hby dc5_223) ?_
      refine XS.isub X203.here hx rfl (hb hby dc5_224) rfl ?_
      show Steps p.tables e below (T203.setTop (mkF m 225 #[.val (.ref a1), .val (.int (4 : Int32)), .val (.ref bv), .val (.int (24 : Int32)), .val (.ref bc), .val (.ref bu), .val (.int kk), .val (.int (3 : Int32)), .val (.int it167)] [(.int (3 : Int32)), (.int (3 : Int32))])) _
      refine XS.icmpYes X203.here hx rfl (pc0 := 225) (pc' := 258) rfl (hb hby dc5_225) rfl (by decide) (by decide) (by decide) ?_
      refine XS.iloadN X203.here hx rfl (hb hby dc5_258) rfl ?_
      refine XS.iconst X203.here hx rfl (hb hby dc5_259) ?_
      refine XS.isub X203.here hx rfl (hb hby dc5_260) rfl ?_
      refine XS.istore X203.here hx rfl (hb hby dc5_261) rfl (l' := #[.val (.ref a1), .val (.int (4 : Int32)), .val (.ref bv), .val (.int (24 : Int32)), .val (.ref bc), .val (.ref bu), .val (.int kk), .val (.int (2 : Int32)), .val (.int it167)]) rfl ?_
      refine XS.iload X203.here hx rfl (hb hby dc5_263) rfl ?_
      show Steps p.tables e below (T203.setTop (mkF m 265 #[.val (.ref a1), .val (.int (4 : Int32)), .val (.ref bv), .val (.int (24 : Int32)), .val (.ref bc), .val (.ref bu), .val (.int kk), .val (.int (2 : Int32)), .val (.int it167)] [(.int (2 : Int32))])) _
      refine XS.ifNo X203.here hx rfl (hb hby dc5_265) rfl (by decide) ?_
      refine XS.aload X203.here hx rfl (hb hby dc5_268) rfl rfl ?_
      refine XS.iload X203.here hx rfl (hb hby dc5_270) rfl ?_
      show Steps p.tables e below (T203.setTop (mkF m 272 #[.val (.ref a1), .val (.int (4 : Int32)), .val (.ref bv), .val (.int (24 : Int32)), .val (.ref bc), .val (.ref bu), .val (.int kk), .val (.int (2 : Int32)), .val (.int it167)] [(.int (2 : Int32)), (.ref bc)])) _
      refine X203.iaload hx (j := (2 : Int32)) (v := (.int c2)) (by rw [e203]; exact Ar205.1) (State.isArrayOf_alike hZ.alike Ar205.2.1) Ar205.2.2 hin205 hat205 (g := (mkF m 272 #[.val (.ref a1), .val (.int (4 : Int32)), .val (.ref bv), .val (.int (24 : Int32)), .val (.ref bc), .val (.ref bu), .val (.int kk), .val (.int (2 : Int32)), .val (.int it167)] [(.int (2 : Int32)), (.ref bc)])) rfl rfl (hb hby dc5_272) _ ?_
      refine XS.iloadN X203.here hx rfl (hb hby dc5_273) rfl ?_
      refine XS.iconst X203.here hx rfl (hb hby dc5_274) ?_
      refine XS.isub X203.here hx rfl (hb hby dc5_275) rfl ?_
      refine XS.iload X203.here hx rfl (hb hby dc5_276) rfl ?_
      refine XS.isub X203.here hx rfl (hb hby dc5_278) rfl ?_
      exact kt)
  by_cases hc207 : c2 < (1 : Int32)
  · skip
    obtain ⟨cl208, Ar208, q208, S208, N208_, H208, G208⟩ := id f204
    have hin208 : ¬ ((2 : Int32) < 0 ∨ cl208.slots.size ≤ ((2 : Int32)).toNatClampNeg) := inb_of S208 ⟨by decide, by decide⟩
    have hat208 : cl208.slots[((2 : Int32)).toNatClampNeg]? = some (.int c2) := H208.at hin208 rfl
    obtain ⟨cl209, Ar209, q209, S209, N209_, H209, G209⟩ := id f204
    have hin209 : ¬ ((2 : Int32) < 0 ∨ cl209.slots.size ≤ ((2 : Int32)).toNatClampNeg) := inb_of S209 ⟨by decide, by decide⟩
    obtain ⟨T210, h210, X210, e210, W210, st210⟩ := stI X203 hx hZ e203 Ar209 (j := (2 : Int32)) hin209 (g := (mkF m 290 #[.val (.ref a1), .val (.int (4 : Int32)), .val (.ref bv), .val (.int (24 : Int32)), .val (.ref bc), .val (.ref bu), .val (.int kk), .val (.int (2 : Int32)), .val (.int it167)] [(.int (c2 + (1 : Int32))), (.int (2 : Int32)), (.ref bc)])) rfl rfl (hb hby dc5_290)
    have V210 : Arv Z h210 bc kc .int (4 : Int32) [(.int c0), (.int c1), (.int (c2 + (1 : Int32))), (.int c3)] (.int (0 : Int32)) := Arv.set Ar209 q209 S209 N209_ H209 G209 rfl W210 2 rfl (Nat.le_of_ble_eq_true rfl)
    have N210 := Fr.snoc X210 N203 g_bc
    have pre211 : ∀ t, Steps p.tables e below (T210.setTop (mkF m 112 #[.val (.ref a1), .val (.int (4 : Int32)), .val (.ref bv), .val (.int (24 : Int32)), .val (.ref bc), .val (.ref bu), .val (.int (kk + (1 : Int32))), .val (.int (2 : Int32)), .val (.int it167)] [])) t → Steps p.tables e below (T0.setTop (mkF m 112 #[.val (.ref a1), .val (.int (4 : Int32)), .val (.ref bv), .val (.int (24 : Int32)), .val (.ref bc), .val (.ref bu), .val (.int kk), w7, w8] [])) t := fun t kt => pre206 t (by
        show Steps p.tables e below (T203.setTop (mkF m 279 #[.val (.ref a1), .val (.int (4 : Int32)), .val (.ref bv), .val (.int (24 : Int32)), .val (.ref bc), .val (.ref bu), .val (.int kk), .val (.int (2 : Int32)), .val (.int it167)] [(.int (1 : Int32)), (.int c2)])) _
        refine XS.icmpNo X203.here hx rfl (hb hby dc5_279) rfl (tlt hc207).2.1 ?_
        refine XS.aload X203.here hx rfl (hb hby dc5_282) rfl rfl ?_
        refine XS.iload X203.here hx rfl (hb hby dc5_284) rfl ?_
        jvm_step X203.here [X203.here.top, hx, (hb hby dc5_286), Value.category]
        refine X203.iaload hx (j := (2 : Int32)) (v := (.int c2)) (by rw [e203]; exact Ar208.1) (State.isArrayOf_alike hZ.alike Ar208.2.1) Ar208.2.2 hin208 hat208 (g := (mkF m 287 #[.val (.ref a1), .val (.int (4 : Int32)), .val (.ref bv), .val (.int (24 : Int32)), .val (.ref bc), .val (.ref bu), .val (.int kk), .val (.int (2 : Int32)), .val (.int it167)] [(.int (2 : Int32)), (.ref bc), (.int (2 : Int32)), (.ref bc)])) rfl rfl (hb hby dc5_287) _ ?_
        refine XS.iconst X203.here hx rfl (hb hby dc5_288) ?_
        refine XS.iadd X203.here hx rfl (hb hby dc5_289) rfl ?_
        refine st210 _ ?_
        refine XS.goto X210.here hx rfl (pc0 := 291) (pc' := 306) rfl (hb hby dc5_291) (by decide) (by decide) ?_
        refine XS.iinc X210.here hx rfl (hb hby dc5_306) rfl (l' := #[.val (.ref a1), .val (.int (4 : Int32)), .val (.ref bv), .val (.int (24 : Int32)), .val (.ref bc), .val (.ref bu), .val (.int (kk + (1 : Int32))), .val (.int (2 : Int32)), .val (.int it167)]) rfl ?_
        refine XS.goto X210.here hx rfl (pc0 := 309) (pc' := 112) rfl (hb hby dc5_309) (by decide) (by decide) ?_
        exact kt)
    have K212 : Keep h0 h210 [bp, bs, bc, bu] := (Keep.wr (Keep.wr (Keep.wr (Keep.wr (Keep.wr (Keep.trans (Keep.wr (Keep.trans (Keep.wr (Keep.trans (Keep.wr (Keep.trans (Keep.wr (Keep.wr (Keep.wr (Keep.wr (Keep.refl h0 [bp, bs, bc, bu]) W103 (Or.inl (List.mem_of_getElem? (i := 3) rfl))) W105 (Or.inl (List.mem_of_getElem? (i := 3) rfl))) W107 (Or.inl (List.mem_of_getElem? (i := 3) rfl))) W109 (Or.inl (List.mem_of_getElem? (i := 3) rfl))) K117 (allS (P := fun x => x ∈ [bp, bs, bc, bu] ∨ h0.size ≤ x) (Or.inl (List.mem_of_getElem? (i := 3) rfl)) all0)) W127 (Or.inl (List.mem_of_getElem? (i := 0) rfl))) K136 (allS (P := fun x => x ∈ [bp, bs, bc, bu] ∨ h0.size ≤ x) (Or.inl (List.mem_of_getElem? (i := 3) rfl)) all0)) W145 (Or.inl (List.mem_of_getElem? (i := 0) rfl))) K154 (allS (P := fun x => x ∈ [bp, bs, bc, bu] ∨ h0.size ≤ x) (Or.inl (List.mem_of_getElem? (i := 3) rfl)) all0)) W162 (Or.inl (List.mem_of_getElem? (i := 0) rfl))) K171 (allS (P := fun x => x ∈ [bp, bs, bc, bu] ∨ h0.size ≤ x) (Or.inl (List.mem_of_getElem? (i := 3) rfl)) all0)) W178 (Or.inl (List.mem_of_getElem? (i := 0) rfl))) W187 (Or.inl (List.mem_of_getElem? (i := 1) rfl))) W195 (Or.inl (List.mem_of_getElem? (i := 1) rfl))) W203 (Or.inl (List.mem_of_getElem? (i := 1) rfl))) W210 (Or.inl (List.mem_of_getElem? (i := 2) rfl)))
    have O213 : Old Z n0 h210 := ((O198.wr W203 g_bs).wr W210 g_bc)
    have f214 := (((((V171.other W178 (Ne.symm ne_bp_bu)).other W187 (Ne.symm ne_bs_bu)).other W195 (Ne.symm ne_bs_bu)).other W203 (Ne.symm ne_bs_bu)).other W210 (Ne.symm ne_bc_bu))
    have f215 := ((((A178.other W187 ne_bp_bs).other W195 ne_bp_bs).other W203 ne_bp_bs).other W210 ne_bp_bc)
    have f216 := (A203.other W210 ne_bs_bc)
    have f217 := ((f200.other W203 ne_bv_bs).other W210 ne_bv_bc)
    have f218 := ((((((((((((((((Eo.wr W103).wr W105).wr W107).wr W109).keep K117).wr W127).keep K136).wr W145).keep K154).wr W162).keep K171).wr W178).wr W187).wr W195).wr W203).wr W210)
    have f219 := ((((((((((((((((Fi.other W103 (Or.inl ne_a1_bu)).other W105 (Or.inl ne_a1_bu)).other W107 (Or.inl ne_a1_bu)).other W109 (Or.inl ne_a1_bu)).keep K117 (ninS ne_a1_bu nin0)).other W127 (Or.inl ne_a1_bp)).keep K136 (ninS ne_a1_bu nin0)).other W145 (Or.inl ne_a1_bp)).keep K154 (ninS ne_a1_bu nin0)).other W162 (Or.inl ne_a1_bp)).keep K171 (ninS ne_a1_bu nin0)).other W178 (Or.inl ne_a1_bp)).other W187 (Or.inl ne_a1_bs)).other W195 (Or.inl ne_a1_bs)).other W203 (Or.inl ne_a1_bs)).other W210 (Or.inl ne_a1_bc))
    have f220 := (((((f174.other W178 (Or.inl ne_a1_bp)).other W187 (Or.inl ne_a1_bs)).other W195 (Or.inl ne_a1_bs)).other W203 (Or.inl ne_a1_bs)).other W210 (Or.inl ne_a1_bc))
    have f221 := (((((f172.other W178 (Or.inl ne_a1_bp)).other W187 (Or.inl ne_a1_bs)).other W195 (Or.inl ne_a1_bs)).other W203 (Or.inl ne_a1_bs)).other W210 (Or.inl ne_a1_bc))
    have f222 := ((f196.other W203 (Or.inl ne_a1_bs)).other W210 (Or.inl ne_a1_bc))
    subst hkk
    subst hc0 hc1 hc2 hc3
    obtain ⟨r0, r1, r2, r3⟩ := own_in4_0 k hc207
    have Vz : Arv Z h210 bc kc .int (4 : Int32) [(.int (own_d4_0 (k.val + 1))), (.int (own_d4_1 (k.val + 1))), (.int (own_d4_2 (k.val + 1))), (.int (own_d4_3 (k.val + 1)))] (.int (0 : Int32)) := by
      rw [← r0, ← r1, ← r2, ← r3]; exact V210
    refine ⟨_, _, _, .val (.int (2 : Int32)), .val (.int it167), X210, e210, N210, O213, K212, f218, f219, f220, f221, f222, f217, Vz, ⟨_, _, _, _, f214⟩, ?_, ?_, One.val rfl, One.val rfl, ?_⟩
    · subst hit113 hu118 hu119 hu120 hit132 hu137 hu138 hit150 hu155 hit167; exact f215
    · subst hit113 hu118 hu119 hu120 hit132 hu137 hu138 hit150 hu155 hit167; exact f216
    · intro t kt; refine pre211 t ?_; rw [own_next]; exact kt
  · skip
    obtain ⟨cl223, Ar223, q223, S223, N223_, H223, G223⟩ := id f204
    have hin223 : ¬ ((2 : Int32) < 0 ∨ cl223.slots.size ≤ ((2 : Int32)).toNatClampNeg) := inb_of S223 ⟨by decide, by decide⟩
    obtain ⟨T224, h224, X224, e224, W224, st224⟩ := stI X203 hx hZ e203 Ar223 (j := (2 : Int32)) hin223 (g := (mkF m 299 #[.val (.ref a1), .val (.int (4 : Int32)), .val (.ref bv), .val (.int (24 : Int32)), .val (.ref bc), .val (.ref bu), .val (.int kk), .val (.int (2 : Int32)), .val (.int it167)] [(.int (0 : Int32)), (.int (2 : Int32)), (.ref bc)])) rfl rfl (hb hby dc5_299)
    have V224 : Arv Z h224 bc kc .int (4 : Int32) [(.int c0), (.int c1), (.int (0 : Int32)), (.int c3)] (.int (0 : Int32)) := Arv.set Ar223 q223 S223 N223_ H223 G223 rfl W224 2 rfl (Nat.le_of_ble_eq_true rfl)
    have N224 := Fr.snoc X224 N203 g_bc
    obtain ⟨cl225, Ar225, q225, S225, N225_, H225, G225⟩ := id V224
    have hin225 : ¬ ((1 : Int32) < 0 ∨ cl225.slots.size ≤ ((1 : Int32)).toNatClampNeg) := inb_of S225 ⟨by decide, by decide⟩
    have hat225 : cl225.slots[((1 : Int32)).toNatClampNeg]? = some (.int c1) := H225.at hin225 rfl
    have pre226 : ∀ t, Steps p.tables e below (T224.setTop (mkF m 279 #[.val (.ref a1), .val (.int (4 : Int32)), .val (.ref bv), .val (.int (24 : Int32)), .val (.ref bc), .val (.ref bu), .val (.int kk), .val (.int (1 : Int32)), .val (.int it167)] [(.int (2 : Int32)), (.int c1)])) t → Steps p.tables e below (T0.setTop (mkF m 112 #[.val (.ref a1), .val (.int (4 : Int32)), .val (.ref bv), .val (.int (24 : Int32)), .val (.ref bc), .val (.ref bu), .val (.int kk), w7, w8] [])) t := fun t kt => pre206 t (by
        show Steps p.tables e below (T203.setTop (mkF m 279 #[.val (.ref a1), .val (.int (4 : Int32)), .val (.ref bv), .val (.int (24 : Int32)), .val (.ref bc), .val (.ref bu), .val (.int kk), .val (.int (2 : Int32)), .val (.int it167)] [(.int (1 : Int32)), (.int c2)])) _
        refine XS.icmpYes X203.here hx rfl (pc0 := 279) (pc' := 294) rfl (hb hby dc5_279) rfl (flt hc207).2.1 (by decide) (by decide) ?_
        refine XS.aload X203.here hx rfl (hb hby dc5_294) rfl rfl ?_
        refine XS.iload X203.here hx rfl (hb hby dc5_296) rfl ?_
        refine XS.iconst X203.here hx rfl (hb hby dc5_298) ?_
        refine st224 _ ?_
        refine XS.iinc X224.here hx rfl (hb hby dc5_300) rfl (l' := #[.val (.ref a1), .val (.int (4 : Int32)), .val (.ref bv), .val (.int (24 : Int32)), .val (.ref bc), .val (.ref bu), .val (.int kk), .val (.int (1 : Int32)), .val (.int it167)]) rfl ?_
        refine XS.goto X224.here hx rfl (pc0 := 303) (pc' := 263) rfl (hb hby dc5_303) (by decide) (by decide) ?_
        show Steps p.tables e below (T224.setTop (mkF m 263 #[.val (.ref a1), .val (.int (4 : Int32)), .val (.ref bv), .val (.int (24 : Int32)), .val (.ref bc), .val (.ref bu), .val (.int kk), .val (.int (1 : Int32)), .val (.int it167)] [])) _
        refine XS.iload X224.here hx rfl (hb hby dc5_263) rfl ?_
        show Steps p.tables e below (T224.setTop (mkF m 265 #[.val (.ref a1), .val (.int (4 : Int32)), .val (.ref bv), .val (.int (24 : Int32)), .val (.ref bc), .val (.ref bu), .val (.int kk), .val (.int (1 : Int32)), .val (.int it167)] [(.int (1 : Int32))])) _
        refine XS.ifNo X224.here hx rfl (hb hby dc5_265) rfl (by decide) ?_
        refine XS.aload X224.here hx rfl (hb hby dc5_268) rfl rfl ?_
        refine XS.iload X224.here hx rfl (hb hby dc5_270) rfl ?_
        refine X224.iaload hx (j := (1 : Int32)) (v := (.int c1)) (by rw [e224]; exact Ar225.1) (State.isArrayOf_alike hZ.alike Ar225.2.1) Ar225.2.2 hin225 hat225 (g := (mkF m 272 #[.val (.ref a1), .val (.int (4 : Int32)), .val (.ref bv), .val (.int (24 : Int32)), .val (.ref bc), .val (.ref bu), .val (.int kk), .val (.int (1 : Int32)), .val (.int it167)] [(.int (1 : Int32)), (.ref bc)])) rfl rfl (hb hby dc5_272) _ ?_
        refine XS.iloadN X224.here hx rfl (hb hby dc5_273) rfl ?_
        refine XS.iconst X224.here hx rfl (hb hby dc5_274) ?_
        refine XS.isub X224.here hx rfl (hb hby dc5_275) rfl ?_
        refine XS.iload X224.here hx rfl (hb hby dc5_276) rfl ?_
        refine XS.isub X224.here hx rfl (hb hby dc5_278) rfl ?_
        exact kt)
    by_cases hc227 : c1 < (2 : Int32)
    · skip
      obtain ⟨cl228, Ar228, q228, S228, N228_, H228, G228⟩ := id V224
      have hin228 : ¬ ((1 : Int32) < 0 ∨ cl228.slots.size ≤ ((1 : Int32)).toNatClampNeg) := inb_of S228 ⟨by decide, by decide⟩
      have hat228 : cl228.slots[((1 : Int32)).toNatClampNeg]? = some (.int c1) := H228.at hin228 rfl
      obtain ⟨cl229, Ar229, q229, S229, N229_, H229, G229⟩ := id V224
      have hin229 : ¬ ((1 : Int32) < 0 ∨ cl229.slots.size ≤ ((1 : Int32)).toNatClampNeg) := inb_of S229 ⟨by decide, by decide⟩
      obtain ⟨T230, h230, X230, e230, W230, st230⟩ := stI X224 hx hZ e224 Ar229 (j := (1 : Int32)) hin229 (g := (mkF m 290 #[.val (.ref a1), .val (.int (4 : Int32)), .val (.ref bv), .val (.int (24 : Int32)), .val (.ref bc), .val (.ref bu), .val (.int kk), .val (.int (1 : Int32)), .val (.int it167)] [(.int (c1 + (1 : Int32))), (.int (1 : Int32)), (.ref bc)])) rfl rfl (hb hby dc5_290)
      have V230 : Arv Z h230 bc kc .int (4 : Int32) [(.int c0), (.int (c1 + (1 : Int32))), (.int (0 : Int32)), (.int c3)] (.int (0 : Int32)) := Arv.set Ar229 q229 S229 N229_ H229 G229 rfl W230 1 rfl (Nat.le_of_ble_eq_true rfl)
      have N230 := Fr.snoc X230 N224 g_bc
      have pre231 : ∀ t, Steps p.tables e below (T230.setTop (mkF m 112 #[.val (.ref a1), .val (.int (4 : Int32)), .val (.ref bv), .val (.int (24 : Int32)), .val (.ref bc), .val (.ref bu), .val (.int (kk + (1 : Int32))), .val (.int (1 : Int32)), .val (.int it167)] [])) t → Steps p.tables e below (T0.setTop (mkF m 112 #[.val (.ref a1), .val (.int (4 : Int32)), .val (.ref bv), .val (.int (24 : Int32)), .val (.ref bc), .val (.ref bu), .val (.int kk), w7, w8] [])) t := fun t kt => pre226 t (by
          show Steps p.tables e below (T224.setTop (mkF m 279 #[.val (.ref a1), .val (.int (4 : Int32)), .val (.ref bv), .val (.int (24 : Int32)), .val (.ref bc), .val (.ref bu), .val (.int kk), .val (.int (1 : Int32)), .val (.int it167)] [(.int (2 : Int32)), (.int c1)])) _
          refine XS.icmpNo X224.here hx rfl (hb hby dc5_279) rfl (tlt hc227).2.1 ?_
          refine XS.aload X224.here hx rfl (hb hby dc5_282) rfl rfl ?_
          refine XS.iload X224.here hx rfl (hb hby dc5_284) rfl ?_
          jvm_step X224.here [X224.here.top, hx, (hb hby dc5_286), Value.category]
          refine X224.iaload hx (j := (1 : Int32)) (v := (.int c1)) (by rw [e224]; exact Ar228.1) (State.isArrayOf_alike hZ.alike Ar228.2.1) Ar228.2.2 hin228 hat228 (g := (mkF m 287 #[.val (.ref a1), .val (.int (4 : Int32)), .val (.ref bv), .val (.int (24 : Int32)), .val (.ref bc), .val (.ref bu), .val (.int kk), .val (.int (1 : Int32)), .val (.int it167)] [(.int (1 : Int32)), (.ref bc), (.int (1 : Int32)), (.ref bc)])) rfl rfl (hb hby dc5_287) _ ?_
          refine XS.iconst X224.here hx rfl (hb hby dc5_288) ?_
          refine XS.iadd X224.here hx rfl (hb hby dc5_289) rfl ?_
          refine st230 _ ?_
          refine XS.goto X230.here hx rfl (pc0 := 291) (pc' := 306) rfl (hb hby dc5_291) (by decide) (by decide) ?_
          refine XS.iinc X230.here hx rfl (hb hby dc5_306) rfl (l' := #[.val (.ref a1), .val (.int (4 : Int32)), .val (.ref bv), .val (.int (24 : Int32)), .val (.ref bc), .val (.ref bu), .val (.int (kk + (1 : Int32))), .val (.int (1 : Int32)), .val (.int it167)]) rfl ?_
          refine XS.goto X230.here hx rfl (pc0 := 309) (pc' := 112) rfl (hb hby dc5_309) (by decide) (by decide) ?_
          exact kt)
      have K232 : Keep h0 h230 [bp, bs, bc, bu] := (Keep.wr (Keep.wr (Keep.wr (Keep.wr (Keep.wr (Keep.wr (Keep.trans (Keep.wr (Keep.trans (Keep.wr (Keep.trans (Keep.wr (Keep.trans (Keep.wr (Keep.wr (Keep.wr (Keep.wr (Keep.refl h0 [bp, bs, bc, bu]) W103 (Or.inl (List.mem_of_getElem? (i := 3) rfl))) W105 (Or.inl (List.mem_of_getElem? (i := 3) rfl))) W107 (Or.inl (List.mem_of_getElem? (i := 3) rfl))) W109 (Or.inl (List.mem_of_getElem? (i := 3) rfl))) K117 (allS (P := fun x => x ∈ [bp, bs, bc, bu] ∨ h0.size ≤ x) (Or.inl (List.mem_of_getElem? (i := 3) rfl)) all0)) W127 (Or.inl (List.mem_of_getElem? (i := 0) rfl))) K136 (allS (P := fun x => x ∈ [bp, bs, bc, bu] ∨ h0.size ≤ x) (Or.inl (List.mem_of_getElem? (i := 3) rfl)) all0)) W145 (Or.inl (List.mem_of_getElem? (i := 0) rfl))) K154 (allS (P := fun x => x ∈ [bp, bs, bc, bu] ∨ h0.size ≤ x) (Or.inl (List.mem_of_getElem? (i := 3) rfl)) all0)) W162 (Or.inl (List.mem_of_getElem? (i := 0) rfl))) K171 (allS (P := fun x => x ∈ [bp, bs, bc, bu] ∨ h0.size ≤ x) (Or.inl (List.mem_of_getElem? (i := 3) rfl)) all0)) W178 (Or.inl (List.mem_of_getElem? (i := 0) rfl))) W187 (Or.inl (List.mem_of_getElem? (i := 1) rfl))) W195 (Or.inl (List.mem_of_getElem? (i := 1) rfl))) W203 (Or.inl (List.mem_of_getElem? (i := 1) rfl))) W224 (Or.inl (List.mem_of_getElem? (i := 2) rfl))) W230 (Or.inl (List.mem_of_getElem? (i := 2) rfl)))
      have O233 : Old Z n0 h230 := (((O198.wr W203 g_bs).wr W224 g_bc).wr W230 g_bc)
      have f234 := ((((((V171.other W178 (Ne.symm ne_bp_bu)).other W187 (Ne.symm ne_bs_bu)).other W195 (Ne.symm ne_bs_bu)).other W203 (Ne.symm ne_bs_bu)).other W224 (Ne.symm ne_bc_bu)).other W230 (Ne.symm ne_bc_bu))
      have f235 := (((((A178.other W187 ne_bp_bs).other W195 ne_bp_bs).other W203 ne_bp_bs).other W224 ne_bp_bc).other W230 ne_bp_bc)
      have f236 := ((A203.other W224 ne_bs_bc).other W230 ne_bs_bc)
      have f237 := (((f200.other W203 ne_bv_bs).other W224 ne_bv_bc).other W230 ne_bv_bc)
      have f238 := (((((((((((((((((Eo.wr W103).wr W105).wr W107).wr W109).keep K117).wr W127).keep K136).wr W145).keep K154).wr W162).keep K171).wr W178).wr W187).wr W195).wr W203).wr W224).wr W230)
      have f239 := (((((((((((((((((Fi.other W103 (Or.inl ne_a1_bu)).other W105 (Or.inl ne_a1_bu)).other W107 (Or.inl ne_a1_bu)).other W109 (Or.inl ne_a1_bu)).keep K117 (ninS ne_a1_bu nin0)).other W127 (Or.inl ne_a1_bp)).keep K136 (ninS ne_a1_bu nin0)).other W145 (Or.inl ne_a1_bp)).keep K154 (ninS ne_a1_bu nin0)).other W162 (Or.inl ne_a1_bp)).keep K171 (ninS ne_a1_bu nin0)).other W178 (Or.inl ne_a1_bp)).other W187 (Or.inl ne_a1_bs)).other W195 (Or.inl ne_a1_bs)).other W203 (Or.inl ne_a1_bs)).other W224 (Or.inl ne_a1_bc)).other W230 (Or.inl ne_a1_bc))
      have f240 := ((((((f174.other W178 (Or.inl ne_a1_bp)).other W187 (Or.inl ne_a1_bs)).other W195 (Or.inl ne_a1_bs)).other W203 (Or.inl ne_a1_bs)).other W224 (Or.inl ne_a1_bc)).other W230 (Or.inl ne_a1_bc))
      have f241 := ((((((f172.other W178 (Or.inl ne_a1_bp)).other W187 (Or.inl ne_a1_bs)).other W195 (Or.inl ne_a1_bs)).other W203 (Or.inl ne_a1_bs)).other W224 (Or.inl ne_a1_bc)).other W230 (Or.inl ne_a1_bc))
      have f242 := (((f196.other W203 (Or.inl ne_a1_bs)).other W224 (Or.inl ne_a1_bc)).other W230 (Or.inl ne_a1_bc))
      subst hkk
      subst hc0 hc1 hc2 hc3
      obtain ⟨r0, r1, r2, r3⟩ := own_in4_1 k hc207 hc227
      have Vz : Arv Z h230 bc kc .int (4 : Int32) [(.int (own_d4_0 (k.val + 1))), (.int (own_d4_1 (k.val + 1))), (.int (own_d4_2 (k.val + 1))), (.int (own_d4_3 (k.val + 1)))] (.int (0 : Int32)) := by
        rw [← r0, ← r1, ← r2, ← r3]; exact V230
      refine ⟨_, _, _, .val (.int (1 : Int32)), .val (.int it167), X230, e230, N230, O233, K232, f238, f239, f240, f241, f242, f237, Vz, ⟨_, _, _, _, f234⟩, ?_, ?_, One.val rfl, One.val rfl, ?_⟩
      · subst hit113 hu118 hu119 hu120 hit132 hu137 hu138 hit150 hu155 hit167; exact f235
      · subst hit113 hu118 hu119 hu120 hit132 hu137 hu138 hit150 hu155 hit167; exact f236
      · intro t kt; refine pre231 t ?_; rw [own_next]; exact kt
    · skip
      obtain ⟨cl243, Ar243, q243, S243, N243_, H243, G243⟩ := id V224
      have hin243 : ¬ ((1 : Int32) < 0 ∨ cl243.slots.size ≤ ((1 : Int32)).toNatClampNeg) := inb_of S243 ⟨by decide, by decide⟩
      obtain ⟨T244, h244, X244, e244, W244, st244⟩ := stI X224 hx hZ e224 Ar243 (j := (1 : Int32)) hin243 (g := (mkF m 299 #[.val (.ref a1), .val (.int (4 : Int32)), .val (.ref bv), .val (.int (24 : Int32)), .val (.ref bc), .val (.ref bu), .val (.int kk), .val (.int (1 : Int32)), .val (.int it167)] [(.int (0 : Int32)), (.int (1 : Int32)), (.ref bc)])) rfl rfl (hb hby dc5_299)
      have V244 : Arv Z h244 bc kc .int (4 : Int32) [(.int c0), (.int (0 : Int32)), (.int (0 : Int32)), (.int c3)] (.int (0 : Int32)) := Arv.set Ar243 q243 S243 N243_ H243 G243 rfl W244 1 rfl (Nat.le_of_ble_eq_true rfl)
      have N244 := Fr.snoc X244 N224 g_bc
      obtain ⟨cl245, Ar245, q245, S245, N245_, H245, G245⟩ := id V244
      have hin245 : ¬ ((0 : Int32) < 0 ∨ cl245.slots.size ≤ ((0 : Int32)).toNatClampNeg) := inb_of S245 ⟨by decide, by decide⟩
      have hat245 : cl245.slots[((0 : Int32)).toNatClampNeg]? = some (.int c0) := H245.at hin245 rfl
      have pre246 : ∀ t, Steps p.tables e below (T244.setTop (mkF m 279 #[.val (.ref a1), .val (.int (4 : Int32)), .val (.ref bv), .val (.int (24 : Int32)), .val (.ref bc), .val (.ref bu), .val (.int kk), .val (.int (0 : Int32)), .val (.int it167)] [(.int (3 : Int32)), (.int c0)])) t → Steps p.tables e below (T0.setTop (mkF m 112 #[.val (.ref a1), .val (.int (4 : Int32)), .val (.ref bv), .val (.int (24 : Int32)), .val (.ref bc), .val (.ref bu), .val (.int kk), w7, w8] [])) t := fun t kt => pre226 t (by
          show Steps p.tables e below (T224.setTop (mkF m 279 #[.val (.ref a1), .val (.int (4 : Int32)), .val (.ref bv), .val (.int (24 : Int32)), .val (.ref bc), .val (.ref bu), .val (.int kk), .val (.int (1 : Int32)), .val (.int it167)] [(.int (2 : Int32)), (.int c1)])) _
          refine XS.icmpYes X224.here hx rfl (pc0 := 279) (pc' := 294) rfl (hb hby dc5_279) rfl (flt hc227).2.1 (by decide) (by decide) ?_
          refine XS.aload X224.here hx rfl (hb hby dc5_294) rfl rfl ?_
          refine XS.iload X224.here hx rfl (hb hby dc5_296) rfl ?_
          show Steps p.tables e below (T224.setTop (mkF m 298 #[.val (.ref a1), .val (.int (4 : Int32)), .val (.ref bv), .val (.int (24 : Int32)), .val (.ref bc), .val (.ref bu), .val (.int kk), .val (.int (1 : Int32)), .val (.int it167)] [(.int (1 : Int32)), (.ref bc)])) _
          refine XS.iconst X224.here hx rfl (hb hby dc5_298) ?_
          refine st244 _ ?_
          refine XS.iinc X244.here hx rfl (hb hby dc5_300) rfl (l' := #[.val (.ref a1), .val (.int (4 : Int32)), .val (.ref bv), .val (.int (24 : Int32)), .val (.ref bc), .val (.ref bu), .val (.int kk), .val (.int (0 : Int32)), .val (.int it167)]) rfl ?_
          refine XS.goto X244.here hx rfl (pc0 := 303) (pc' := 263) rfl (hb hby dc5_303) (by decide) (by decide) ?_
          refine XS.iload X244.here hx rfl (hb hby dc5_263) rfl ?_
          show Steps p.tables e below (T244.setTop (mkF m 265 #[.val (.ref a1), .val (.int (4 : Int32)), .val (.ref bv), .val (.int (24 : Int32)), .val (.ref bc), .val (.ref bu), .val (.int kk), .val (.int (0 : Int32)), .val (.int it167)] [(.int (0 : Int32))])) _
          refine XS.ifNo X244.here hx rfl (hb hby dc5_265) rfl (by decide) ?_
          refine XS.aload X244.here hx rfl (hb hby dc5_268) rfl rfl ?_
          refine XS.iload X244.here hx rfl (hb hby dc5_270) rfl ?_
          refine X244.iaload hx (j := (0 : Int32)) (v := (.int c0)) (by rw [e244]; exact Ar245.1) (State.isArrayOf_alike hZ.alike Ar245.2.1) Ar245.2.2 hin245 hat245 (g := (mkF m 272 #[.val (.ref a1), .val (.int (4 : Int32)), .val (.ref bv), .val (.int (24 : Int32)), .val (.ref bc), .val (.ref bu), .val (.int kk), .val (.int (0 : Int32)), .val (.int it167)] [(.int (0 : Int32)), (.ref bc)])) rfl rfl (hb hby dc5_272) _ ?_
          refine XS.iloadN X244.here hx rfl (hb hby dc5_273) rfl ?_
          refine XS.iconst X244.here hx rfl (hb hby dc5_274) ?_
          refine XS.isub X244.here hx rfl (hb hby dc5_275) rfl ?_
          refine XS.iload X244.here hx rfl (hb hby dc5_276) rfl ?_
          refine XS.isub X244.here hx rfl (hb hby dc5_278) rfl ?_
          exact kt)
      by_cases hc247 : c0 < (3 : Int32)
      · skip
        obtain ⟨cl248, Ar248, q248, S248, N248_, H248, G248⟩ := id V244
        have hin248 : ¬ ((0 : Int32) < 0 ∨ cl248.slots.size ≤ ((0 : Int32)).toNatClampNeg) := inb_of S248 ⟨by decide, by decide⟩
        have hat248 : cl248.slots[((0 : Int32)).toNatClampNeg]? = some (.int c0) := H248.at hin248 rfl
        obtain ⟨cl249, Ar249, q249, S249, N249_, H249, G249⟩ := id V244
        have hin249 : ¬ ((0 : Int32) < 0 ∨ cl249.slots.size ≤ ((0 : Int32)).toNatClampNeg) := inb_of S249 ⟨by decide, by decide⟩
        obtain ⟨T250, h250, X250, e250, W250, st250⟩ := stI X244 hx hZ e244 Ar249 (j := (0 : Int32)) hin249 (g := (mkF m 290 #[.val (.ref a1), .val (.int (4 : Int32)), .val (.ref bv), .val (.int (24 : Int32)), .val (.ref bc), .val (.ref bu), .val (.int kk), .val (.int (0 : Int32)), .val (.int it167)] [(.int (c0 + (1 : Int32))), (.int (0 : Int32)), (.ref bc)])) rfl rfl (hb hby dc5_290)
        have V250 : Arv Z h250 bc kc .int (4 : Int32) [(.int (c0 + (1 : Int32))), (.int (0 : Int32)), (.int (0 : Int32)), (.int c3)] (.int (0 : Int32)) := Arv.set Ar249 q249 S249 N249_ H249 G249 rfl W250 0 rfl (Nat.le_of_ble_eq_true rfl)
        have N250 := Fr.snoc X250 N244 g_bc
        have pre251 : ∀ t, Steps p.tables e below (T250.setTop (mkF m 112 #[.val (.ref a1), .val (.int (4 : Int32)), .val (.ref bv), .val (.int (24 : Int32)), .val (.ref bc), .val (.ref bu), .val (.int (kk + (1 : Int32))), .val (.int (0 : Int32)), .val (.int it167)] [])) t → Steps p.tables e below (T0.setTop (mkF m 112 #[.val (.ref a1), .val (.int (4 : Int32)), .val (.ref bv), .val (.int (24 : Int32)), .val (.ref bc), .val (.ref bu), .val (.int kk), w7, w8] [])) t := fun t kt => pre246 t (by
            show Steps p.tables e below (T244.setTop (mkF m 279 #[.val (.ref a1), .val (.int (4 : Int32)), .val (.ref bv), .val (.int (24 : Int32)), .val (.ref bc), .val (.ref bu), .val (.int kk), .val (.int (0 : Int32)), .val (.int it167)] [(.int (3 : Int32)), (.int c0)])) _
            refine XS.icmpNo X244.here hx rfl (hb hby dc5_279) rfl (tlt hc247).2.1 ?_
            refine XS.aload X244.here hx rfl (hb hby dc5_282) rfl rfl ?_
            refine XS.iload X244.here hx rfl (hb hby dc5_284) rfl ?_
            jvm_step X244.here [X244.here.top, hx, (hb hby dc5_286), Value.category]
            refine X244.iaload hx (j := (0 : Int32)) (v := (.int c0)) (by rw [e244]; exact Ar248.1) (State.isArrayOf_alike hZ.alike Ar248.2.1) Ar248.2.2 hin248 hat248 (g := (mkF m 287 #[.val (.ref a1), .val (.int (4 : Int32)), .val (.ref bv), .val (.int (24 : Int32)), .val (.ref bc), .val (.ref bu), .val (.int kk), .val (.int (0 : Int32)), .val (.int it167)] [(.int (0 : Int32)), (.ref bc), (.int (0 : Int32)), (.ref bc)])) rfl rfl (hb hby dc5_287) _ ?_
            refine XS.iconst X244.here hx rfl (hb hby dc5_288) ?_
            refine XS.iadd X244.here hx rfl (hb hby dc5_289) rfl ?_
            refine st250 _ ?_
            refine XS.goto X250.here hx rfl (pc0 := 291) (pc' := 306) rfl (hb hby dc5_291) (by decide) (by decide) ?_
            refine XS.iinc X250.here hx rfl (hb hby dc5_306) rfl (l' := #[.val (.ref a1), .val (.int (4 : Int32)), .val (.ref bv), .val (.int (24 : Int32)), .val (.ref bc), .val (.ref bu), .val (.int (kk + (1 : Int32))), .val (.int (0 : Int32)), .val (.int it167)]) rfl ?_
            show Steps p.tables e below (T250.setTop (mkF m 309 #[.val (.ref a1), .val (.int (4 : Int32)), .val (.ref bv), .val (.int (24 : Int32)), .val (.ref bc), .val (.ref bu), .val (.int (kk + (1 : Int32))), .val (.int (0 : Int32)), .val (.int it167)] [])) _
            refine XS.goto X250.here hx rfl (pc0 := 309) (pc' := 112) rfl (hb hby dc5_309) (by decide) (by decide) ?_
            exact kt)
        have K252 : Keep h0 h250 [bp, bs, bc, bu] := (Keep.wr (Keep.wr (Keep.wr (Keep.wr (Keep.wr (Keep.wr (Keep.wr (Keep.trans (Keep.wr (Keep.trans (Keep.wr (Keep.trans (Keep.wr (Keep.trans (Keep.wr (Keep.wr (Keep.wr (Keep.wr (Keep.refl h0 [bp, bs, bc, bu]) W103 (Or.inl (List.mem_of_getElem? (i := 3) rfl))) W105 (Or.inl (List.mem_of_getElem? (i := 3) rfl))) W107 (Or.inl (List.mem_of_getElem? (i := 3) rfl))) W109 (Or.inl (List.mem_of_getElem? (i := 3) rfl))) K117 (allS (P := fun x => x ∈ [bp, bs, bc, bu] ∨ h0.size ≤ x) (Or.inl (List.mem_of_getElem? (i := 3) rfl)) all0)) W127 (Or.inl (List.mem_of_getElem? (i := 0) rfl))) K136 (allS (P := fun x => x ∈ [bp, bs, bc, bu] ∨ h0.size ≤ x) (Or.inl (List.mem_of_getElem? (i := 3) rfl)) all0)) W145 (Or.inl (List.mem_of_getElem? (i := 0) rfl))) K154 (allS (P := fun x => x ∈ [bp, bs, bc, bu] ∨ h0.size ≤ x) (Or.inl (List.mem_of_getElem? (i := 3) rfl)) all0)) W162 (Or.inl (List.mem_of_getElem? (i := 0) rfl))) K171 (allS (P := fun x => x ∈ [bp, bs, bc, bu] ∨ h0.size ≤ x) (Or.inl (List.mem_of_getElem? (i := 3) rfl)) all0)) W178 (Or.inl (List.mem_of_getElem? (i := 0) rfl))) W187 (Or.inl (List.mem_of_getElem? (i := 1) rfl))) W195 (Or.inl (List.mem_of_getElem? (i := 1) rfl))) W203 (Or.inl (List.mem_of_getElem? (i := 1) rfl))) W224 (Or.inl (List.mem_of_getElem? (i := 2) rfl))) W244 (Or.inl (List.mem_of_getElem? (i := 2) rfl))) W250 (Or.inl (List.mem_of_getElem? (i := 2) rfl)))
        have O253 : Old Z n0 h250 := ((((O198.wr W203 g_bs).wr W224 g_bc).wr W244 g_bc).wr W250 g_bc)
        have f254 := (((((((V171.other W178 (Ne.symm ne_bp_bu)).other W187 (Ne.symm ne_bs_bu)).other W195 (Ne.symm ne_bs_bu)).other W203 (Ne.symm ne_bs_bu)).other W224 (Ne.symm ne_bc_bu)).other W244 (Ne.symm ne_bc_bu)).other W250 (Ne.symm ne_bc_bu))
        have f255 := ((((((A178.other W187 ne_bp_bs).other W195 ne_bp_bs).other W203 ne_bp_bs).other W224 ne_bp_bc).other W244 ne_bp_bc).other W250 ne_bp_bc)
        have f256 := (((A203.other W224 ne_bs_bc).other W244 ne_bs_bc).other W250 ne_bs_bc)
        have f257 := ((((f200.other W203 ne_bv_bs).other W224 ne_bv_bc).other W244 ne_bv_bc).other W250 ne_bv_bc)
        have f258 := ((((((((((((((((((Eo.wr W103).wr W105).wr W107).wr W109).keep K117).wr W127).keep K136).wr W145).keep K154).wr W162).keep K171).wr W178).wr W187).wr W195).wr W203).wr W224).wr W244).wr W250)
        have f259 := ((((((((((((((((((Fi.other W103 (Or.inl ne_a1_bu)).other W105 (Or.inl ne_a1_bu)).other W107 (Or.inl ne_a1_bu)).other W109 (Or.inl ne_a1_bu)).keep K117 (ninS ne_a1_bu nin0)).other W127 (Or.inl ne_a1_bp)).keep K136 (ninS ne_a1_bu nin0)).other W145 (Or.inl ne_a1_bp)).keep K154 (ninS ne_a1_bu nin0)).other W162 (Or.inl ne_a1_bp)).keep K171 (ninS ne_a1_bu nin0)).other W178 (Or.inl ne_a1_bp)).other W187 (Or.inl ne_a1_bs)).other W195 (Or.inl ne_a1_bs)).other W203 (Or.inl ne_a1_bs)).other W224 (Or.inl ne_a1_bc)).other W244 (Or.inl ne_a1_bc)).other W250 (Or.inl ne_a1_bc))
        have f260 := (((((((f174.other W178 (Or.inl ne_a1_bp)).other W187 (Or.inl ne_a1_bs)).other W195 (Or.inl ne_a1_bs)).other W203 (Or.inl ne_a1_bs)).other W224 (Or.inl ne_a1_bc)).other W244 (Or.inl ne_a1_bc)).other W250 (Or.inl ne_a1_bc))
        have f261 := (((((((f172.other W178 (Or.inl ne_a1_bp)).other W187 (Or.inl ne_a1_bs)).other W195 (Or.inl ne_a1_bs)).other W203 (Or.inl ne_a1_bs)).other W224 (Or.inl ne_a1_bc)).other W244 (Or.inl ne_a1_bc)).other W250 (Or.inl ne_a1_bc))
        have f262 := ((((f196.other W203 (Or.inl ne_a1_bs)).other W224 (Or.inl ne_a1_bc)).other W244 (Or.inl ne_a1_bc)).other W250 (Or.inl ne_a1_bc))
        subst hkk
        subst hc0 hc1 hc2 hc3
        obtain ⟨r0, r1, r2, r3⟩ := own_in4_2 k hc207 hc227 hc247
        have Vz : Arv Z h250 bc kc .int (4 : Int32) [(.int (own_d4_0 (k.val + 1))), (.int (own_d4_1 (k.val + 1))), (.int (own_d4_2 (k.val + 1))), (.int (own_d4_3 (k.val + 1)))] (.int (0 : Int32)) := by
          rw [← r0, ← r1, ← r2, ← r3]; exact V250
        refine ⟨_, _, _, .val (.int (0 : Int32)), .val (.int it167), X250, e250, N250, O253, K252, f258, f259, f260, f261, f262, f257, Vz, ⟨_, _, _, _, f254⟩, ?_, ?_, One.val rfl, One.val rfl, ?_⟩
        · subst hit113 hu118 hu119 hu120 hit132 hu137 hu138 hit150 hu155 hit167; exact f255
        · subst hit113 hu118 hu119 hu120 hit132 hu137 hu138 hit150 hu155 hit167; exact f256
        · intro t kt; refine pre251 t ?_; rw [own_next]; exact kt
      · skip
        obtain ⟨cl263, Ar263, q263, S263, N263_, H263, G263⟩ := id V244
        have hin263 : ¬ ((0 : Int32) < 0 ∨ cl263.slots.size ≤ ((0 : Int32)).toNatClampNeg) := inb_of S263 ⟨by decide, by decide⟩
        obtain ⟨T264, h264, X264, e264, W264, st264⟩ := stI X244 hx hZ e244 Ar263 (j := (0 : Int32)) hin263 (g := (mkF m 299 #[.val (.ref a1), .val (.int (4 : Int32)), .val (.ref bv), .val (.int (24 : Int32)), .val (.ref bc), .val (.ref bu), .val (.int kk), .val (.int (0 : Int32)), .val (.int it167)] [(.int (0 : Int32)), (.int (0 : Int32)), (.ref bc)])) rfl rfl (hb hby dc5_299)
        have V264 : Arv Z h264 bc kc .int (4 : Int32) [(.int (0 : Int32)), (.int (0 : Int32)), (.int (0 : Int32)), (.int c3)] (.int (0 : Int32)) := Arv.set Ar263 q263 S263 N263_ H263 G263 rfl W264 0 rfl (Nat.le_of_ble_eq_true rfl)
        have N264 := Fr.snoc X264 N244 g_bc
        have pre265 : ∀ t, Steps p.tables e below (T264.setTop (mkF m 112 #[.val (.ref a1), .val (.int (4 : Int32)), .val (.ref bv), .val (.int (24 : Int32)), .val (.ref bc), .val (.ref bu), .val (.int (kk + (1 : Int32))), .val (.int (-1 : Int32)), .val (.int it167)] [])) t → Steps p.tables e below (T0.setTop (mkF m 112 #[.val (.ref a1), .val (.int (4 : Int32)), .val (.ref bv), .val (.int (24 : Int32)), .val (.ref bc), .val (.ref bu), .val (.int kk), w7, w8] [])) t := fun t kt => pre246 t (by
            show Steps p.tables e below (T244.setTop (mkF m 279 #[.val (.ref a1), .val (.int (4 : Int32)), .val (.ref bv), .val (.int (24 : Int32)), .val (.ref bc), .val (.ref bu), .val (.int kk), .val (.int (0 : Int32)), .val (.int it167)] [(.int (3 : Int32)), (.int c0)])) _
            refine XS.icmpYes X244.here hx rfl (pc0 := 279) (pc' := 294) rfl (hb hby dc5_279) rfl (flt hc247).2.1 (by decide) (by decide) ?_
            refine XS.aload X244.here hx rfl (hb hby dc5_294) rfl rfl ?_
            refine XS.iload X244.here hx rfl (hb hby dc5_296) rfl ?_
            refine XS.iconst X244.here hx rfl (hb hby dc5_298) ?_
            refine st264 _ ?_
            refine XS.iinc X264.here hx rfl (hb hby dc5_300) rfl (l' := #[.val (.ref a1), .val (.int (4 : Int32)), .val (.ref bv), .val (.int (24 : Int32)), .val (.ref bc), .val (.ref bu), .val (.int kk), .val (.int (-1 : Int32)), .val (.int it167)]) rfl ?_
            refine XS.goto X264.here hx rfl (pc0 := 303) (pc' := 263) rfl (hb hby dc5_303) (by decide) (by decide) ?_
            refine XS.iload X264.here hx rfl (hb hby dc5_263) rfl ?_
            show Steps p.tables e below (T264.setTop (mkF m 265 #[.val (.ref a1), .val (.int (4 : Int32)), .val (.ref bv), .val (.int (24 : Int32)), .val (.ref bc), .val (.ref bu), .val (.int kk), .val (.int (-1 : Int32)), .val (.int it167)] [(.int (-1 : Int32))])) _
            refine XS.ifYes X264.here hx rfl (pc0 := 265) (pc' := 306) rfl (hb hby dc5_265) rfl (by decide) (by decide) (by decide) ?_
            refine XS.iinc X264.here hx rfl (hb hby dc5_306) rfl (l' := #[.val (.ref a1), .val (.int (4 : Int32)), .val (.ref bv), .val (.int (24 : Int32)), .val (.ref bc), .val (.ref bu), .val (.int (kk + (1 : Int32))), .val (.int (-1 : Int32)), .val (.int it167)]) rfl ?_
            refine XS.goto X264.here hx rfl (pc0 := 309) (pc' := 112) rfl (hb hby dc5_309) (by decide) (by decide) ?_
            exact kt)
        have K266 : Keep h0 h264 [bp, bs, bc, bu] := (Keep.wr (Keep.wr (Keep.wr (Keep.wr (Keep.wr (Keep.wr (Keep.wr (Keep.trans (Keep.wr (Keep.trans (Keep.wr (Keep.trans (Keep.wr (Keep.trans (Keep.wr (Keep.wr (Keep.wr (Keep.wr (Keep.refl h0 [bp, bs, bc, bu]) W103 (Or.inl (List.mem_of_getElem? (i := 3) rfl))) W105 (Or.inl (List.mem_of_getElem? (i := 3) rfl))) W107 (Or.inl (List.mem_of_getElem? (i := 3) rfl))) W109 (Or.inl (List.mem_of_getElem? (i := 3) rfl))) K117 (allS (P := fun x => x ∈ [bp, bs, bc, bu] ∨ h0.size ≤ x) (Or.inl (List.mem_of_getElem? (i := 3) rfl)) all0)) W127 (Or.inl (List.mem_of_getElem? (i := 0) rfl))) K136 (allS (P := fun x => x ∈ [bp, bs, bc, bu] ∨ h0.size ≤ x) (Or.inl (List.mem_of_getElem? (i := 3) rfl)) all0)) W145 (Or.inl (List.mem_of_getElem? (i := 0) rfl))) K154 (allS (P := fun x => x ∈ [bp, bs, bc, bu] ∨ h0.size ≤ x) (Or.inl (List.mem_of_getElem? (i := 3) rfl)) all0)) W162 (Or.inl (List.mem_of_getElem? (i := 0) rfl))) K171 (allS (P := fun x => x ∈ [bp, bs, bc, bu] ∨ h0.size ≤ x) (Or.inl (List.mem_of_getElem? (i := 3) rfl)) all0)) W178 (Or.inl (List.mem_of_getElem? (i := 0) rfl))) W187 (Or.inl (List.mem_of_getElem? (i := 1) rfl))) W195 (Or.inl (List.mem_of_getElem? (i := 1) rfl))) W203 (Or.inl (List.mem_of_getElem? (i := 1) rfl))) W224 (Or.inl (List.mem_of_getElem? (i := 2) rfl))) W244 (Or.inl (List.mem_of_getElem? (i := 2) rfl))) W264 (Or.inl (List.mem_of_getElem? (i := 2) rfl)))
        have O267 : Old Z n0 h264 := ((((O198.wr W203 g_bs).wr W224 g_bc).wr W244 g_bc).wr W264 g_bc)
        have f268 := (((((((V171.other W178 (Ne.symm ne_bp_bu)).other W187 (Ne.symm ne_bs_bu)).other W195 (Ne.symm ne_bs_bu)).other W203 (Ne.symm ne_bs_bu)).other W224 (Ne.symm ne_bc_bu)).other W244 (Ne.symm ne_bc_bu)).other W264 (Ne.symm ne_bc_bu))
        have f269 := ((((((A178.other W187 ne_bp_bs).other W195 ne_bp_bs).other W203 ne_bp_bs).other W224 ne_bp_bc).other W244 ne_bp_bc).other W264 ne_bp_bc)
        have f270 := (((A203.other W224 ne_bs_bc).other W244 ne_bs_bc).other W264 ne_bs_bc)
        have f271 := ((((f200.other W203 ne_bv_bs).other W224 ne_bv_bc).other W244 ne_bv_bc).other W264 ne_bv_bc)
        have f272 := ((((((((((((((((((Eo.wr W103).wr W105).wr W107).wr W109).keep K117).wr W127).keep K136).wr W145).keep K154).wr W162).keep K171).wr W178).wr W187).wr W195).wr W203).wr W224).wr W244).wr W264)
        have f273 := ((((((((((((((((((Fi.other W103 (Or.inl ne_a1_bu)).other W105 (Or.inl ne_a1_bu)).other W107 (Or.inl ne_a1_bu)).other W109 (Or.inl ne_a1_bu)).keep K117 (ninS ne_a1_bu nin0)).other W127 (Or.inl ne_a1_bp)).keep K136 (ninS ne_a1_bu nin0)).other W145 (Or.inl ne_a1_bp)).keep K154 (ninS ne_a1_bu nin0)).other W162 (Or.inl ne_a1_bp)).keep K171 (ninS ne_a1_bu nin0)).other W178 (Or.inl ne_a1_bp)).other W187 (Or.inl ne_a1_bs)).other W195 (Or.inl ne_a1_bs)).other W203 (Or.inl ne_a1_bs)).other W224 (Or.inl ne_a1_bc)).other W244 (Or.inl ne_a1_bc)).other W264 (Or.inl ne_a1_bc))
        have f274 := (((((((f174.other W178 (Or.inl ne_a1_bp)).other W187 (Or.inl ne_a1_bs)).other W195 (Or.inl ne_a1_bs)).other W203 (Or.inl ne_a1_bs)).other W224 (Or.inl ne_a1_bc)).other W244 (Or.inl ne_a1_bc)).other W264 (Or.inl ne_a1_bc))
        have f275 := (((((((f172.other W178 (Or.inl ne_a1_bp)).other W187 (Or.inl ne_a1_bs)).other W195 (Or.inl ne_a1_bs)).other W203 (Or.inl ne_a1_bs)).other W224 (Or.inl ne_a1_bc)).other W244 (Or.inl ne_a1_bc)).other W264 (Or.inl ne_a1_bc))
        have f276 := ((((f196.other W203 (Or.inl ne_a1_bs)).other W224 (Or.inl ne_a1_bc)).other W244 (Or.inl ne_a1_bc)).other W264 (Or.inl ne_a1_bc))
        subst hkk
        subst hc0 hc1 hc2 hc3
        obtain ⟨r0, r1, r2, r3⟩ := own_in4_3 k hc207 hc227 hc247
        have Vz : Arv Z h264 bc kc .int (4 : Int32) [(.int (own_d4_0 (k.val + 1))), (.int (own_d4_1 (k.val + 1))), (.int (own_d4_2 (k.val + 1))), (.int (own_d4_3 (k.val + 1)))] (.int (0 : Int32)) := by
          rw [← r0, ← r1, ← r2, ← r3]; exact V264
        refine ⟨_, _, _, .val (.int (-1 : Int32)), .val (.int it167), X264, e264, N264, O267, K266, f272, f273, f274, f275, f276, f271, Vz, ⟨_, _, _, _, f268⟩, ?_, ?_, One.val rfl, One.val rfl, ?_⟩
        · subst hit113 hu118 hu119 hu120 hit132 hu137 hu138 hit150 hu155 hit167; exact f269
        · subst hit113 hu118 hu119 hu120 hit132 hu137 hu138 hit150 hu155 hit167; exact f270
        · intro t kt; refine pre265 t ?_; rw [own_next]; exact kt
set_option maxRecDepth 65536 in
set_option maxHeartbeats 40000000 in
theorem lv4 {p : Program} {l : Launch} {e : Env} {s : State} {m : MethodId} {args : Array Value} {below : List Frame} {meth : Method} {c : Code} {T0 : State} {locs : List Loc} {Z : State} {a0 : Array Value} {h0 : Heap} {n0 : Nat} (a1 bv bp bs bc bu : Addr) (w7 w8 : Slot)
    (X0 : Stand p l e ({ frames := 2, cells := 5, slots := 180, locals := 60 } : Room) s m args below meth c T0 locs 5 180) (hx : p.tables.exec = Jvm.exec) (hZ : Z.Warmed39 s.vm) (hw : ∀ d ∈ tables_1, d.before a0 Z = true) (hby : c.code = prog_26_method_1_code) (hml : c.maxLocals = 9) (hown : s.vm.findClass "com/example/frontward/frontward/offline/Orderings" = some m.cls) (e0 : T0.heap = h0) (N0 : Fr n0 locs) (O0 : Old Z n0 h0) (Fc : Fld Z h0 a1 "com/example/frontward/frontward/offline/Orderings" "count" "I" (.int (24 : Int32))) :
    ∃ (T' : State), Stand p l e ({ frames := 2, cells := 5, slots := 180, locals := 60 } : Room) s m args below meth c T' locs 5 180 ∧ T'.heap = h0 ∧ ∀ t, Steps p.tables e below (T'.setTop (mkF m 312 #[.val (.ref a1), .val (.int (4 : Int32)), .val (.ref bv), .val (.int (24 : Int32)), .val (.ref bc), .val (.ref bu), .val (.int (24 : Int32)), w7, w8] [])) t → Steps p.tables e below (T0.setTop (mkF m 112 #[.val (.ref a1), .val (.int (4 : Int32)), .val (.ref bv), .val (.int (24 : Int32)), .val (.ref bc), .val (.ref bu), .val (.int (24 : Int32)), w7, w8] [])) t := by
  have pre0 : ∀ t, Steps p.tables e below (T0.setTop (mkF m 112 #[.val (.ref a1), .val (.int (4 : Int32)), .val (.ref bv), .val (.int (24 : Int32)), .val (.ref bc), .val (.ref bu), .val (.int (24 : Int32)), w7, w8] [])) t → Steps p.tables e below (T0.setTop (mkF m 112 #[.val (.ref a1), .val (.int (4 : Int32)), .val (.ref bv), .val (.int (24 : Int32)), .val (.ref bc), .val (.ref bu), .val (.int (24 : Int32)), w7, w8] [])) t := fun _ k => k
  obtain ⟨T101, X101, e101, st101⟩ := getF X0 hx hZ hown (host := "") (Or.inl (hw _ (List.mem_of_getElem? (i := 12) rfl))) Via.refl e0 Fc (g := (mkF m 115 #[.val (.ref a1), .val (.int (4 : Int32)), .val (.ref bv), .val (.int (24 : Int32)), .val (.ref bc), .val (.ref bu), .val (.int (24 : Int32)), w7, w8] [(.ref a1), (.int (24 : Int32))])) rfl rfl (hb hby dc5_115)
  have pre102 : ∀ t, Steps p.tables e below (T101.setTop (mkF m 312 #[.val (.ref a1), .val (.int (4 : Int32)), .val (.ref bv), .val (.int (24 : Int32)), .val (.ref bc), .val (.ref bu), .val (.int (24 : Int32)), w7, w8] [])) t → Steps p.tables e below (T0.setTop (mkF m 112 #[.val (.ref a1), .val (.int (4 : Int32)), .val (.ref bv), .val (.int (24 : Int32)), .val (.ref bc), .val (.ref bu), .val (.int (24 : Int32)), w7, w8] [])) t := fun t kt => pre0 t (by
      show Steps p.tables e below (T0.setTop (mkF m 112 #[.val (.ref a1), .val (.int (4 : Int32)), .val (.ref bv), .val (.int (24 : Int32)), .val (.ref bc), .val (.ref bu), .val (.int (24 : Int32)), w7, w8] [])) _
      refine XS.iload X0.here hx rfl (hb hby dc5_112) rfl ?_
      refine XS.aloadN X0.here hx rfl (hb hby dc5_114) rfl rfl ?_
      refine st101 _ ?_
      show Steps p.tables e below (T101.setTop (mkF m 118 #[.val (.ref a1), .val (.int (4 : Int32)), .val (.ref bv), .val (.int (24 : Int32)), .val (.ref bc), .val (.ref bu), .val (.int (24 : Int32)), w7, w8] [(.int (24 : Int32)), (.int (24 : Int32))])) _
      refine XS.icmpYes X101.here hx rfl (pc0 := 118) (pc' := 312) rfl (hb hby dc5_118) rfl (by decide) (by decide) (by decide) ?_
      exact kt)
  exact ⟨_, X101, e101, pre102⟩
theorem lp4 {p : Program} {l : Launch} {e : Env} {s : State} {m : MethodId} {args : Array Value} {below : List Frame} {meth : Method} {c : Code} {Z : State} {a0 : Array Value} {n0 : Nat} (a1 bv bp bs bc bu : Addr) (kv kc ku : ClassId) (hx : p.tables.exec = Jvm.exec) (hZ : Z.Warmed39 s.vm) (hw : ∀ d ∈ tables_1, d.before a0 Z = true) (hby : c.code = prog_26_method_1_code) (hml : c.maxLocals = 9) (hown : s.vm.findClass "com/example/frontward/frontward/offline/Orderings" = some m.cls) (ne_a1_bv : a1 ≠ bv) (ne_a1_bp : a1 ≠ bp) (ne_a1_bs : a1 ≠ bs) (ne_a1_bc : a1 ≠ bc) (ne_a1_bu : a1 ≠ bu) (ne_bv_bp : bv ≠ bp) (ne_bv_bs : bv ≠ bs) (ne_bv_bc : bv ≠ bc) (ne_bv_bu : bv ≠ bu) (ne_bp_bs : bp ≠ bs) (ne_bp_bc : bp ≠ bc) (ne_bp_bu : bp ≠ bu) (ne_bs_bc : bs ≠ bc) (ne_bs_bu : bs ≠ bu) (ne_bc_bu : bc ≠ bu) (g_bp : n0 ≤ bp) (g_bs : n0 ≤ bs) (g_bc : n0 ≤ bc) (g_bu : n0 ≤ bu) :
    ∀ (j k : Nat) (T0 : State) (h0 : Heap) (locs : List Loc) (w7 w8 : Slot), k + j = 24 → Stand p l e ({ frames := 2, cells := 5, slots := 180, locals := 60 } : Room) s m args below meth c T0 locs 5 180 → T0.heap = h0 → Fr n0 locs → Old Z n0 h0 → (One w7) → (One w8) → (Exa Z h0 a1 "com/example/frontward/frontward/offline/Orderings") → (Fld Z h0 a1 "com/example/frontward/frontward/offline/Orderings" "items" "I" (.int (4 : Int32))) → (Fld Z h0 a1 "com/example/frontward/frontward/offline/Orderings" "count" "I" (.int (24 : Int32))) → (Fld Z h0 a1 "com/example/frontward/frontward/offline/Orderings" "positions" "[B" (.ref bp)) → (Fld Z h0 a1 "com/example/frontward/frontward/offline/Orderings" "swaps" "[I" (.ref bs)) → (Arv Z h0 bv kv .int (4 : Int32) [(.int (6 : Int32)), (.int (2 : Int32)), (.int (1 : Int32)), (.int (1 : Int32))] (.int (0 : Int32))) → (Arv Z h0 bc kc .int (4 : Int32) [(.int (own_d4_0 k)), (.int (own_d4_1 k)), (.int (own_d4_2 k)), (.int (own_d4_3 k))] (.int (0 : Int32))) → (∃ q0 q1 q2 q3 : Int32, Arv Z h0 bu ku .int (4 : Int32) [(.int q0), (.int q1), (.int q2), (.int q3)] (.int (0 : Int32))) → (La Z h0 bp .byte (96 : Int32) (own_P4 k)) → (La Z h0 bs .int (72 : Int32) (own_S4 k)) →
    ∃ (T' : State) (h' : Heap) (L' : List Loc) (w7' w8' : Slot), Stand p l e ({ frames := 2, cells := 5, slots := 180, locals := 60 } : Room) s m args below meth c T' L' 5 180 ∧ T'.heap = h' ∧ Fr n0 L' ∧ Old Z n0 h' ∧ Keep h0 h' [bp, bs, bc, bu] ∧ Exa Z h' a1 "com/example/frontward/frontward/offline/Orderings" ∧ Fld Z h' a1 "com/example/frontward/frontward/offline/Orderings" "items" "I" (.int (4 : Int32)) ∧ Fld Z h' a1 "com/example/frontward/frontward/offline/Orderings" "count" "I" (.int (24 : Int32)) ∧ Fld Z h' a1 "com/example/frontward/frontward/offline/Orderings" "positions" "[B" (.ref bp) ∧ Fld Z h' a1 "com/example/frontward/frontward/offline/Orderings" "swaps" "[I" (.ref bs) ∧ La Z h' bp .byte (96 : Int32) (own_P4 24) ∧ La Z h' bs .int (72 : Int32) (own_S4 24) ∧ ∀ t, Steps p.tables e below (T'.setTop (mkF m 312 #[.val (.ref a1), .val (.int (4 : Int32)), .val (.ref bv), .val (.int (24 : Int32)), .val (.ref bc), .val (.ref bu), .val (.int (24 : Int32)), w7', w8'] [])) t → Steps p.tables e below (T0.setTop (mkF m 112 #[.val (.ref a1), .val (.int (4 : Int32)), .val (.ref bv), .val (.int (24 : Int32)), .val (.ref bc), .val (.ref bu), .val (.int (Int32.ofNat k)), w7, w8] [])) t := by
  intro j
  induction j with
  | zero =>
    intro k T0 h0 locs w7 w8 hk X0 e0 N0 O0 hw7 hw8 Eo Fi Fc Fp Fs Vv Vc Vu Lp Ls
    have hk' : k = 24 := by omega
    subst hk'
    obtain ⟨T', X', e', st⟩ := lv4 a1 bv bp bs bc bu w7 w8 X0 hx hZ hw hby hml hown e0 N0 O0 Fc
    exact ⟨T', h0, locs, w7, w8, X', e', N0, O0, Keep.refl _ _, Eo, Fi, Fc, Fp, Fs, Lp, Ls, st⟩
  | succ j ih =>
    intro k T0 h0 locs w7 w8 hk X0 e0 N0 O0 hw7 hw8 Eo Fi Fc Fp Fs Vv Vc Vu Lp Ls
    obtain ⟨q0, q1, q2, q3, Vu⟩ := Vu
    obtain ⟨T1, h1, L1, x7, x8, X1, e1, N1, O1, K1, Eo1, Fi1, Fc1, Fp1, Fs1, Vv1, Vc1, Vu1, Lp1, Ls1, o7, o8, st1⟩ := tn4 a1 bv bp bs bc bu kv kc ku w7 w8 ⟨k, by omega⟩ (Int32.ofNat k) (own_d4_0 k) (own_d4_1 k) (own_d4_2 k) (own_d4_3 k) q0 q1 q2 q3 (own_P4 k) (own_S4 k) X0 hx hZ hw hby hml hown e0 N0 O0 hw7 hw8 Eo Fi Fc Fp Fs Vv Vc Vu Lp Ls ne_a1_bv ne_a1_bp ne_a1_bs ne_a1_bc ne_a1_bu ne_bv_bp ne_bv_bs ne_bv_bc ne_bv_bu ne_bp_bs ne_bp_bc ne_bp_bu ne_bs_bc ne_bs_bu ne_bc_bu g_bp g_bs g_bc g_bu rfl rfl rfl rfl rfl
    obtain ⟨T2, h2, L2, y7, y8, X2, e2, N2, O2, K2, Eo2, Fi2, Fc2, Fp2, Fs2, Lp2, Ls2, st2⟩ := ih (k + 1) T1 h1 L1 x7 x8 (by omega) X1 e1 N1 O1 o7 o8 Eo1 Fi1 Fc1 Fp1 Fs1 Vv1 Vc1 Vu1 Lp1 Ls1
    exact ⟨T2, h2, L2, y7, y8, X2, e2, N2, O2, Keep.trans K1 K2 (fun x hx => Or.inl hx), Eo2, Fi2, Fc2, Fp2, Fs2, Lp2, Ls2, fun t kt => st1 t (st2 t kt)⟩
def QC4 (Z : State) (a1 : Addr) (h0 : Heap) (n0 : Nat) (v : Option Value) (h : Heap) (L : List Loc) : Prop := v = none ∧ Fr n0 L ∧ Keep h0 h [a1] ∧ ∃ bp bs : Addr, Exa Z h a1 "com/example/frontward/frontward/offline/Orderings" ∧ Fld Z h a1 "com/example/frontward/frontward/offline/Orderings" "items" "I" (.int (4 : Int32)) ∧ Fld Z h a1 "com/example/frontward/frontward/offline/Orderings" "count" "I" (.int (24 : Int32)) ∧ Fld Z h a1 "com/example/frontward/frontward/offline/Orderings" "positions" "[B" (.ref bp) ∧ Fld Z h a1 "com/example/frontward/frontward/offline/Orderings" "swaps" "[I" (.ref bs) ∧ La Z h bp .byte (96 : Int32) own_PL4 ∧ La Z h bs .int (72 : Int32) own_SL4
set_option maxRecDepth 65536 in
set_option maxHeartbeats 40000000 in
theorem rmC4 (l : Launch) (Z : State) (a0 : Array Value) (hw : ∀ d ∈ tables_1, d.before a0 Z = true) (ws : List Jvm.Cond) (a1 : Addr) (h0 : Heap) (n0 : Nat) (O0 : Old Z n0 h0) (E1 : Exa Z h0 a1 "com/example/frontward/frontward/offline/Orderings") (F_items : Fld Z h0 a1 "com/example/frontward/frontward/offline/Orderings" "items" "I" (.int (0 : Int32))) (F_count : Fld Z h0 a1 "com/example/frontward/frontward/offline/Orderings" "count" "I" (.int (0 : Int32))) (F_positions : Fld Z h0 a1 "com/example/frontward/frontward/offline/Orderings" "positions" "[B" .null) (F_swaps : Fld Z h0 a1 "com/example/frontward/frontward/offline/Orderings" "swaps" "[I" .null) (g1 : n0 ≤ a1) :
    MetFree l (⟨"com/example/frontward/frontward/offline/Orderings", "<init>", "(I)V"⟩ : MethodName) (head1 (Jvm.Cond.code (⟨"com/example/frontward/frontward/offline/Orderings", "<init>", "(I)V"⟩ : MethodName) prog_26_method_1_code 9 none :: ws) ({ frames := 2, cells := 5, slots := 180, locals := 60 } : Room)) (fun a U => a = #[(.ref a1), (.int (4 : Int32))] ∧ Z.Warmed39 U.vm ∧ U.heap = h0) (fun _ _ _ _ _ => True) (fun _ U o U' => ∃ v L, o = .returned v ∧ QC4 Z a1 h0 n0 v U'.heap L ∧ FrameEnd U o U' L ({ frames := 2, cells := 5, slots := 180, locals := 60 } : Room).cells ({ frames := 2, cells := 5, slots := 180, locals := 60 } : Room).slots) := by
  refine MetFree.of_bodySF (plainFor_of_name pn_0) hisR ?_
  intro p e s m args below meth c s₁ Bd hml0 hP hK
  obtain ⟨rfl, hZ, hh⟩ := hP
  have hx := Bd.exec
  have hby := Bd.bytes
  have hml : c.maxLocals = 9 := hml0
  have hown : s.vm.findClass "com/example/frontward/frontward/offline/Orderings" = some m.cls := findClass_of_methodNamed Bd.named
  have hnm := (name_of_methodNamed Bd.named Bd.method).1
  have X0 : Stand p l e ({ frames := 2, cells := 5, slots := 180, locals := 60 } : Room) s m #[(.ref a1), (.int (4 : Int32))] below meth c s₁ [] 0 0 := Stand.of_body Bd
  have e0 : s₁.heap = h0 := by rw [← hh, Bd.state]; rfl
  have N0 := Fr.nil n0
  have pre0 : ∀ t, Steps p.tables e below (s₁.setTop (mkF m 0 #[.val (.ref a1), .val (.int (4 : Int32)), .unset, .unset, .unset, .unset, .unset, .unset, .unset] [])) t → Steps p.tables e below (s₁.setTop (entryFrame m #[(.ref a1), (.int (4 : Int32))] 9)) t := fun t k => castTop (ef_4 m a1 (4 : Int32)) k
  obtain ⟨T101, X101, e101, st101⟩ := initO X0 hx hZ hown (hw _ (List.mem_of_getElem? (i := 6) rfl)) (hw _ (List.mem_of_getElem? (i := 7) rfl)) (hw _ (List.mem_of_getElem? (i := 8) rfl)) e0 (g := (mkF m 1 #[.val (.ref a1), .val (.int (4 : Int32)), .unset, .unset, .unset, .unset, .unset, .unset, .unset] [(.ref a1)])) rfl (by rw [hml]; rfl) rfl (hb hby dc5_1) (by decide) (W := 0) (by show 2 * 0 + _ ≤ _; exact Nat.le_of_eq rfl) (by decide)
  obtain ⟨T102, h102, k102, X102, e102, E102, A102, st102⟩ := newP X101 hx hZ (hw _ (List.mem_of_getElem? (i := 9) rfl)) e101 (g := (mkF m 30 #[.val (.ref a1), .val (.int (4 : Int32)), .unset, .unset, .unset, .unset, .unset, .unset, .unset] [(.int (4 : Int32))])) rfl (hb hby dc5_30) rfl (by decide) (cap := 4) (by decide) (by decide) (by decide) (by decide)
  obtain ⟨b102, g102⟩ : ∃ z, z = h0.size := ⟨_, rfl⟩
  rw [← g102] at A102 st102
  have gb102 : n0 ≤ b102 := by rw [g102, ← O0.1]; exact O0.2.1
  have ne102_a1 : a1 ≠ b102 := by rw [g102]; exact Nat.ne_of_lt (E1).lt
  have sz102 : h0.size ≤ b102 := by rw [g102]; exact ((Keep.refl h0 [a1])).1
  have V102 : Arv Z h102 b102 k102 .int (4 : Int32) [(.int (0 : Int32)), (.int (0 : Int32)), (.int (0 : Int32)), (.int (0 : Int32))] (.int (0 : Int32)) := (Arv.new A102 (by decide)).pad (pad_rep [] (.int (0 : Int32)) 4)
  obtain ⟨cl103, Ar103, q103, S103, N103_, H103, G103⟩ := id V102
  have hin103 : ¬ ((3 : Int32) < 0 ∨ cl103.slots.size ≤ ((3 : Int32)).toNatClampNeg) := inb_of S103 ⟨by decide, by decide⟩
  obtain ⟨T104, h104, X104, e104, W104, st104⟩ := stI X102 hx hZ e102 Ar103 (j := (3 : Int32)) hin103 (g := (mkF m 49 #[.val (.ref a1), .val (.int (4 : Int32)), .val (.ref b102), .val (.int (1 : Int32)), .val (.int (3 : Int32)), .unset, .unset, .unset, .unset] [(.int (1 : Int32)), (.int (3 : Int32)), (.ref b102)])) rfl rfl (hb hby dc5_49)
  have V104 : Arv Z h104 b102 k102 .int (4 : Int32) [(.int (0 : Int32)), (.int (0 : Int32)), (.int (0 : Int32)), (.int (1 : Int32))] (.int (0 : Int32)) := Arv.set Ar103 q103 S103 N103_ H103 G103 rfl W104 3 rfl (Nat.le_of_ble_eq_true rfl)
  have N104 := Fr.snoc X104 N0 gb102
  obtain ⟨cl105, Ar105, q105, S105, N105_, H105, G105⟩ := id V104
  have hin105 : ¬ ((2 : Int32) < 0 ∨ cl105.slots.size ≤ ((2 : Int32)).toNatClampNeg) := inb_of S105 ⟨by decide, by decide⟩
  obtain ⟨T106, h106, X106, e106, W106, st106⟩ := stI X104 hx hZ e104 Ar105 (j := (2 : Int32)) hin105 (g := (mkF m 49 #[.val (.ref a1), .val (.int (4 : Int32)), .val (.ref b102), .val (.int (1 : Int32)), .val (.int (2 : Int32)), .unset, .unset, .unset, .unset] [(.int (1 : Int32)), (.int (2 : Int32)), (.ref b102)])) rfl rfl (hb hby dc5_49)
  have V106 : Arv Z h106 b102 k102 .int (4 : Int32) [(.int (0 : Int32)), (.int (0 : Int32)), (.int (1 : Int32)), (.int (1 : Int32))] (.int (0 : Int32)) := Arv.set Ar105 q105 S105 N105_ H105 G105 rfl W106 2 rfl (Nat.le_of_ble_eq_true rfl)
  have N106 := Fr.snoc X106 N104 gb102
  obtain ⟨cl107, Ar107, q107, S107, N107_, H107, G107⟩ := id V106
  have hin107 : ¬ ((1 : Int32) < 0 ∨ cl107.slots.size ≤ ((1 : Int32)).toNatClampNeg) := inb_of S107 ⟨by decide, by decide⟩
  obtain ⟨T108, h108, X108, e108, W108, st108⟩ := stI X106 hx hZ e106 Ar107 (j := (1 : Int32)) hin107 (g := (mkF m 49 #[.val (.ref a1), .val (.int (4 : Int32)), .val (.ref b102), .val (.int (2 : Int32)), .val (.int (1 : Int32)), .unset, .unset, .unset, .unset] [(.int (2 : Int32)), (.int (1 : Int32)), (.ref b102)])) rfl rfl (hb hby dc5_49)
  have V108 : Arv Z h108 b102 k102 .int (4 : Int32) [(.int (0 : Int32)), (.int (2 : Int32)), (.int (1 : Int32)), (.int (1 : Int32))] (.int (0 : Int32)) := Arv.set Ar107 q107 S107 N107_ H107 G107 rfl W108 1 rfl (Nat.le_of_ble_eq_true rfl)
  have N108 := Fr.snoc X108 N106 gb102
  obtain ⟨cl109, Ar109, q109, S109, N109_, H109, G109⟩ := id V108
  have hin109 : ¬ ((0 : Int32) < 0 ∨ cl109.slots.size ≤ ((0 : Int32)).toNatClampNeg) := inb_of S109 ⟨by decide, by decide⟩
  obtain ⟨T110, h110, X110, e110, W110, st110⟩ := stI X108 hx hZ e108 Ar109 (j := (0 : Int32)) hin109 (g := (mkF m 49 #[.val (.ref a1), .val (.int (4 : Int32)), .val (.ref b102), .val (.int (6 : Int32)), .val (.int (0 : Int32)), .unset, .unset, .unset, .unset] [(.int (6 : Int32)), (.int (0 : Int32)), (.ref b102)])) rfl rfl (hb hby dc5_49)
  have V110 : Arv Z h110 b102 k102 .int (4 : Int32) [(.int (6 : Int32)), (.int (2 : Int32)), (.int (1 : Int32)), (.int (1 : Int32))] (.int (0 : Int32)) := Arv.set Ar109 q109 S109 N109_ H109 G109 rfl W110 0 rfl (Nat.le_of_ble_eq_true rfl)
  have N110 := Fr.snoc X110 N108 gb102
  have f111 := (((((E1.ext E102).wr W104).wr W106).wr W108).wr W110)
  have f112 := (((((F_items.ext E102).other W104 (Or.inl ne102_a1)).other W106 (Or.inl ne102_a1)).other W108 (Or.inl ne102_a1)).other W110 (Or.inl ne102_a1))
  obtain ⟨T113, h113, X113, e113, W113, st113⟩ := putF X110 hx hZ hown (host := "") (Or.inl (hw _ (List.mem_of_getElem? (i := 10) rfl))) Via.refl e110 f112 f111 (Or.inr ⟨(hw _ (List.mem_of_getElem? (i := 11) rfl)), rfl, hnm⟩) (hw _ (List.mem_of_getElem? (i := 1) rfl)) (ty := .int) (by decide) rfl rfl (g := (mkF m 65 #[.val (.ref a1), .val (.int (4 : Int32)), .val (.ref b102), .val (.int (24 : Int32)), .val (.int (-1 : Int32)), .unset, .unset, .unset, .unset] [(.int (4 : Int32)), (.ref a1)])) rfl rfl (hb hby dc5_65)
  have Fw113 : Fld Z h113 a1 "com/example/frontward/frontward/offline/Orderings" "items" "I" (.int (4 : Int32)) := Fld.same W113 f112
  have N113 := Fr.snoc X113 N110 g1
  have f114 := (f111.wr W113)
  have f115 := ((((((F_count.ext E102).other W104 (Or.inl ne102_a1)).other W106 (Or.inl ne102_a1)).other W108 (Or.inl ne102_a1)).other W110 (Or.inl ne102_a1)).other W113 (Or.inr (slot_ne (Or.inr (hw _ (List.mem_of_getElem? (i := 13) rfl))) (Or.inr (hw _ (List.mem_of_getElem? (i := 11) rfl))) (by decide) (t := .int) (t' := .int) (by decide) (by decide))))
  obtain ⟨T116, h116, X116, e116, W116, st116⟩ := putF X113 hx hZ hown (host := "") (Or.inl (hw _ (List.mem_of_getElem? (i := 12) rfl))) Via.refl e113 f115 f114 (Or.inr ⟨(hw _ (List.mem_of_getElem? (i := 13) rfl)), rfl, hnm⟩) (hw _ (List.mem_of_getElem? (i := 1) rfl)) (ty := .int) (by decide) rfl rfl (g := (mkF m 70 #[.val (.ref a1), .val (.int (4 : Int32)), .val (.ref b102), .val (.int (24 : Int32)), .val (.int (-1 : Int32)), .unset, .unset, .unset, .unset] [(.int (24 : Int32)), (.ref a1)])) rfl rfl (hb hby dc5_70)
  have Fw116 : Fld Z h116 a1 "com/example/frontward/frontward/offline/Orderings" "count" "I" (.int (24 : Int32)) := Fld.same W116 f115
  have N116 := Fr.snoc X116 N113 g1
  obtain ⟨T117, X117, e117, st117⟩ := getF X116 hx hZ hown (host := "") (Or.inl (hw _ (List.mem_of_getElem? (i := 12) rfl))) Via.refl e116 Fw116 (g := (mkF m 76 #[.val (.ref a1), .val (.int (4 : Int32)), .val (.ref b102), .val (.int (24 : Int32)), .val (.int (-1 : Int32)), .unset, .unset, .unset, .unset] [(.ref a1), (.int (4 : Int32)), (.ref a1)])) rfl rfl (hb hby dc5_76)
  have O118 : Old Z n0 h116 := (((((((O0.ext E102).wr W104 gb102).wr W106 gb102).wr W108 gb102).wr W110 gb102).wr W113 g1).wr W116 g1)
  obtain ⟨T119, h119, k119, X119, e119, E119, A119, st119⟩ := newP X117 hx hZ (hw _ (List.mem_of_getElem? (i := 14) rfl)) e117 (g := (mkF m 80 #[.val (.ref a1), .val (.int (4 : Int32)), .val (.ref b102), .val (.int (24 : Int32)), .val (.int (-1 : Int32)), .unset, .unset, .unset, .unset] [(.int (96 : Int32)), (.ref a1)])) rfl (hb hby dc5_80) rfl (by decide) (cap := 96) (by decide) (by decide) (by decide) (by decide)
  obtain ⟨b119, g119⟩ : ∃ z, z = h116.size := ⟨_, rfl⟩
  rw [← g119] at A119 st119
  have gb119 : n0 ≤ b119 := by rw [g119, ← O118.1]; exact O118.2.1
  have f120 := (f114.wr W116)
  have ne119_a1 : a1 ≠ b119 := by rw [g119]; exact Nat.ne_of_lt (f120).lt
  have f121 := ((V110.other W113 (Ne.symm ne102_a1)).other W116 (Ne.symm ne102_a1))
  have ne119_b102 : b102 ≠ b119 := by rw [g119]; exact Nat.ne_of_lt (f121).lt
  have K122 : Keep h0 h116 [a1] := (Keep.wr (Keep.wr (Keep.wr (Keep.wr (Keep.wr (Keep.wr (Keep.ext (Keep.refl h0 [a1]) E102) W104 (Or.inr sz102)) W106 (Or.inr sz102)) W108 (Or.inr sz102)) W110 (Or.inr sz102)) W113 (Or.inl (List.mem_of_getElem? (i := 0) rfl))) W116 (Or.inl (List.mem_of_getElem? (i := 0) rfl)))
  have sz119 : h0.size ≤ b119 := by rw [g119]; exact (K122).1
  have V119 : La Z h119 b119 .byte (96 : Int32) (List.replicate 96 0) := La.zero A119 (by decide) (by decide) rfl
  have f123 := (f120.ext E119)
  have f124 := ((((((((F_positions.ext E102).other W104 (Or.inl ne102_a1)).other W106 (Or.inl ne102_a1)).other W108 (Or.inl ne102_a1)).other W110 (Or.inl ne102_a1)).other W113 (Or.inr (slot_ne (Or.inr (hw _ (List.mem_of_getElem? (i := 16) rfl))) (Or.inr (hw _ (List.mem_of_getElem? (i := 11) rfl))) (by decide) (t := (.array .byte)) (t' := .int) (by decide) (by decide)))).other W116 (Or.inr (slot_ne (Or.inr (hw _ (List.mem_of_getElem? (i := 16) rfl))) (Or.inr (hw _ (List.mem_of_getElem? (i := 13) rfl))) (by decide) (t := (.array .byte)) (t' := .int) (by decide) (by decide)))).ext E119)
  obtain ⟨T125, h125, X125, e125, W125, st125⟩ := putF X119 hx hZ hown (host := "") (Or.inl (hw _ (List.mem_of_getElem? (i := 15) rfl))) Via.refl e119 f124 f123 (Or.inr ⟨(hw _ (List.mem_of_getElem? (i := 16) rfl)), rfl, hnm⟩) (hw _ (List.mem_of_getElem? (i := 1) rfl)) (ty := (.array .byte)) (by decide) rfl rfl (g := (mkF m 82 #[.val (.ref a1), .val (.int (4 : Int32)), .val (.ref b102), .val (.int (24 : Int32)), .val (.int (-1 : Int32)), .unset, .unset, .unset, .unset] [(.ref b119), (.ref a1)])) rfl rfl (hb hby dc5_82)
  have Fw125 : Fld Z h125 a1 "com/example/frontward/frontward/offline/Orderings" "positions" "[B" (.ref b119) := Fld.same W125 f124
  have N125 := Fr.snoc X125 N116 g1
  have f126 := ((Fw116.ext E119).other W125 (Or.inr (slot_ne (Or.inr (hw _ (List.mem_of_getElem? (i := 13) rfl))) (Or.inr (hw _ (List.mem_of_getElem? (i := 16) rfl))) (by decide) (t := .int) (t' := (.array .byte)) (by decide) (by decide))))
  obtain ⟨T127, X127, e127, st127⟩ := getF X125 hx hZ hown (host := "") (Or.inl (hw _ (List.mem_of_getElem? (i := 12) rfl))) Via.refl e125 f126 (g := (mkF m 90 #[.val (.ref a1), .val (.int (4 : Int32)), .val (.ref b102), .val (.int (24 : Int32)), .val (.int (-1 : Int32)), .unset, .unset, .unset, .unset] [(.ref a1), (.int (3 : Int32)), (.ref a1)])) rfl rfl (hb hby dc5_90)
  have O128 : Old Z n0 h125 := ((O118.ext E119).wr W125 g1)
  obtain ⟨T129, h129, k129, X129, e129, E129, A129, st129⟩ := newP X127 hx hZ (hw _ (List.mem_of_getElem? (i := 9) rfl)) e127 (g := (mkF m 94 #[.val (.ref a1), .val (.int (4 : Int32)), .val (.ref b102), .val (.int (24 : Int32)), .val (.int (-1 : Int32)), .unset, .unset, .unset, .unset] [(.int (72 : Int32)), (.ref a1)])) rfl (hb hby dc5_94) rfl (by decide) (cap := 72) (by decide) (by decide) (by decide) (by decide)
  obtain ⟨b129, g129⟩ : ∃ z, z = h125.size := ⟨_, rfl⟩
  rw [← g129] at A129 st129
  have gb129 : n0 ≤ b129 := by rw [g129, ← O128.1]; exact O128.2.1
  have f130 := (f123.wr W125)
  have ne129_a1 : a1 ≠ b129 := by rw [g129]; exact Nat.ne_of_lt (f130).lt
  have f131 := ((f121.ext E119).other W125 (Ne.symm ne102_a1))
  have ne129_b102 : b102 ≠ b129 := by rw [g129]; exact Nat.ne_of_lt (f131).lt
  have f132 := (V119.other W125 (Ne.symm ne119_a1))
  have ne129_b119 : b119 ≠ b129 := by rw [g129]; exact Nat.ne_of_lt (f132).lt
  have K133 : Keep h0 h125 [a1] := (Keep.wr (Keep.ext K122 E119) W125 (Or.inl (List.mem_of_getElem? (i := 0) rfl)))
  have sz129 : h0.size ≤ b129 := by rw [g129]; exact (K133).1
  have V129 : La Z h129 b129 .int (72 : Int32) (List.replicate 72 0) := La.zero A129 (by decide) (by decide) rfl
  have f134 := (f130.ext E129)
  have f135 := ((((((((((F_swaps.ext E102).other W104 (Or.inl ne102_a1)).other W106 (Or.inl ne102_a1)).other W108 (Or.inl ne102_a1)).other W110 (Or.inl ne102_a1)).other W113 (Or.inr (slot_ne (Or.inr (hw _ (List.mem_of_getElem? (i := 18) rfl))) (Or.inr (hw _ (List.mem_of_getElem? (i := 11) rfl))) (by decide) (t := (.array .int)) (t' := .int) (by decide) (by decide)))).other W116 (Or.inr (slot_ne (Or.inr (hw _ (List.mem_of_getElem? (i := 18) rfl))) (Or.inr (hw _ (List.mem_of_getElem? (i := 13) rfl))) (by decide) (t := (.array .int)) (t' := .int) (by decide) (by decide)))).ext E119).other W125 (Or.inr (slot_ne (Or.inr (hw _ (List.mem_of_getElem? (i := 18) rfl))) (Or.inr (hw _ (List.mem_of_getElem? (i := 16) rfl))) (by decide) (t := (.array .int)) (t' := (.array .byte)) (by decide) (by decide)))).ext E129)
  obtain ⟨T136, h136, X136, e136, W136, st136⟩ := putF X129 hx hZ hown (host := "") (Or.inl (hw _ (List.mem_of_getElem? (i := 17) rfl))) Via.refl e129 f135 f134 (Or.inr ⟨(hw _ (List.mem_of_getElem? (i := 18) rfl)), rfl, hnm⟩) (hw _ (List.mem_of_getElem? (i := 1) rfl)) (ty := (.array .int)) (by decide) rfl rfl (g := (mkF m 96 #[.val (.ref a1), .val (.int (4 : Int32)), .val (.ref b102), .val (.int (24 : Int32)), .val (.int (-1 : Int32)), .unset, .unset, .unset, .unset] [(.ref b129), (.ref a1)])) rfl rfl (hb hby dc5_96)
  have Fw136 : Fld Z h136 a1 "com/example/frontward/frontward/offline/Orderings" "swaps" "[I" (.ref b129) := Fld.same W136 f135
  have N136 := Fr.snoc X136 N125 g1
  have O137 : Old Z n0 h136 := ((O128.ext E129).wr W136 g1)
  obtain ⟨T138, h138, k138, X138, e138, E138, A138, st138⟩ := newP X136 hx hZ (hw _ (List.mem_of_getElem? (i := 9) rfl)) e136 (g := (mkF m 100 #[.val (.ref a1), .val (.int (4 : Int32)), .val (.ref b102), .val (.int (24 : Int32)), .val (.int (-1 : Int32)), .unset, .unset, .unset, .unset] [(.int (4 : Int32))])) rfl (hb hby dc5_100) rfl (by decide) (cap := 4) (by decide) (by decide) (by decide) (by decide)
  obtain ⟨b138, g138⟩ : ∃ z, z = h136.size := ⟨_, rfl⟩
  rw [← g138] at A138 st138
  have gb138 : n0 ≤ b138 := by rw [g138, ← O137.1]; exact O137.2.1
  have f139 := (f134.wr W136)
  have ne138_a1 : a1 ≠ b138 := by rw [g138]; exact Nat.ne_of_lt (f139).lt
  have f140 := ((f131.ext E129).other W136 (Ne.symm ne102_a1))
  have ne138_b102 : b102 ≠ b138 := by rw [g138]; exact Nat.ne_of_lt (f140).lt
  have f141 := ((f132.ext E129).other W136 (Ne.symm ne119_a1))
  have ne138_b119 : b119 ≠ b138 := by rw [g138]; exact Nat.ne_of_lt (f141).lt
  have f142 := (V129.other W136 (Ne.symm ne129_a1))
  have ne138_b129 : b129 ≠ b138 := by rw [g138]; exact Nat.ne_of_lt (f142).lt
  have K143 : Keep h0 h136 [a1] := (Keep.wr (Keep.ext K133 E129) W136 (Or.inl (List.mem_of_getElem? (i := 0) rfl)))
  have sz138 : h0.size ≤ b138 := by rw [g138]; exact (K143).1
  have V138 : Arv Z h138 b138 k138 .int (4 : Int32) [(.int (0 : Int32)), (.int (0 : Int32)), (.int (0 : Int32)), (.int (0 : Int32))] (.int (0 : Int32)) := (Arv.new A138 (by decide)).pad (pad_rep [] (.int (0 : Int32)) 4)
  have O144 : Old Z n0 h138 := (O137.ext E138)
  obtain ⟨T145, h145, k145, X145, e145, E145, A145, st145⟩ := newP X138 hx hZ (hw _ (List.mem_of_getElem? (i := 9) rfl)) e138 (g := (mkF m 105 #[.val (.ref a1), .val (.int (4 : Int32)), .val (.ref b102), .val (.int (24 : Int32)), .val (.ref b138), .unset, .unset, .unset, .unset] [(.int (4 : Int32))])) rfl (hb hby dc5_105) rfl (by decide) (cap := 4) (by decide) (by decide) (by decide) (by decide)
  obtain ⟨b145, g145⟩ : ∃ z, z = h138.size := ⟨_, rfl⟩
  rw [← g145] at A145 st145
  have gb145 : n0 ≤ b145 := by rw [g145, ← O144.1]; exact O144.2.1
  have f146 := (f139.ext E138)
  have ne145_a1 : a1 ≠ b145 := by rw [g145]; exact Nat.ne_of_lt (f146).lt
  have f147 := (f140.ext E138)
  have ne145_b102 : b102 ≠ b145 := by rw [g145]; exact Nat.ne_of_lt (f147).lt
  have f148 := (f141.ext E138)
  have ne145_b119 : b119 ≠ b145 := by rw [g145]; exact Nat.ne_of_lt (f148).lt
  have f149 := (f142.ext E138)
  have ne145_b129 : b129 ≠ b145 := by rw [g145]; exact Nat.ne_of_lt (f149).lt
  have ne145_b138 : b138 ≠ b145 := by rw [g145]; exact Nat.ne_of_lt (V138).lt
  have K150 : Keep h0 h138 [a1] := (Keep.ext K143 E138)
  have sz145 : h0.size ≤ b145 := by rw [g145]; exact (K150).1
  have V145 : Arv Z h145 b145 k145 .int (4 : Int32) [(.int (0 : Int32)), (.int (0 : Int32)), (.int (0 : Int32)), (.int (0 : Int32))] (.int (0 : Int32)) := (Arv.new A145 (by decide)).pad (pad_rep [] (.int (0 : Int32)) 4)
  have pre151 : ∀ t, Steps p.tables e below (T145.setTop (mkF m 112 #[.val (.ref a1), .val (.int (4 : Int32)), .val (.ref b102), .val (.int (24 : Int32)), .val (.ref b138), .val (.ref b145), .val (.int (0 : Int32)), .unset, .unset] [])) t → Steps p.tables e below (s₁.setTop (entryFrame m #[(.ref a1), (.int (4 : Int32))] 9)) t := fun t kt => pre0 t (by
      show Steps p.tables e below (s₁.setTop (mkF m 0 #[.val (.ref a1), .val (.int (4 : Int32)), .unset, .unset, .unset, .unset, .unset, .unset, .unset] [])) _
      refine XS.aloadN X0.here hx rfl (hb hby dc5_0) rfl rfl ?_
      refine st101 _ ?_
      refine XS.iloadN X101.here hx rfl (hb hby dc5_4) rfl ?_
      refine XS.iconst X101.here hx rfl (hb hby dc5_5) ?_
      show Steps p.tables e below (T101.setTop (mkF m 6 #[.val (.ref a1), .val (.int (4 : Int32)), .unset, .unset, .unset, .unset, .unset, .unset, .unset] [(.int (1 : Int32)), (.int (4 : Int32))])) _
      refine XS.icmpNo X101.here hx rfl (hb hby dc5_6) rfl (by decide) ?_
      refine XS.iloadN X101.here hx rfl (hb hby dc5_9) rfl ?_
      refine XS.bipush X101.here hx rfl (hb hby dc5_10) ?_
      show Steps p.tables e below (T101.setTop (mkF m 12 #[.val (.ref a1), .val (.int (4 : Int32)), .unset, .unset, .unset, .unset, .unset, .unset, .unset] [(.int (10 : Int32)), (.int (4 : Int32))])) _
      refine XS.icmpYes X101.here hx rfl (pc0 := 12) (pc' := 29) rfl (hb hby dc5_12) rfl (by decide) (by decide) (by decide) ?_
      refine XS.iloadN X101.here hx rfl (hb hby dc5_29) rfl ?_
      refine st102 _ ?_
      refine XS.astoreN X102.here hx rfl (hb hby dc5_32) rfl rfl (l' := #[.val (.ref a1), .val (.int (4 : Int32)), .val (.ref b102), .unset, .unset, .unset, .unset, .unset, .unset]) rfl ?_
      refine XS.iconst X102.here hx rfl (hb hby dc5_33) ?_
      refine XS.istoreN X102.here hx rfl (hb hby dc5_34) rfl (l' := #[.val (.ref a1), .val (.int (4 : Int32)), .val (.ref b102), .val (.int (1 : Int32)), .unset, .unset, .unset, .unset, .unset]) rfl ?_
      refine XS.iloadN X102.here hx rfl (hb hby dc5_35) rfl ?_
      refine XS.iconst X102.here hx rfl (hb hby dc5_36) ?_
      refine XS.isub X102.here hx rfl (hb hby dc5_37) rfl ?_
      refine XS.istore X102.here hx rfl (hb hby dc5_38) rfl (l' := #[.val (.ref a1), .val (.int (4 : Int32)), .val (.ref b102), .val (.int (1 : Int32)), .val (.int (3 : Int32)), .unset, .unset, .unset, .unset]) rfl ?_
      refine XS.iload X102.here hx rfl (hb hby dc5_40) rfl ?_
      show Steps p.tables e below (T102.setTop (mkF m 42 #[.val (.ref a1), .val (.int (4 : Int32)), .val (.ref b102), .val (.int (1 : Int32)), .val (.int (3 : Int32)), .unset, .unset, .unset, .unset] [(.int (3 : Int32))])) _
      refine XS.ifNo X102.here hx rfl (hb hby dc5_42) rfl (by decide) ?_
      refine XS.aloadN X102.here hx rfl (hb hby dc5_45) rfl rfl ?_
      refine XS.iload X102.here hx rfl (hb hby dc5_46) rfl ?_
      refine XS.iloadN X102.here hx rfl (hb hby dc5_48) rfl ?_
      refine st104 _ ?_
      refine XS.iloadN X104.here hx rfl (hb hby dc5_50) rfl ?_
      show Steps p.tables e below (T104.setTop (mkF m 51 #[.val (.ref a1), .val (.int (4 : Int32)), .val (.ref b102), .val (.int (1 : Int32)), .val (.int (3 : Int32)), .unset, .unset, .unset, .unset] [(.int (1 : Int32))])) _
      refine XS.iloadN X104.here hx rfl (hb hby dc5_51) rfl ?_
      refine XS.iload X104.here hx rfl (hb hby dc5_52) rfl ?_
      refine XS.isub X104.here hx rfl (hb hby dc5_54) rfl ?_
      refine XS.imul X104.here hx rfl (hb hby dc5_55) rfl ?_
      refine XS.istoreN X104.here hx rfl (hb hby dc5_56) rfl (l' := #[.val (.ref a1), .val (.int (4 : Int32)), .val (.ref b102), .val (.int (1 : Int32)), .val (.int (3 : Int32)), .unset, .unset, .unset, .unset]) rfl ?_
      refine XS.iinc X104.here hx rfl (hb hby dc5_57) rfl (l' := #[.val (.ref a1), .val (.int (4 : Int32)), .val (.ref b102), .val (.int (1 : Int32)), .val (.int (2 : Int32)), .unset, .unset, .unset, .unset]) rfl ?_
      refine XS.goto X104.here hx rfl (pc0 := 60) (pc' := 40) rfl (hb hby dc5_60) (by decide) (by decide) ?_
      refine XS.iload X104.here hx rfl (hb hby dc5_40) rfl ?_
      show Steps p.tables e below (T104.setTop (mkF m 42 #[.val (.ref a1), .val (.int (4 : Int32)), .val (.ref b102), .val (.int (1 : Int32)), .val (.int (2 : Int32)), .unset, .unset, .unset, .unset] [(.int (2 : Int32))])) _
      refine XS.ifNo X104.here hx rfl (hb hby dc5_42) rfl (by decide) ?_
      refine XS.aloadN X104.here hx rfl (hb hby dc5_45) rfl rfl ?_
      refine XS.iload X104.here hx rfl (hb hby dc5_46) rfl ?_
      refine XS.iloadN X104.here hx rfl (hb hby dc5_48) rfl ?_
      refine st106 _ ?_
      refine XS.iloadN X106.here hx rfl (hb hby dc5_50) rfl ?_
      refine XS.iloadN X106.here hx rfl (hb hby dc5_51) rfl ?_
      refine XS.iload X106.here hx rfl (hb hby dc5_52) rfl ?_
      refine XS.isub X106.here hx rfl (hb hby dc5_54) rfl ?_
      refine XS.imul X106.here hx rfl (hb hby dc5_55) rfl ?_
      refine XS.istoreN X106.here hx rfl (hb hby dc5_56) rfl (l' := #[.val (.ref a1), .val (.int (4 : Int32)), .val (.ref b102), .val (.int (2 : Int32)), .val (.int (2 : Int32)), .unset, .unset, .unset, .unset]) rfl ?_
      refine XS.iinc X106.here hx rfl (hb hby dc5_57) rfl (l' := #[.val (.ref a1), .val (.int (4 : Int32)), .val (.ref b102), .val (.int (2 : Int32)), .val (.int (1 : Int32)), .unset, .unset, .unset, .unset]) rfl ?_
      refine XS.goto X106.here hx rfl (pc0 := 60) (pc' := 40) rfl (hb hby dc5_60) (by decide) (by decide) ?_
      refine XS.iload X106.here hx rfl (hb hby dc5_40) rfl ?_
      show Steps p.tables e below (T106.setTop (mkF m 42 #[.val (.ref a1), .val (.int (4 : Int32)), .val (.ref b102), .val (.int (2 : Int32)), .val (.int (1 : Int32)), .unset, .unset, .unset, .unset] [(.int (1 : Int32))])) _
      refine XS.ifNo X106.here hx rfl (hb hby dc5_42) rfl (by decide) ?_
      refine XS.aloadN X106.here hx rfl (hb hby dc5_45) rfl rfl ?_
      refine XS.iload X106.here hx rfl (hb hby dc5_46) rfl ?_
      show Steps p.tables e below (T106.setTop (mkF m 48 #[.val (.ref a1), .val (.int (4 : Int32)), .val (.ref b102), .val (.int (2 : Int32)), .val (.int (1 : Int32)), .unset, .unset, .unset, .unset] [(.int (1 : Int32)), (.ref b102)])) _
      refine XS.iloadN X106.here hx rfl (hb hby dc5_48) rfl ?_
      refine st108 _ ?_
      refine XS.iloadN X108.here hx rfl (hb hby dc5_50) rfl ?_
      refine XS.iloadN X108.here hx rfl (hb hby dc5_51) rfl ?_
      refine XS.iload X108.here hx rfl (hb hby dc5_52) rfl ?_
      refine XS.isub X108.here hx rfl (hb hby dc5_54) rfl ?_
      refine XS.imul X108.here hx rfl (hb hby dc5_55) rfl ?_
      refine XS.istoreN X108.here hx rfl (hb hby dc5_56) rfl (l' := #[.val (.ref a1), .val (.int (4 : Int32)), .val (.ref b102), .val (.int (6 : Int32)), .val (.int (1 : Int32)), .unset, .unset, .unset, .unset]) rfl ?_
      refine XS.iinc X108.here hx rfl (hb hby dc5_57) rfl (l' := #[.val (.ref a1), .val (.int (4 : Int32)), .val (.ref b102), .val (.int (6 : Int32)), .val (.int (0 : Int32)), .unset, .unset, .unset, .unset]) rfl ?_
      refine XS.goto X108.here hx rfl (pc0 := 60) (pc' := 40) rfl (hb hby dc5_60) (by decide) (by decide) ?_
      refine XS.iload X108.here hx rfl (hb hby dc5_40) rfl ?_
      show Steps p.tables e below (T108.setTop (mkF m 42 #[.val (.ref a1), .val (.int (4 : Int32)), .val (.ref b102), .val (.int (6 : Int32)), .val (.int (0 : Int32)), .unset, .unset, .unset, .unset] [(.int (0 : Int32))])) _
      refine XS.ifNo X108.here hx rfl (hb hby dc5_42) rfl (by decide) ?_
      refine XS.aloadN X108.here hx rfl (hb hby dc5_45) rfl rfl ?_
      refine XS.iload X108.here hx rfl (hb hby dc5_46) rfl ?_
      refine XS.iloadN X108.here hx rfl (hb hby dc5_48) rfl ?_
      refine st110 _ ?_
      refine XS.iloadN X110.here hx rfl (hb hby dc5_50) rfl ?_
      refine XS.iloadN X110.here hx rfl (hb hby dc5_51) rfl ?_
      refine XS.iload X110.here hx rfl (hb hby dc5_52) rfl ?_
      refine XS.isub X110.here hx rfl (hb hby dc5_54) rfl ?_
      refine XS.imul X110.here hx rfl (hb hby dc5_55) rfl ?_
      refine XS.istoreN X110.here hx rfl (hb hby dc5_56) rfl (l' := #[.val (.ref a1), .val (.int (4 : Int32)), .val (.ref b102), .val (.int (24 : Int32)), .val (.int (0 : Int32)), .unset, .unset, .unset, .unset]) rfl ?_
      refine XS.iinc X110.here hx rfl (hb hby dc5_57) rfl (l' := #[.val (.ref a1), .val (.int (4 : Int32)), .val (.ref b102), .val (.int (24 : Int32)), .val (.int (-1 : Int32)), .unset, .unset, .unset, .unset]) rfl ?_
      refine XS.goto X110.here hx rfl (pc0 := 60) (pc' := 40) rfl (hb hby dc5_60) (by decide) (by decide) ?_
      refine XS.iload X110.here hx rfl (hb hby dc5_40) rfl ?_
      show Steps p.tables e below (T110.setTop (mkF m 42 #[.val (.ref a1), .val (.int (4 : Int32)), .val (.ref b102), .val (.int (24 : Int32)), .val (.int (-1 : Int32)), .unset, .unset, .unset, .unset] [(.int (-1 : Int32))])) _
      refine XS.ifYes X110.here hx rfl (pc0 := 42) (pc' := 63) rfl (hb hby dc5_42) rfl (by decide) (by decide) (by decide) ?_
      refine XS.aloadN X110.here hx rfl (hb hby dc5_63) rfl rfl ?_
      refine XS.iloadN X110.here hx rfl (hb hby dc5_64) rfl ?_
      refine st113 _ ?_
      refine XS.aloadN X113.here hx rfl (hb hby dc5_68) rfl rfl ?_
      refine XS.iloadN X113.here hx rfl (hb hby dc5_69) rfl ?_
      refine st116 _ ?_
      refine XS.aloadN X116.here hx rfl (hb hby dc5_73) rfl rfl ?_
      refine XS.iloadN X116.here hx rfl (hb hby dc5_74) rfl ?_
      refine XS.aloadN X116.here hx rfl (hb hby dc5_75) rfl rfl ?_
      refine st117 _ ?_
      refine XS.imul X117.here hx rfl (hb hby dc5_79) rfl ?_
      refine st119 _ ?_
      refine st125 _ ?_
      refine XS.aloadN X125.here hx rfl (hb hby dc5_85) rfl rfl ?_
      refine XS.iloadN X125.here hx rfl (hb hby dc5_86) rfl ?_
      refine XS.iconst X125.here hx rfl (hb hby dc5_87) ?_
      refine XS.isub X125.here hx rfl (hb hby dc5_88) rfl ?_
      refine XS.aloadN X125.here hx rfl (hb hby dc5_89) rfl rfl ?_
      refine st127 _ ?_
      refine XS.imul X127.here hx rfl (hb hby dc5_93) rfl ?_
      refine st129 _ ?_
      refine st136 _ ?_
      refine XS.iloadN X136.here hx rfl (hb hby dc5_99) rfl ?_
      refine st138 _ ?_
      show Steps p.tables e below (T138.setTop (mkF m 102 #[.val (.ref a1), .val (.int (4 : Int32)), .val (.ref b102), .val (.int (24 : Int32)), .val (.int (-1 : Int32)), .unset, .unset, .unset, .unset] [(.ref b138)])) _
      refine XS.astore X138.here hx rfl (hb hby dc5_102) rfl rfl (l' := #[.val (.ref a1), .val (.int (4 : Int32)), .val (.ref b102), .val (.int (24 : Int32)), .val (.ref b138), .unset, .unset, .unset, .unset]) rfl ?_
      refine XS.iloadN X138.here hx rfl (hb hby dc5_104) rfl ?_
      refine st145 _ ?_
      refine XS.astore X145.here hx rfl (hb hby dc5_107) rfl rfl (l' := #[.val (.ref a1), .val (.int (4 : Int32)), .val (.ref b102), .val (.int (24 : Int32)), .val (.ref b138), .val (.ref b145), .unset, .unset, .unset]) rfl ?_
      refine XS.iconst X145.here hx rfl (hb hby dc5_109) ?_
      refine XS.istore X145.here hx rfl (hb hby dc5_110) rfl (l' := #[.val (.ref a1), .val (.int (4 : Int32)), .val (.ref b102), .val (.int (24 : Int32)), .val (.ref b138), .val (.ref b145), .val (.int (0 : Int32)), .unset, .unset]) rfl ?_
      exact kt)
  have f152 := (f146.ext E145)
  have f153 := (((((((Fw113.other W116 (Or.inr (slot_ne (Or.inr (hw _ (List.mem_of_getElem? (i := 11) rfl))) (Or.inr (hw _ (List.mem_of_getElem? (i := 13) rfl))) (by decide) (t := .int) (t' := .int) (by decide) (by decide)))).ext E119).other W125 (Or.inr (slot_ne (Or.inr (hw _ (List.mem_of_getElem? (i := 11) rfl))) (Or.inr (hw _ (List.mem_of_getElem? (i := 16) rfl))) (by decide) (t := .int) (t' := (.array .byte)) (by decide) (by decide)))).ext E129).other W136 (Or.inr (slot_ne (Or.inr (hw _ (List.mem_of_getElem? (i := 11) rfl))) (Or.inr (hw _ (List.mem_of_getElem? (i := 18) rfl))) (by decide) (t := .int) (t' := (.array .int)) (by decide) (by decide)))).ext E138).ext E145)
  have f154 := ((((f126.ext E129).other W136 (Or.inr (slot_ne (Or.inr (hw _ (List.mem_of_getElem? (i := 13) rfl))) (Or.inr (hw _ (List.mem_of_getElem? (i := 18) rfl))) (by decide) (t := .int) (t' := (.array .int)) (by decide) (by decide)))).ext E138).ext E145)
  have f155 := ((((Fw125.ext E129).other W136 (Or.inr (slot_ne (Or.inr (hw _ (List.mem_of_getElem? (i := 16) rfl))) (Or.inr (hw _ (List.mem_of_getElem? (i := 18) rfl))) (by decide) (t := (.array .byte)) (t' := (.array .int)) (by decide) (by decide)))).ext E138).ext E145)
  have f156 := ((Fw136.ext E138).ext E145)
  have f157 := (f147.ext E145)
  have f158 := (V138.ext E145)
  have f159 := (f148.ext E145)
  have f160 := (f149.ext E145)
  have O161 : Old Z n0 h145 := (O144.ext E145)
  have K162 : Keep h0 h145 [a1] := (Keep.ext K150 E145)
  obtain ⟨TL, hL, LL, x7, x8, XL, eL, NL, OL, KL, EoL, FiL, FcL, FpL, FsL, LpL, LsL, stL⟩ := lp4 a1 b102 b119 b129 b138 b145 k102 k138 k145 hx hZ hw hby hml hown ne102_a1 ne119_a1 ne129_a1 ne138_a1 ne145_a1 ne119_b102 ne129_b102 ne138_b102 ne145_b102 ne129_b119 ne138_b119 ne145_b119 ne138_b129 ne145_b129 ne145_b138 gb119 gb129 gb138 gb145 24 0 _ _ _ _ _ rfl X145 e145 N136 O161 One.u One.u f152 f153 f154 f155 f156 f157 f158 ⟨_, _, _, _, V145⟩ f159 f160
  rw [own_PE4] at LpL
  rw [own_SE4] at LsL
  obtain ⟨fs, hr, hrun, hended, hW, hsame⟩ := XL.leave (v := none) (fun _ => rfl)
  have K163 : Keep h0 hL [a1] := (Keep.trans K162 KL (allS (P := fun x => x ∈ [a1] ∨ h0.size ≤ x) (Or.inr sz119) (allS (P := fun x => x ∈ [a1] ∨ h0.size ≤ x) (Or.inr sz129) (allS (P := fun x => x ∈ [a1] ∨ h0.size ≤ x) (Or.inr sz138) (allS (P := fun x => x ∈ [a1] ∨ h0.size ≤ x) (Or.inr sz145) all0)))))
  refine ⟨_, _, pre151 _ ?_, hrun, hended, _, _, rfl, ?_, ⟨_, rfl⟩, hW, hsame.mono (by decide) (by decide)⟩
  · skip
    refine stL _ ?_
    show Steps p.tables e below (TL.setTop (mkF m 312 #[.val (.ref a1), .val (.int (4 : Int32)), .val (.ref b102), .val (.int (24 : Int32)), .val (.ref b138), .val (.ref b145), .val (.int (24 : Int32)), x7, x8] [])) _
    exact XL.returnOut hx Bd.returns (hb hby dc5_312) hr
  · show QC4 Z a1 h0 n0 _ TL.heap _
    rw [eL]
    exact ⟨rfl, NL, K163, b119, b129, EoL, FiL, FcL, FpL, FsL, LpL, LsL⟩
def own_W4 (q f : Int32) : Prop := ¬ ((own_SL4.getD ((q * ((4 : Int32) - (1 : Int32))) + f).toNatClampNeg 0) < (0 : Int32)) ∧ (own_SL4.getD ((q * ((4 : Int32) - (1 : Int32))) + f).toNatClampNeg 0) < (24 : Int32) ∧ own_mv (own_PL4.getD ((((0 : Int32) * (24 : Int32)) + q)).toNatClampNeg 0) (own_PL4.getD ((((0 : Int32) * (24 : Int32)) + (own_SL4.getD ((q * ((4 : Int32) - (1 : Int32))) + f).toNatClampNeg 0))).toNatClampNeg 0) f = 1 ∧ own_mv (own_PL4.getD ((((1 : Int32) * (24 : Int32)) + q)).toNatClampNeg 0) (own_PL4.getD ((((1 : Int32) * (24 : Int32)) + (own_SL4.getD ((q * ((4 : Int32) - (1 : Int32))) + f).toNatClampNeg 0))).toNatClampNeg 0) f = 1 ∧ own_mv (own_PL4.getD ((((2 : Int32) * (24 : Int32)) + q)).toNatClampNeg 0) (own_PL4.getD ((((2 : Int32) * (24 : Int32)) + (own_SL4.getD ((q * ((4 : Int32) - (1 : Int32))) + f).toNatClampNeg 0))).toNatClampNeg 0) f = 1 ∧ own_mv (own_PL4.getD ((((3 : Int32) * (24 : Int32)) + q)).toNatClampNeg 0) (own_PL4.getD ((((3 : Int32) * (24 : Int32)) + (own_SL4.getD ((q * ((4 : Int32) - (1 : Int32))) + f).toNatClampNeg 0))).toNatClampNeg 0) f = 1
instance (q f : Int32) : Decidable (own_W4 q f) := by unfold own_W4; infer_instance
set_option maxRecDepth 65536 in
theorem own_w4 : ∀ k : Fin 24, ∀ f : Fin 3, own_W4 (Int32.ofNat k.val) (Int32.ofNat f.val) := by decide +kernel
def own_nth5 (c u0 u1 u2 u3 u4 : Int32) : Int32 := if c = (0 : Int32) then u0 else if c = (1 : Int32) then u1 else if c = (2 : Int32) then u2 else if c = (3 : Int32) then u3 else u4
theorem own_nb5 {c u0 u1 u2 u3 u4 : Int32} (h0 : own_bd 5 u0) (h1 : own_bd 5 u1) (h2 : own_bd 5 u2) (h3 : own_bd 5 u3) (h4 : own_bd 5 u4) : own_bd 5 (own_nth5 c u0 u1 u2 u3 u4) := by
  unfold own_nth5
  repeat' split
  all_goals assumption
def own_d5_0 (k : Nat) : Int32 := Int32.ofNat (k / 24 % 5)
theorem own_dd5_0 : ∀ k : Fin 120, own_d5_0 k.val = (0 : Int32) ∨ own_d5_0 k.val = (1 : Int32) ∨ own_d5_0 k.val = (2 : Int32) ∨ own_d5_0 k.val = (3 : Int32) ∨ own_d5_0 k.val = (4 : Int32) := by decide +kernel
theorem own_pin5_0 {c : Int32} (h : c = (0 : Int32) ∨ c = (1 : Int32) ∨ c = (2 : Int32) ∨ c = (3 : Int32) ∨ c = (4 : Int32)) : ¬ c < 0 ∧ c < (5 : Int32) := by
  rcases h with rfl | rfl | rfl | rfl | rfl <;> decide
theorem own_nl5_0 {c u0 u1 u2 u3 u4 : Int32} (h : c = (0 : Int32) ∨ c = (1 : Int32) ∨ c = (2 : Int32) ∨ c = (3 : Int32) ∨ c = (4 : Int32)) : ([(.int u0), (.int u1), (.int u2), (.int u3), (.int u4)] : List Value).getD c.toNatClampNeg (.int (0 : Int32)) = .int (own_nth5 c u0 u1 u2 u3 u4) := by
  rcases h with rfl | rfl | rfl | rfl | rfl <;> rfl
theorem own_cp5_0 {c u0 u1 u2 u3 u4 : Int32} (h : c = (0 : Int32) ∨ c = (1 : Int32) ∨ c = (2 : Int32) ∨ c = (3 : Int32) ∨ c = (4 : Int32)) : ¬ (c + (1 : Int32)) < 0 ∧ ¬ c < 0 ∧ ¬ ((4 : Int32) - c) < 0 ∧ (c + (1 : Int32)).toNatClampNeg + ((4 : Int32) - c).toNatClampNeg ≤ (5 : Int32).toNatClampNeg ∧ c.toNatClampNeg + ((4 : Int32) - c).toNatClampNeg ≤ (5 : Int32).toNatClampNeg ∧ (([(.int u0), (.int u1), (.int u2), (.int u3), (.int u4)] : List Value).take c.toNatClampNeg ++ ((List.range ((4 : Int32) - c).toNatClampNeg).map fun i => ([(.int u0), (.int u1), (.int u2), (.int u3), (.int u4)] : List Value).getD ((c + (1 : Int32)).toNatClampNeg + i) (.int (0 : Int32))) ++ ([(.int u0), (.int u1), (.int u2), (.int u3), (.int u4)] : List Value).drop (c.toNatClampNeg + ((4 : Int32) - c).toNatClampNeg)) = [(.int (own_sh c (0 : Int32) u0 u1)), (.int (own_sh c (1 : Int32) u1 u2)), (.int (own_sh c (2 : Int32) u2 u3)), (.int (own_sh c (3 : Int32) u3 u4)), (.int u4)] := by
  rcases h with rfl | rfl | rfl | rfl | rfl <;> exact ⟨by decide, by decide, by decide, by decide, by decide, rfl⟩
def own_d5_1 (k : Nat) : Int32 := Int32.ofNat (k / 6 % 4)
theorem own_dd5_1 : ∀ k : Fin 120, own_d5_1 k.val = (0 : Int32) ∨ own_d5_1 k.val = (1 : Int32) ∨ own_d5_1 k.val = (2 : Int32) ∨ own_d5_1 k.val = (3 : Int32) := by decide +kernel
theorem own_pin5_1 {c : Int32} (h : c = (0 : Int32) ∨ c = (1 : Int32) ∨ c = (2 : Int32) ∨ c = (3 : Int32)) : ¬ c < 0 ∧ c < (5 : Int32) := by
  rcases h with rfl | rfl | rfl | rfl <;> decide
theorem own_nl5_1 {c u0 u1 u2 u3 u4 : Int32} (h : c = (0 : Int32) ∨ c = (1 : Int32) ∨ c = (2 : Int32) ∨ c = (3 : Int32)) : ([(.int u0), (.int u1), (.int u2), (.int u3), (.int u4)] : List Value).getD c.toNatClampNeg (.int (0 : Int32)) = .int (own_nth5 c u0 u1 u2 u3 u4) := by
  rcases h with rfl | rfl | rfl | rfl <;> rfl
theorem own_cp5_1 {c u0 u1 u2 u3 u4 : Int32} (h : c = (0 : Int32) ∨ c = (1 : Int32) ∨ c = (2 : Int32) ∨ c = (3 : Int32)) : ¬ (c + (1 : Int32)) < 0 ∧ ¬ c < 0 ∧ ¬ ((3 : Int32) - c) < 0 ∧ (c + (1 : Int32)).toNatClampNeg + ((3 : Int32) - c).toNatClampNeg ≤ (5 : Int32).toNatClampNeg ∧ c.toNatClampNeg + ((3 : Int32) - c).toNatClampNeg ≤ (5 : Int32).toNatClampNeg ∧ (([(.int u0), (.int u1), (.int u2), (.int u3), (.int u4)] : List Value).take c.toNatClampNeg ++ ((List.range ((3 : Int32) - c).toNatClampNeg).map fun i => ([(.int u0), (.int u1), (.int u2), (.int u3), (.int u4)] : List Value).getD ((c + (1 : Int32)).toNatClampNeg + i) (.int (0 : Int32))) ++ ([(.int u0), (.int u1), (.int u2), (.int u3), (.int u4)] : List Value).drop (c.toNatClampNeg + ((3 : Int32) - c).toNatClampNeg)) = [(.int (own_sh c (0 : Int32) u0 u1)), (.int (own_sh c (1 : Int32) u1 u2)), (.int (own_sh c (2 : Int32) u2 u3)), (.int u3), (.int u4)] := by
  rcases h with rfl | rfl | rfl | rfl <;> exact ⟨by decide, by decide, by decide, by decide, by decide, rfl⟩
def own_d5_2 (k : Nat) : Int32 := Int32.ofNat (k / 2 % 3)
theorem own_dd5_2 : ∀ k : Fin 120, own_d5_2 k.val = (0 : Int32) ∨ own_d5_2 k.val = (1 : Int32) ∨ own_d5_2 k.val = (2 : Int32) := by decide +kernel
theorem own_pin5_2 {c : Int32} (h : c = (0 : Int32) ∨ c = (1 : Int32) ∨ c = (2 : Int32)) : ¬ c < 0 ∧ c < (5 : Int32) := by
  rcases h with rfl | rfl | rfl <;> decide
theorem own_nl5_2 {c u0 u1 u2 u3 u4 : Int32} (h : c = (0 : Int32) ∨ c = (1 : Int32) ∨ c = (2 : Int32)) : ([(.int u0), (.int u1), (.int u2), (.int u3), (.int u4)] : List Value).getD c.toNatClampNeg (.int (0 : Int32)) = .int (own_nth5 c u0 u1 u2 u3 u4) := by
  rcases h with rfl | rfl | rfl <;> rfl
theorem own_cp5_2 {c u0 u1 u2 u3 u4 : Int32} (h : c = (0 : Int32) ∨ c = (1 : Int32) ∨ c = (2 : Int32)) : ¬ (c + (1 : Int32)) < 0 ∧ ¬ c < 0 ∧ ¬ ((2 : Int32) - c) < 0 ∧ (c + (1 : Int32)).toNatClampNeg + ((2 : Int32) - c).toNatClampNeg ≤ (5 : Int32).toNatClampNeg ∧ c.toNatClampNeg + ((2 : Int32) - c).toNatClampNeg ≤ (5 : Int32).toNatClampNeg ∧ (([(.int u0), (.int u1), (.int u2), (.int u3), (.int u4)] : List Value).take c.toNatClampNeg ++ ((List.range ((2 : Int32) - c).toNatClampNeg).map fun i => ([(.int u0), (.int u1), (.int u2), (.int u3), (.int u4)] : List Value).getD ((c + (1 : Int32)).toNatClampNeg + i) (.int (0 : Int32))) ++ ([(.int u0), (.int u1), (.int u2), (.int u3), (.int u4)] : List Value).drop (c.toNatClampNeg + ((2 : Int32) - c).toNatClampNeg)) = [(.int (own_sh c (0 : Int32) u0 u1)), (.int (own_sh c (1 : Int32) u1 u2)), (.int u2), (.int u3), (.int u4)] := by
  rcases h with rfl | rfl | rfl <;> exact ⟨by decide, by decide, by decide, by decide, by decide, rfl⟩
def own_d5_3 (k : Nat) : Int32 := Int32.ofNat (k / 1 % 2)
theorem own_dd5_3 : ∀ k : Fin 120, own_d5_3 k.val = (0 : Int32) ∨ own_d5_3 k.val = (1 : Int32) := by decide +kernel
theorem own_pin5_3 {c : Int32} (h : c = (0 : Int32) ∨ c = (1 : Int32)) : ¬ c < 0 ∧ c < (5 : Int32) := by
  rcases h with rfl | rfl <;> decide
theorem own_nl5_3 {c u0 u1 u2 u3 u4 : Int32} (h : c = (0 : Int32) ∨ c = (1 : Int32)) : ([(.int u0), (.int u1), (.int u2), (.int u3), (.int u4)] : List Value).getD c.toNatClampNeg (.int (0 : Int32)) = .int (own_nth5 c u0 u1 u2 u3 u4) := by
  rcases h with rfl | rfl <;> rfl
theorem own_cp5_3 {c u0 u1 u2 u3 u4 : Int32} (h : c = (0 : Int32) ∨ c = (1 : Int32)) : ¬ (c + (1 : Int32)) < 0 ∧ ¬ c < 0 ∧ ¬ ((1 : Int32) - c) < 0 ∧ (c + (1 : Int32)).toNatClampNeg + ((1 : Int32) - c).toNatClampNeg ≤ (5 : Int32).toNatClampNeg ∧ c.toNatClampNeg + ((1 : Int32) - c).toNatClampNeg ≤ (5 : Int32).toNatClampNeg ∧ (([(.int u0), (.int u1), (.int u2), (.int u3), (.int u4)] : List Value).take c.toNatClampNeg ++ ((List.range ((1 : Int32) - c).toNatClampNeg).map fun i => ([(.int u0), (.int u1), (.int u2), (.int u3), (.int u4)] : List Value).getD ((c + (1 : Int32)).toNatClampNeg + i) (.int (0 : Int32))) ++ ([(.int u0), (.int u1), (.int u2), (.int u3), (.int u4)] : List Value).drop (c.toNatClampNeg + ((1 : Int32) - c).toNatClampNeg)) = [(.int (own_sh c (0 : Int32) u0 u1)), (.int u1), (.int u2), (.int u3), (.int u4)] := by
  rcases h with rfl | rfl <;> exact ⟨by decide, by decide, by decide, by decide, by decide, rfl⟩
def own_d5_4 (k : Nat) : Int32 := Int32.ofNat (k / 1 % 1)
theorem own_dd5_4 : ∀ k : Fin 120, own_d5_4 k.val = (0 : Int32) := by decide +kernel
theorem own_pin5_4 {c : Int32} (h : c = (0 : Int32)) : ¬ c < 0 ∧ c < (5 : Int32) := by
  rcases h with rfl <;> decide
theorem own_nl5_4 {c u0 u1 u2 u3 u4 : Int32} (h : c = (0 : Int32)) : ([(.int u0), (.int u1), (.int u2), (.int u3), (.int u4)] : List Value).getD c.toNatClampNeg (.int (0 : Int32)) = .int (own_nth5 c u0 u1 u2 u3 u4) := by
  rcases h with rfl <;> rfl
theorem own_cp5_4 {c u0 u1 u2 u3 u4 : Int32} (h : c = (0 : Int32)) : ¬ (c + (1 : Int32)) < 0 ∧ ¬ c < 0 ∧ ¬ ((0 : Int32) - c) < 0 ∧ (c + (1 : Int32)).toNatClampNeg + ((0 : Int32) - c).toNatClampNeg ≤ (5 : Int32).toNatClampNeg ∧ c.toNatClampNeg + ((0 : Int32) - c).toNatClampNeg ≤ (5 : Int32).toNatClampNeg ∧ (([(.int u0), (.int u1), (.int u2), (.int u3), (.int u4)] : List Value).take c.toNatClampNeg ++ ((List.range ((0 : Int32) - c).toNatClampNeg).map fun i => ([(.int u0), (.int u1), (.int u2), (.int u3), (.int u4)] : List Value).getD ((c + (1 : Int32)).toNatClampNeg + i) (.int (0 : Int32))) ++ ([(.int u0), (.int u1), (.int u2), (.int u3), (.int u4)] : List Value).drop (c.toNatClampNeg + ((0 : Int32) - c).toNatClampNeg)) = [(.int u0), (.int u1), (.int u2), (.int u3), (.int u4)] := by
  rcases h with rfl <;> exact ⟨by decide, by decide, by decide, by decide, by decide, rfl⟩
def own_tP5 (kk c0 c1 c2 c3 c4 : Int32) (P : List Int32) : List Int32 :=
  let t0 := own_nth5 c0 (0 : Int32) (1 : Int32) (2 : Int32) (3 : Int32) (4 : Int32)
  let v0_0 := own_sh c0 (0 : Int32) (0 : Int32) (1 : Int32)
  let v0_1 := own_sh c0 (1 : Int32) (1 : Int32) (2 : Int32)
  let v0_2 := own_sh c0 (2 : Int32) (2 : Int32) (3 : Int32)
  let v0_3 := own_sh c0 (3 : Int32) (3 : Int32) (4 : Int32)
  let t1 := own_nth5 c1 v0_0 v0_1 v0_2 v0_3 (4 : Int32)
  let v1_0 := own_sh c1 (0 : Int32) v0_0 v0_1
  let v1_1 := own_sh c1 (1 : Int32) v0_1 v0_2
  let v1_2 := own_sh c1 (2 : Int32) v0_2 v0_3
  let t2 := own_nth5 c2 v1_0 v1_1 v1_2 v0_3 (4 : Int32)
  let v2_0 := own_sh c2 (0 : Int32) v1_0 v1_1
  let v2_1 := own_sh c2 (1 : Int32) v1_1 v1_2
  let t3 := own_nth5 c3 v2_0 v2_1 v1_2 v0_3 (4 : Int32)
  let v3_0 := own_sh c3 (0 : Int32) v2_0 v2_1
  let t4 := own_nth5 c4 v3_0 v2_1 v1_2 v0_3 (4 : Int32)
  (((((P.set ((t0 * (120 : Int32)) + kk).toNatClampNeg (0 : Int32)).set ((t1 * (120 : Int32)) + kk).toNatClampNeg (1 : Int32)).set ((t2 * (120 : Int32)) + kk).toNatClampNeg (2 : Int32)).set ((t3 * (120 : Int32)) + kk).toNatClampNeg (3 : Int32)).set ((t4 * (120 : Int32)) + kk).toNatClampNeg (4 : Int32))
def own_tS5 (kk c0 c1 c2 c3 c4 : Int32) (S : List Int32) : List Int32 := ((((S.set ((kk * (4 : Int32)) + (0 : Int32)).toNatClampNeg (own_sw kk c0 c1 (24 : Int32) (6 : Int32))).set ((kk * (4 : Int32)) + (1 : Int32)).toNatClampNeg (own_sw kk c1 c2 (6 : Int32) (2 : Int32))).set ((kk * (4 : Int32)) + (2 : Int32)).toNatClampNeg (own_sw kk c2 c3 (2 : Int32) (1 : Int32))).set ((kk * (4 : Int32)) + (3 : Int32)).toNatClampNeg (own_sw kk c3 c4 (1 : Int32) (1 : Int32)))
def own_P5 : Nat → List Int32
  | 0 => List.replicate 600 0
  | j + 1 => own_tP5 (Int32.ofNat j) (own_d5_0 j) (own_d5_1 j) (own_d5_2 j) (own_d5_3 j) (own_d5_4 j) (own_P5 j)
def own_S5 : Nat → List Int32
  | 0 => List.replicate 480 0
  | j + 1 => own_tS5 (Int32.ofNat j) (own_d5_0 j) (own_d5_1 j) (own_d5_2 j) (own_d5_3 j) (own_d5_4 j) (own_S5 j)
def own_PL5 : List Int32 := [0, 0, 0, 0, 0, 0, 0, 0, 0, 0, 0, 0, 0, 0, 0, 0, 0, 0, 0, 0, 0, 0, 0, 0, 1, 1, 1, 1, 1, 1, 2, 2, 3, 4, 3, 4, 2, 2, 3, 4, 3, 4, 2, 2, 3, 4, 3, 4, 1, 1, 1, 1, 1, 1, 2, 2, 3, 4, 3, 4, 2, 2, 3, 4, 3, 4, 2, 2, 3, 4, 3, 4, 1, 1, 1, 1, 1, 1, 2, 2, 3, 4, 3, 4, 2, 2, 3, 4, 3, 4, 2, 2, 3, 4, 3, 4, 1, 1, 1, 1, 1, 1, 2, 2, 3, 4, 3, 4, 2, 2, 3, 4, 3, 4, 2, 2, 3, 4, 3, 4, 1, 1, 1, 1, 1, 1, 2, 2, 3, 4, 3, 4, 2, 2, 3, 4, 3, 4, 2, 2, 3, 4, 3, 4, 0, 0, 0, 0, 0, 0, 0, 0, 0, 0, 0, 0, 0, 0, 0, 0, 0, 0, 0, 0, 0, 0, 0, 0, 2, 2, 3, 4, 3, 4, 1, 1, 1, 1, 1, 1, 3, 4, 2, 2, 4, 3, 3, 4, 2, 2, 4, 3, 2, 2, 3, 4, 3, 4, 1, 1, 1, 1, 1, 1, 3, 4, 2, 2, 4, 3, 3, 4, 2, 2, 4, 3, 2, 2, 3, 4, 3, 4, 1, 1, 1, 1, 1, 1, 3, 4, 2, 2, 4, 3, 3, 4, 2, 2, 4, 3, 2, 2, 3, 4, 3, 4, 1, 1, 1, 1, 1, 1, 3, 4, 2, 2, 4, 3, 3, 4, 2, 2, 4, 3, 2, 2, 3, 4, 3, 4, 1, 1, 1, 1, 1, 1, 3, 4, 2, 2, 4, 3, 3, 4, 2, 2, 4, 3, 0, 0, 0, 0, 0, 0, 0, 0, 0, 0, 0, 0, 0, 0, 0, 0, 0, 0, 0, 0, 0, 0, 0, 0, 3, 4, 2, 2, 4, 3, 3, 4, 2, 2, 4, 3, 1, 1, 1, 1, 1, 1, 4, 3, 4, 3, 2, 2, 3, 4, 2, 2, 4, 3, 3, 4, 2, 2, 4, 3, 1, 1, 1, 1, 1, 1, 4, 3, 4, 3, 2, 2, 3, 4, 2, 2, 4, 3, 3, 4, 2, 2, 4, 3, 1, 1, 1, 1, 1, 1, 4, 3, 4, 3, 2, 2, 3, 4, 2, 2, 4, 3, 3, 4, 2, 2, 4, 3, 1, 1, 1, 1, 1, 1, 4, 3, 4, 3, 2, 2, 3, 4, 2, 2, 4, 3, 3, 4, 2, 2, 4, 3, 1, 1, 1, 1, 1, 1, 4, 3, 4, 3, 2, 2, 0, 0, 0, 0, 0, 0, 0, 0, 0, 0, 0, 0, 0, 0, 0, 0, 0, 0, 0, 0, 0, 0, 0, 0, 4, 3, 4, 3, 2, 2, 4, 3, 4, 3, 2, 2, 4, 3, 4, 3, 2, 2, 1, 1, 1, 1, 1, 1, 4, 3, 4, 3, 2, 2, 4, 3, 4, 3, 2, 2, 4, 3, 4, 3, 2, 2, 1, 1, 1, 1, 1, 1, 4, 3, 4, 3, 2, 2, 4, 3, 4, 3, 2, 2, 4, 3, 4, 3, 2, 2, 1, 1, 1, 1, 1, 1, 4, 3, 4, 3, 2, 2, 4, 3, 4, 3, 2, 2, 4, 3, 4, 3, 2, 2, 1, 1, 1, 1, 1, 1, 4, 3, 4, 3, 2, 2, 4, 3, 4, 3, 2, 2, 4, 3, 4, 3, 2, 2, 1, 1, 1, 1, 1, 1, 0, 0, 0, 0, 0, 0, 0, 0, 0, 0, 0, 0, 0, 0, 0, 0, 0, 0, 0, 0, 0, 0, 0, 0]
def own_SL5 : List Int32 := [24, 6, 2, 1, 25, 7, 4, 0, 26, 12, 0, 3, 27, 13, 5, 2, 28, 18, 1, 5, 29, 19, 3, 4, 48, 0, 8, 7, 49, 1, 10, 6, 50, 14, 6, 9, 51, 15, 11, 8, 52, 20, 7, 11, 53, 21, 9, 10, 72, 2, 14, 13, 73, 3, 16, 12, 74, 8, 12, 15, 75, 9, 17, 14, 76, 22, 13, 17, 77, 23, 15, 16, 96, 4, 20, 19, 97, 5, 22, 18, 98, 10, 18, 21, 99, 11, 23, 20, 100, 16, 19, 23, 101, 17, 21, 22, 0, 30, 26, 25, 1, 31, 28, 24, 2, 36, 24, 27, 3, 37, 29, 26, 4, 42, 25, 29, 5, 43, 27, 28, 54, 24, 32, 31, 55, 25, 34, 30, 56, 38, 30, 33, 57, 39, 35, 32, 58, 44, 31, 35, 59, 45, 33, 34, 78, 26, 38, 37, 79, 27, 40, 36, 80, 32, 36, 39, 81, 33, 41, 38, 82, 46, 37, 41, 83, 47, 39, 40, 102, 28, 44, 43, 103, 29, 46, 42, 104, 34, 42, 45, 105, 35, 47, 44, 106, 40, 43, 47, 107, 41, 45, 46, 6, 54, 50, 49, 7, 55, 52, 48, 8, 60, 48, 51, 9, 61, 53, 50, 10, 66, 49, 53, 11, 67, 51, 52, 30, 48, 56, 55, 31, 49, 58, 54, 32, 62, 54, 57, 33, 63, 59, 56, 34, 68, 55, 59, 35, 69, 57, 58, 84, 50, 62, 61, 85, 51, 64, 60, 86, 56, 60, 63, 87, 57, 65, 62, 88, 70, 61, 65, 89, 71, 63, 64, 108, 52, 68, 67, 109, 53, 70, 66, 110, 58, 66, 69, 111, 59, 71, 68, 112, 64, 67, 71, 113, 65, 69, 70, 12, 78, 74, 73, 13, 79, 76, 72, 14, 84, 72, 75, 15, 85, 77, 74, 16, 90, 73, 77, 17, 91, 75, 76, 36, 72, 80, 79, 37, 73, 82, 78, 38, 86, 78, 81, 39, 87, 83, 80, 40, 92, 79, 83, 41, 93, 81, 82, 60, 74, 86, 85, 61, 75, 88, 84, 62, 80, 84, 87, 63, 81, 89, 86, 64, 94, 85, 89, 65, 95, 87, 88, 114, 76, 92, 91, 115, 77, 94, 90, 116, 82, 90, 93, 117, 83, 95, 92, 118, 88, 91, 95, 119, 89, 93, 94, 18, 102, 98, 97, 19, 103, 100, 96, 20, 108, 96, 99, 21, 109, 101, 98, 22, 114, 97, 101, 23, 115, 99, 100, 42, 96, 104, 103, 43, 97, 106, 102, 44, 110, 102, 105, 45, 111, 107, 104, 46, 116, 103, 107, 47, 117, 105, 106, 66, 98, 110, 109, 67, 99, 112, 108, 68, 104, 108, 111, 69, 105, 113, 110, 70, 118, 109, 113, 71, 119, 111, 112, 90, 100, 116, 115, 91, 101, 118, 114, 92, 106, 114, 117, 93, 107, 119, 116, 94, 112, 115, 119, 95, 113, 117, 118]
set_option maxRecDepth 65536 in
theorem own_PE5 : own_P5 120 = own_PL5 := by decide +kernel
set_option maxRecDepth 65536 in
theorem own_SE5 : own_S5 120 = own_SL5 := by decide +kernel
theorem own_in5_0 : ∀ k : Fin 120, (own_d5_3 k.val < (1 : Int32)) → own_d5_0 k.val = own_d5_0 (k.val + 1) ∧ own_d5_1 k.val = own_d5_1 (k.val + 1) ∧ own_d5_2 k.val = own_d5_2 (k.val + 1) ∧ own_d5_3 k.val + (1 : Int32) = own_d5_3 (k.val + 1) ∧ own_d5_4 k.val = own_d5_4 (k.val + 1) := by decide +kernel
theorem own_in5_1 : ∀ k : Fin 120, (¬ (own_d5_3 k.val < (1 : Int32))) → (own_d5_2 k.val < (2 : Int32)) → own_d5_0 k.val = own_d5_0 (k.val + 1) ∧ own_d5_1 k.val = own_d5_1 (k.val + 1) ∧ own_d5_2 k.val + (1 : Int32) = own_d5_2 (k.val + 1) ∧ (0 : Int32) = own_d5_3 (k.val + 1) ∧ own_d5_4 k.val = own_d5_4 (k.val + 1) := by decide +kernel
theorem own_in5_2 : ∀ k : Fin 120, (¬ (own_d5_3 k.val < (1 : Int32))) → (¬ (own_d5_2 k.val < (2 : Int32))) → (own_d5_1 k.val < (3 : Int32)) → own_d5_0 k.val = own_d5_0 (k.val + 1) ∧ own_d5_1 k.val + (1 : Int32) = own_d5_1 (k.val + 1) ∧ (0 : Int32) = own_d5_2 (k.val + 1) ∧ (0 : Int32) = own_d5_3 (k.val + 1) ∧ own_d5_4 k.val = own_d5_4 (k.val + 1) := by decide +kernel
theorem own_in5_3 : ∀ k : Fin 120, (¬ (own_d5_3 k.val < (1 : Int32))) → (¬ (own_d5_2 k.val < (2 : Int32))) → (¬ (own_d5_1 k.val < (3 : Int32))) → (own_d5_0 k.val < (4 : Int32)) → own_d5_0 k.val + (1 : Int32) = own_d5_0 (k.val + 1) ∧ (0 : Int32) = own_d5_1 (k.val + 1) ∧ (0 : Int32) = own_d5_2 (k.val + 1) ∧ (0 : Int32) = own_d5_3 (k.val + 1) ∧ own_d5_4 k.val = own_d5_4 (k.val + 1) := by decide +kernel
theorem own_in5_4 : ∀ k : Fin 120, (¬ (own_d5_3 k.val < (1 : Int32))) → (¬ (own_d5_2 k.val < (2 : Int32))) → (¬ (own_d5_1 k.val < (3 : Int32))) → (¬ (own_d5_0 k.val < (4 : Int32))) → (0 : Int32) = own_d5_0 (k.val + 1) ∧ (0 : Int32) = own_d5_1 (k.val + 1) ∧ (0 : Int32) = own_d5_2 (k.val + 1) ∧ (0 : Int32) = own_d5_3 (k.val + 1) ∧ own_d5_4 k.val = own_d5_4 (k.val + 1) := by decide +kernel
theorem own_kb5 (k : Fin 120) : own_bd 120 (Int32.ofNat k.val) ∧ Int32.ofNat k.val < (120 : Int32) := by
  have h := k.isLt; have e := own_ofNat (j := k.val) (by omega); refine ⟨⟨by omega, by omega⟩, ?_⟩
  rw [Int32.lt_iff_toInt_lt, e]; show _ < (120 : Int); omega
set_option maxRecDepth 65536 in
set_option maxHeartbeats 40000000 in
theorem rmSw5_0 (l : Launch) (Z : State) (a0 : Array Value) (hw : ∀ d ∈ tables_1, d.before a0 Z = true) (ws : List Jvm.Cond) (kk : Int32) (b1 b2 : Addr) (k1 k2 : ClassId) (c0 c1 c2 c3 c4 : Int32) (h0 : Heap) (n0 : Nat) (O0 : Old Z n0 h0) (Vc : Arv Z h0 b1 k1 .int (5 : Int32) [(.int c0), (.int c1), (.int c2), (.int c3), (.int c4)] (.int (0 : Int32))) (Vp : Arv Z h0 b2 k2 .int (5 : Int32) [(.int (24 : Int32)), (.int (6 : Int32)), (.int (2 : Int32)), (.int (1 : Int32)), (.int (1 : Int32))] (.int (0 : Int32))) :
    MetFree l (⟨"com/example/frontward/frontward/offline/Orderings", "swapped", "(I[I[II)I"⟩ : MethodName) (head1 (Jvm.Cond.code (⟨"com/example/frontward/frontward/offline/Orderings", "swapped", "(I[I[II)I"⟩ : MethodName) prog_26_method_2_code 6 (some .int) :: ws) ({ frames := 0, cells := 0, slots := 0, locals := 0 } : Room)) (fun a U => a = #[(.int kk), (.ref b1), (.ref b2), (.int (0 : Int32))] ∧ Z.Warmed39 U.vm ∧ U.heap = h0) (fun _ _ _ _ _ => True) (fun _ U o U' => ∃ v L, o = .returned v ∧ Q_g (own_sw kk c0 c1 (24 : Int32) (6 : Int32)) h0 n0 v U'.heap L ∧ FrameEnd U o U' L ({ frames := 0, cells := 0, slots := 0, locals := 0 } : Room).cells ({ frames := 0, cells := 0, slots := 0, locals := 0 } : Room).slots) := by
  refine MetFree.of_bodySF (plainFor_of_name pn_0) hisR ?_
  intro p e s m args below meth c s₁ Bd hml0 hP hK
  obtain ⟨rfl, hZ, hh⟩ := hP
  have hx := Bd.exec
  have hby := Bd.bytes
  have hml : c.maxLocals = 6 := hml0
  have hown : s.vm.findClass "com/example/frontward/frontward/offline/Orderings" = some m.cls := findClass_of_methodNamed Bd.named
  have hnm := (name_of_methodNamed Bd.named Bd.method).1
  have X0 : Stand p l e ({ frames := 0, cells := 0, slots := 0, locals := 0 } : Room) s m #[(.int kk), (.ref b1), (.ref b2), (.int (0 : Int32))] below meth c s₁ [] 0 0 := Stand.of_body Bd
  have e0 : s₁.heap = h0 := by rw [← hh, Bd.state]; rfl
  have N0 := Fr.nil n0
  have pre0 : ∀ t, Steps p.tables e below (s₁.setTop (mkF m 0 #[.val (.int kk), .val (.ref b1), .val (.ref b2), .val (.int (0 : Int32)), .unset, .unset] [])) t → Steps p.tables e below (s₁.setTop (entryFrame m #[(.int kk), (.ref b1), (.ref b2), (.int (0 : Int32))] 6)) t := fun t k => castTop (ef_3 m kk b1 b2 (0 : Int32)) k
  obtain ⟨cl101, Ar101, q101, S101, N101_, H101, G101⟩ := id Vc
  have hin101 : ¬ ((0 : Int32) < 0 ∨ cl101.slots.size ≤ ((0 : Int32)).toNatClampNeg) := inb_of S101 ⟨by decide, by decide⟩
  have hat101 : cl101.slots[((0 : Int32)).toNatClampNeg]? = some (.int c0) := H101.at hin101 rfl
  obtain ⟨cl102, Ar102, q102, S102, N102_, H102, G102⟩ := id Vc
  have hin102 : ¬ ((1 : Int32) < 0 ∨ cl102.slots.size ≤ ((1 : Int32)).toNatClampNeg) := inb_of S102 ⟨by decide, by decide⟩
  have hat102 : cl102.slots[((1 : Int32)).toNatClampNeg]? = some (.int c1) := H102.at hin102 rfl
  have pre103 : ∀ t, Steps p.tables e below (s₁.setTop (mkF m 16 #[.val (.int kk), .val (.ref b1), .val (.ref b2), .val (.int (0 : Int32)), .val (.int c0), .val (.int c1)] [(.int c1), (.int c0)])) t → Steps p.tables e below (s₁.setTop (entryFrame m #[(.int kk), (.ref b1), (.ref b2), (.int (0 : Int32))] 6)) t := fun t kt => pre0 t (by
      show Steps p.tables e below (s₁.setTop (mkF m 0 #[.val (.int kk), .val (.ref b1), .val (.ref b2), .val (.int (0 : Int32)), .unset, .unset] [])) _
      refine XS.aloadN X0.here hx rfl (hb hby dc4_0) rfl rfl ?_
      refine XS.iloadN X0.here hx rfl (hb hby dc4_1) rfl ?_
      refine X0.iaload hx (j := (0 : Int32)) (v := (.int c0)) (by rw [e0]; exact Ar101.1) (State.isArrayOf_alike hZ.alike Ar101.2.1) Ar101.2.2 hin101 hat101 (g := (mkF m 2 #[.val (.int kk), .val (.ref b1), .val (.ref b2), .val (.int (0 : Int32)), .unset, .unset] [(.int (0 : Int32)), (.ref b1)])) rfl rfl (hb hby dc4_2) _ ?_
      refine XS.istore X0.here hx rfl (hb hby dc4_3) rfl (l' := #[.val (.int kk), .val (.ref b1), .val (.ref b2), .val (.int (0 : Int32)), .val (.int c0), .unset]) rfl ?_
      refine XS.aloadN X0.here hx rfl (hb hby dc4_5) rfl rfl ?_
      refine XS.iloadN X0.here hx rfl (hb hby dc4_6) rfl ?_
      refine XS.iconst X0.here hx rfl (hb hby dc4_7) ?_
      refine XS.iadd X0.here hx rfl (hb hby dc4_8) rfl ?_
      refine X0.iaload hx (j := (1 : Int32)) (v := (.int c1)) (by rw [e0]; exact Ar102.1) (State.isArrayOf_alike hZ.alike Ar102.2.1) Ar102.2.2 hin102 hat102 (g := (mkF m 9 #[.val (.int kk), .val (.ref b1), .val (.ref b2), .val (.int (0 : Int32)), .val (.int c0), .unset] [(.int (1 : Int32)), (.ref b1)])) rfl rfl (hb hby dc4_9) _ ?_
      refine XS.istore X0.here hx rfl (hb hby dc4_10) rfl (l' := #[.val (.int kk), .val (.ref b1), .val (.ref b2), .val (.int (0 : Int32)), .val (.int c0), .val (.int c1)]) rfl ?_
      refine XS.iload X0.here hx rfl (hb hby dc4_12) rfl ?_
      refine XS.iload X0.here hx rfl (hb hby dc4_14) rfl ?_
      exact kt)
  by_cases hc104 : c1 < c0
  · skip
    obtain ⟨cl105, Ar105, q105, S105, N105_, H105, G105⟩ := id Vp
    have hin105 : ¬ ((0 : Int32) < 0 ∨ cl105.slots.size ≤ ((0 : Int32)).toNatClampNeg) := inb_of S105 ⟨by decide, by decide⟩
    have hat105 : cl105.slots[((0 : Int32)).toNatClampNeg]? = some (.int (24 : Int32)) := H105.at hin105 rfl
    obtain ⟨cl106, Ar106, q106, S106, N106_, H106, G106⟩ := id Vp
    have hin106 : ¬ ((1 : Int32) < 0 ∨ cl106.slots.size ≤ ((1 : Int32)).toNatClampNeg) := inb_of S106 ⟨by decide, by decide⟩
    have hat106 : cl106.slots[((1 : Int32)).toNatClampNeg]? = some (.int (6 : Int32)) := H106.at hin106 rfl
    obtain ⟨fs, hr, hrun, hended, hW, hsame⟩ := X0.leave (v := some (.int ((kk + ((c1 - c0) * (24 : Int32))) + (((c0 - (1 : Int32)) - c1) * (6 : Int32))))) (fun h => by rw [Bd.returns] at h; cases h)
    refine ⟨_, _, pre103 _ ?_, hrun, hended, _, _, rfl, ?_, ⟨_, rfl⟩, hW, hsame.mono (by decide) (by decide)⟩
    · skip
      show Steps p.tables e below (s₁.setTop (mkF m 16 #[.val (.int kk), .val (.ref b1), .val (.ref b2), .val (.int (0 : Int32)), .val (.int c0), .val (.int c1)] [(.int c1), (.int c0)])) _
      refine XS.icmpYes X0.here hx rfl (pc0 := 16) (pc' := 45) rfl (hb hby dc4_16) rfl (tlt hc104).2.2.1 (by decide) (by decide) ?_
      refine XS.iloadN X0.here hx rfl (hb hby dc4_45) rfl ?_
      show Steps p.tables e below (s₁.setTop (mkF m 46 #[.val (.int kk), .val (.ref b1), .val (.ref b2), .val (.int (0 : Int32)), .val (.int c0), .val (.int c1)] [(.int kk)])) _
      refine XS.iload X0.here hx rfl (hb hby dc4_46) rfl ?_
      refine XS.iload X0.here hx rfl (hb hby dc4_48) rfl ?_
      refine XS.isub X0.here hx rfl (hb hby dc4_50) rfl ?_
      refine XS.aloadN X0.here hx rfl (hb hby dc4_51) rfl rfl ?_
      refine XS.iloadN X0.here hx rfl (hb hby dc4_52) rfl ?_
      refine X0.iaload hx (j := (0 : Int32)) (v := (.int (24 : Int32))) (by rw [e0]; exact Ar105.1) (State.isArrayOf_alike hZ.alike Ar105.2.1) Ar105.2.2 hin105 hat105 (g := (mkF m 53 #[.val (.int kk), .val (.ref b1), .val (.ref b2), .val (.int (0 : Int32)), .val (.int c0), .val (.int c1)] [(.int (0 : Int32)), (.ref b2), (.int (c1 - c0)), (.int kk)])) rfl rfl (hb hby dc4_53) _ ?_
      refine XS.imul X0.here hx rfl (hb hby dc4_54) rfl ?_
      refine XS.iadd X0.here hx rfl (hb hby dc4_55) rfl ?_
      refine XS.iload X0.here hx rfl (hb hby dc4_56) rfl ?_
      refine XS.iconst X0.here hx rfl (hb hby dc4_58) ?_
      refine XS.isub X0.here hx rfl (hb hby dc4_59) rfl ?_
      refine XS.iload X0.here hx rfl (hb hby dc4_60) rfl ?_
      refine XS.isub X0.here hx rfl (hb hby dc4_62) rfl ?_
      refine XS.aloadN X0.here hx rfl (hb hby dc4_63) rfl rfl ?_
      refine XS.iloadN X0.here hx rfl (hb hby dc4_64) rfl ?_
      refine XS.iconst X0.here hx rfl (hb hby dc4_65) ?_
      refine XS.iadd X0.here hx rfl (hb hby dc4_66) rfl ?_
      refine X0.iaload hx (j := (1 : Int32)) (v := (.int (6 : Int32))) (by rw [e0]; exact Ar106.1) (State.isArrayOf_alike hZ.alike Ar106.2.1) Ar106.2.2 hin106 hat106 (g := (mkF m 67 #[.val (.int kk), .val (.ref b1), .val (.ref b2), .val (.int (0 : Int32)), .val (.int c0), .val (.int c1)] [(.int (1 : Int32)), (.ref b2), (.int ((c0 - (1 : Int32)) - c1)), (.int (kk + ((c1 - c0) * (24 : Int32))))])) rfl rfl (hb hby dc4_67) _ ?_
      refine XS.imul X0.here hx rfl (hb hby dc4_68) rfl ?_
      refine XS.iadd X0.here hx rfl (hb hby dc4_69) rfl ?_
      show Steps p.tables e below (s₁.setTop (mkF m 70 #[.val (.int kk), .val (.ref b1), .val (.ref b2), .val (.int (0 : Int32)), .val (.int c0), .val (.int c1)] [(.int ((kk + ((c1 - c0) * (24 : Int32))) + (((c0 - (1 : Int32)) - c1) * (6 : Int32))))])) _
      exact retI X0 hx Bd.returns (hb hby dc4_70) hr
    · show Q_g (own_sw kk c0 c1 (24 : Int32) (6 : Int32)) h0 n0 _ s₁.heap _
      rw [e0]
      exact ⟨by simp [own_sw, hc104], N0, rfl⟩
  · skip
    obtain ⟨cl107, Ar107, q107, S107, N107_, H107, G107⟩ := id Vp
    have hin107 : ¬ ((0 : Int32) < 0 ∨ cl107.slots.size ≤ ((0 : Int32)).toNatClampNeg) := inb_of S107 ⟨by decide, by decide⟩
    have hat107 : cl107.slots[((0 : Int32)).toNatClampNeg]? = some (.int (24 : Int32)) := H107.at hin107 rfl
    obtain ⟨cl108, Ar108, q108, S108, N108_, H108, G108⟩ := id Vp
    have hin108 : ¬ ((1 : Int32) < 0 ∨ cl108.slots.size ≤ ((1 : Int32)).toNatClampNeg) := inb_of S108 ⟨by decide, by decide⟩
    have hat108 : cl108.slots[((1 : Int32)).toNatClampNeg]? = some (.int (6 : Int32)) := H108.at hin108 rfl
    obtain ⟨fs, hr, hrun, hended, hW, hsame⟩ := X0.leave (v := some (.int ((kk + (((c1 + (1 : Int32)) - c0) * (24 : Int32))) + ((c0 - c1) * (6 : Int32))))) (fun h => by rw [Bd.returns] at h; cases h)
    refine ⟨_, _, pre103 _ ?_, hrun, hended, _, _, rfl, ?_, ⟨_, rfl⟩, hW, hsame.mono (by decide) (by decide)⟩
    · skip
      show Steps p.tables e below (s₁.setTop (mkF m 16 #[.val (.int kk), .val (.ref b1), .val (.ref b2), .val (.int (0 : Int32)), .val (.int c0), .val (.int c1)] [(.int c1), (.int c0)])) _
      refine XS.icmpNo X0.here hx rfl (hb hby dc4_16) rfl (flt hc104).2.2.1 ?_
      refine XS.iloadN X0.here hx rfl (hb hby dc4_19) rfl ?_
      refine XS.iload X0.here hx rfl (hb hby dc4_20) rfl ?_
      refine XS.iconst X0.here hx rfl (hb hby dc4_22) ?_
      show Steps p.tables e below (s₁.setTop (mkF m 23 #[.val (.int kk), .val (.ref b1), .val (.ref b2), .val (.int (0 : Int32)), .val (.int c0), .val (.int c1)] [(.int (1 : Int32)), (.int c1), (.int kk)])) _
      refine XS.iadd X0.here hx rfl (hb hby dc4_23) rfl ?_
      refine XS.iload X0.here hx rfl (hb hby dc4_24) rfl ?_
      refine XS.isub X0.here hx rfl (hb hby dc4_26) rfl ?_
      refine XS.aloadN X0.here hx rfl (hb hby dc4_27) rfl rfl ?_
      refine XS.iloadN X0.here hx rfl (hb hby dc4_28) rfl ?_
      refine X0.iaload hx (j := (0 : Int32)) (v := (.int (24 : Int32))) (by rw [e0]; exact Ar107.1) (State.isArrayOf_alike hZ.alike Ar107.2.1) Ar107.2.2 hin107 hat107 (g := (mkF m 29 #[.val (.int kk), .val (.ref b1), .val (.ref b2), .val (.int (0 : Int32)), .val (.int c0), .val (.int c1)] [(.int (0 : Int32)), (.ref b2), (.int ((c1 + (1 : Int32)) - c0)), (.int kk)])) rfl rfl (hb hby dc4_29) _ ?_
      refine XS.imul X0.here hx rfl (hb hby dc4_30) rfl ?_
      refine XS.iadd X0.here hx rfl (hb hby dc4_31) rfl ?_
      refine XS.iload X0.here hx rfl (hb hby dc4_32) rfl ?_
      refine XS.iload X0.here hx rfl (hb hby dc4_34) rfl ?_
      refine XS.isub X0.here hx rfl (hb hby dc4_36) rfl ?_
      refine XS.aloadN X0.here hx rfl (hb hby dc4_37) rfl rfl ?_
      refine XS.iloadN X0.here hx rfl (hb hby dc4_38) rfl ?_
      refine XS.iconst X0.here hx rfl (hb hby dc4_39) ?_
      refine XS.iadd X0.here hx rfl (hb hby dc4_40) rfl ?_
      refine X0.iaload hx (j := (1 : Int32)) (v := (.int (6 : Int32))) (by rw [e0]; exact Ar108.1) (State.isArrayOf_alike hZ.alike Ar108.2.1) Ar108.2.2 hin108 hat108 (g := (mkF m 41 #[.val (.int kk), .val (.ref b1), .val (.ref b2), .val (.int (0 : Int32)), .val (.int c0), .val (.int c1)] [(.int (1 : Int32)), (.ref b2), (.int (c0 - c1)), (.int (kk + (((c1 + (1 : Int32)) - c0) * (24 : Int32))))])) rfl rfl (hb hby dc4_41) _ ?_
      refine XS.imul X0.here hx rfl (hb hby dc4_42) rfl ?_
      refine XS.iadd X0.here hx rfl (hb hby dc4_43) rfl ?_
      show Steps p.tables e below (s₁.setTop (mkF m 44 #[.val (.int kk), .val (.ref b1), .val (.ref b2), .val (.int (0 : Int32)), .val (.int c0), .val (.int c1)] [(.int ((kk + (((c1 + (1 : Int32)) - c0) * (24 : Int32))) + ((c0 - c1) * (6 : Int32))))])) _
      exact retI X0 hx Bd.returns (hb hby dc4_44) hr
    · show Q_g (own_sw kk c0 c1 (24 : Int32) (6 : Int32)) h0 n0 _ s₁.heap _
      rw [e0]
      exact ⟨by simp [own_sw, hc104], N0, rfl⟩
set_option maxRecDepth 65536 in
set_option maxHeartbeats 40000000 in
theorem rmSw5_1 (l : Launch) (Z : State) (a0 : Array Value) (hw : ∀ d ∈ tables_1, d.before a0 Z = true) (ws : List Jvm.Cond) (kk : Int32) (b1 b2 : Addr) (k1 k2 : ClassId) (c0 c1 c2 c3 c4 : Int32) (h0 : Heap) (n0 : Nat) (O0 : Old Z n0 h0) (Vc : Arv Z h0 b1 k1 .int (5 : Int32) [(.int c0), (.int c1), (.int c2), (.int c3), (.int c4)] (.int (0 : Int32))) (Vp : Arv Z h0 b2 k2 .int (5 : Int32) [(.int (24 : Int32)), (.int (6 : Int32)), (.int (2 : Int32)), (.int (1 : Int32)), (.int (1 : Int32))] (.int (0 : Int32))) :
    MetFree l (⟨"com/example/frontward/frontward/offline/Orderings", "swapped", "(I[I[II)I"⟩ : MethodName) (head1 (Jvm.Cond.code (⟨"com/example/frontward/frontward/offline/Orderings", "swapped", "(I[I[II)I"⟩ : MethodName) prog_26_method_2_code 6 (some .int) :: ws) ({ frames := 0, cells := 0, slots := 0, locals := 0 } : Room)) (fun a U => a = #[(.int kk), (.ref b1), (.ref b2), (.int (1 : Int32))] ∧ Z.Warmed39 U.vm ∧ U.heap = h0) (fun _ _ _ _ _ => True) (fun _ U o U' => ∃ v L, o = .returned v ∧ Q_g (own_sw kk c1 c2 (6 : Int32) (2 : Int32)) h0 n0 v U'.heap L ∧ FrameEnd U o U' L ({ frames := 0, cells := 0, slots := 0, locals := 0 } : Room).cells ({ frames := 0, cells := 0, slots := 0, locals := 0 } : Room).slots) := by
  refine MetFree.of_bodySF (plainFor_of_name pn_0) hisR ?_
  intro p e s m args below meth c s₁ Bd hml0 hP hK
  obtain ⟨rfl, hZ, hh⟩ := hP
  have hx := Bd.exec
  have hby := Bd.bytes
  have hml : c.maxLocals = 6 := hml0
  have hown : s.vm.findClass "com/example/frontward/frontward/offline/Orderings" = some m.cls := findClass_of_methodNamed Bd.named
  have hnm := (name_of_methodNamed Bd.named Bd.method).1
  have X0 : Stand p l e ({ frames := 0, cells := 0, slots := 0, locals := 0 } : Room) s m #[(.int kk), (.ref b1), (.ref b2), (.int (1 : Int32))] below meth c s₁ [] 0 0 := Stand.of_body Bd
  have e0 : s₁.heap = h0 := by rw [← hh, Bd.state]; rfl
  have N0 := Fr.nil n0
  have pre0 : ∀ t, Steps p.tables e below (s₁.setTop (mkF m 0 #[.val (.int kk), .val (.ref b1), .val (.ref b2), .val (.int (1 : Int32)), .unset, .unset] [])) t → Steps p.tables e below (s₁.setTop (entryFrame m #[(.int kk), (.ref b1), (.ref b2), (.int (1 : Int32))] 6)) t := fun t k => castTop (ef_3 m kk b1 b2 (1 : Int32)) k
  obtain ⟨cl101, Ar101, q101, S101, N101_, H101, G101⟩ := id Vc
  have hin101 : ¬ ((1 : Int32) < 0 ∨ cl101.slots.size ≤ ((1 : Int32)).toNatClampNeg) := inb_of S101 ⟨by decide, by decide⟩
  have hat101 : cl101.slots[((1 : Int32)).toNatClampNeg]? = some (.int c1) := H101.at hin101 rfl
  obtain ⟨cl102, Ar102, q102, S102, N102_, H102, G102⟩ := id Vc
  have hin102 : ¬ ((2 : Int32) < 0 ∨ cl102.slots.size ≤ ((2 : Int32)).toNatClampNeg) := inb_of S102 ⟨by decide, by decide⟩
  have hat102 : cl102.slots[((2 : Int32)).toNatClampNeg]? = some (.int c2) := H102.at hin102 rfl
  have pre103 : ∀ t, Steps p.tables e below (s₁.setTop (mkF m 16 #[.val (.int kk), .val (.ref b1), .val (.ref b2), .val (.int (1 : Int32)), .val (.int c1), .val (.int c2)] [(.int c2), (.int c1)])) t → Steps p.tables e below (s₁.setTop (entryFrame m #[(.int kk), (.ref b1), (.ref b2), (.int (1 : Int32))] 6)) t := fun t kt => pre0 t (by
      show Steps p.tables e below (s₁.setTop (mkF m 0 #[.val (.int kk), .val (.ref b1), .val (.ref b2), .val (.int (1 : Int32)), .unset, .unset] [])) _
      refine XS.aloadN X0.here hx rfl (hb hby dc4_0) rfl rfl ?_
      refine XS.iloadN X0.here hx rfl (hb hby dc4_1) rfl ?_
      refine X0.iaload hx (j := (1 : Int32)) (v := (.int c1)) (by rw [e0]; exact Ar101.1) (State.isArrayOf_alike hZ.alike Ar101.2.1) Ar101.2.2 hin101 hat101 (g := (mkF m 2 #[.val (.int kk), .val (.ref b1), .val (.ref b2), .val (.int (1 : Int32)), .unset, .unset] [(.int (1 : Int32)), (.ref b1)])) rfl rfl (hb hby dc4_2) _ ?_
      refine XS.istore X0.here hx rfl (hb hby dc4_3) rfl (l' := #[.val (.int kk), .val (.ref b1), .val (.ref b2), .val (.int (1 : Int32)), .val (.int c1), .unset]) rfl ?_
      refine XS.aloadN X0.here hx rfl (hb hby dc4_5) rfl rfl ?_
      refine XS.iloadN X0.here hx rfl (hb hby dc4_6) rfl ?_
      refine XS.iconst X0.here hx rfl (hb hby dc4_7) ?_
      refine XS.iadd X0.here hx rfl (hb hby dc4_8) rfl ?_
      refine X0.iaload hx (j := (2 : Int32)) (v := (.int c2)) (by rw [e0]; exact Ar102.1) (State.isArrayOf_alike hZ.alike Ar102.2.1) Ar102.2.2 hin102 hat102 (g := (mkF m 9 #[.val (.int kk), .val (.ref b1), .val (.ref b2), .val (.int (1 : Int32)), .val (.int c1), .unset] [(.int (2 : Int32)), (.ref b1)])) rfl rfl (hb hby dc4_9) _ ?_
      refine XS.istore X0.here hx rfl (hb hby dc4_10) rfl (l' := #[.val (.int kk), .val (.ref b1), .val (.ref b2), .val (.int (1 : Int32)), .val (.int c1), .val (.int c2)]) rfl ?_
      refine XS.iload X0.here hx rfl (hb hby dc4_12) rfl ?_
      refine XS.iload X0.here hx rfl (hb hby dc4_14) rfl ?_
      exact kt)
  by_cases hc104 : c2 < c1
  · skip
    obtain ⟨cl105, Ar105, q105, S105, N105_, H105, G105⟩ := id Vp
    have hin105 : ¬ ((1 : Int32) < 0 ∨ cl105.slots.size ≤ ((1 : Int32)).toNatClampNeg) := inb_of S105 ⟨by decide, by decide⟩
    have hat105 : cl105.slots[((1 : Int32)).toNatClampNeg]? = some (.int (6 : Int32)) := H105.at hin105 rfl
    obtain ⟨cl106, Ar106, q106, S106, N106_, H106, G106⟩ := id Vp
    have hin106 : ¬ ((2 : Int32) < 0 ∨ cl106.slots.size ≤ ((2 : Int32)).toNatClampNeg) := inb_of S106 ⟨by decide, by decide⟩
    have hat106 : cl106.slots[((2 : Int32)).toNatClampNeg]? = some (.int (2 : Int32)) := H106.at hin106 rfl
    obtain ⟨fs, hr, hrun, hended, hW, hsame⟩ := X0.leave (v := some (.int ((kk + ((c2 - c1) * (6 : Int32))) + (((c1 - (1 : Int32)) - c2) * (2 : Int32))))) (fun h => by rw [Bd.returns] at h; cases h)
    refine ⟨_, _, pre103 _ ?_, hrun, hended, _, _, rfl, ?_, ⟨_, rfl⟩, hW, hsame.mono (by decide) (by decide)⟩
    · skip
      show Steps p.tables e below (s₁.setTop (mkF m 16 #[.val (.int kk), .val (.ref b1), .val (.ref b2), .val (.int (1 : Int32)), .val (.int c1), .val (.int c2)] [(.int c2), (.int c1)])) _
      refine XS.icmpYes X0.here hx rfl (pc0 := 16) (pc' := 45) rfl (hb hby dc4_16) rfl (tlt hc104).2.2.1 (by decide) (by decide) ?_
      refine XS.iloadN X0.here hx rfl (hb hby dc4_45) rfl ?_
      show Steps p.tables e below (s₁.setTop (mkF m 46 #[.val (.int kk), .val (.ref b1), .val (.ref b2), .val (.int (1 : Int32)), .val (.int c1), .val (.int c2)] [(.int kk)])) _
      refine XS.iload X0.here hx rfl (hb hby dc4_46) rfl ?_
      refine XS.iload X0.here hx rfl (hb hby dc4_48) rfl ?_
      refine XS.isub X0.here hx rfl (hb hby dc4_50) rfl ?_
      refine XS.aloadN X0.here hx rfl (hb hby dc4_51) rfl rfl ?_
      refine XS.iloadN X0.here hx rfl (hb hby dc4_52) rfl ?_
      refine X0.iaload hx (j := (1 : Int32)) (v := (.int (6 : Int32))) (by rw [e0]; exact Ar105.1) (State.isArrayOf_alike hZ.alike Ar105.2.1) Ar105.2.2 hin105 hat105 (g := (mkF m 53 #[.val (.int kk), .val (.ref b1), .val (.ref b2), .val (.int (1 : Int32)), .val (.int c1), .val (.int c2)] [(.int (1 : Int32)), (.ref b2), (.int (c2 - c1)), (.int kk)])) rfl rfl (hb hby dc4_53) _ ?_
      refine XS.imul X0.here hx rfl (hb hby dc4_54) rfl ?_
      refine XS.iadd X0.here hx rfl (hb hby dc4_55) rfl ?_
      refine XS.iload X0.here hx rfl (hb hby dc4_56) rfl ?_
      refine XS.iconst X0.here hx rfl (hb hby dc4_58) ?_
      refine XS.isub X0.here hx rfl (hb hby dc4_59) rfl ?_
      refine XS.iload X0.here hx rfl (hb hby dc4_60) rfl ?_
      refine XS.isub X0.here hx rfl (hb hby dc4_62) rfl ?_
      refine XS.aloadN X0.here hx rfl (hb hby dc4_63) rfl rfl ?_
      refine XS.iloadN X0.here hx rfl (hb hby dc4_64) rfl ?_
      refine XS.iconst X0.here hx rfl (hb hby dc4_65) ?_
      refine XS.iadd X0.here hx rfl (hb hby dc4_66) rfl ?_
      refine X0.iaload hx (j := (2 : Int32)) (v := (.int (2 : Int32))) (by rw [e0]; exact Ar106.1) (State.isArrayOf_alike hZ.alike Ar106.2.1) Ar106.2.2 hin106 hat106 (g := (mkF m 67 #[.val (.int kk), .val (.ref b1), .val (.ref b2), .val (.int (1 : Int32)), .val (.int c1), .val (.int c2)] [(.int (2 : Int32)), (.ref b2), (.int ((c1 - (1 : Int32)) - c2)), (.int (kk + ((c2 - c1) * (6 : Int32))))])) rfl rfl (hb hby dc4_67) _ ?_
      refine XS.imul X0.here hx rfl (hb hby dc4_68) rfl ?_
      refine XS.iadd X0.here hx rfl (hb hby dc4_69) rfl ?_
      show Steps p.tables e below (s₁.setTop (mkF m 70 #[.val (.int kk), .val (.ref b1), .val (.ref b2), .val (.int (1 : Int32)), .val (.int c1), .val (.int c2)] [(.int ((kk + ((c2 - c1) * (6 : Int32))) + (((c1 - (1 : Int32)) - c2) * (2 : Int32))))])) _
      exact retI X0 hx Bd.returns (hb hby dc4_70) hr
    · show Q_g (own_sw kk c1 c2 (6 : Int32) (2 : Int32)) h0 n0 _ s₁.heap _
      rw [e0]
      exact ⟨by simp [own_sw, hc104], N0, rfl⟩
  · skip
    obtain ⟨cl107, Ar107, q107, S107, N107_, H107, G107⟩ := id Vp
    have hin107 : ¬ ((1 : Int32) < 0 ∨ cl107.slots.size ≤ ((1 : Int32)).toNatClampNeg) := inb_of S107 ⟨by decide, by decide⟩
    have hat107 : cl107.slots[((1 : Int32)).toNatClampNeg]? = some (.int (6 : Int32)) := H107.at hin107 rfl
    obtain ⟨cl108, Ar108, q108, S108, N108_, H108, G108⟩ := id Vp
    have hin108 : ¬ ((2 : Int32) < 0 ∨ cl108.slots.size ≤ ((2 : Int32)).toNatClampNeg) := inb_of S108 ⟨by decide, by decide⟩
    have hat108 : cl108.slots[((2 : Int32)).toNatClampNeg]? = some (.int (2 : Int32)) := H108.at hin108 rfl
    obtain ⟨fs, hr, hrun, hended, hW, hsame⟩ := X0.leave (v := some (.int ((kk + (((c2 + (1 : Int32)) - c1) * (6 : Int32))) + ((c1 - c2) * (2 : Int32))))) (fun h => by rw [Bd.returns] at h; cases h)
    refine ⟨_, _, pre103 _ ?_, hrun, hended, _, _, rfl, ?_, ⟨_, rfl⟩, hW, hsame.mono (by decide) (by decide)⟩
    · skip
      show Steps p.tables e below (s₁.setTop (mkF m 16 #[.val (.int kk), .val (.ref b1), .val (.ref b2), .val (.int (1 : Int32)), .val (.int c1), .val (.int c2)] [(.int c2), (.int c1)])) _
      refine XS.icmpNo X0.here hx rfl (hb hby dc4_16) rfl (flt hc104).2.2.1 ?_
      refine XS.iloadN X0.here hx rfl (hb hby dc4_19) rfl ?_
      refine XS.iload X0.here hx rfl (hb hby dc4_20) rfl ?_
      refine XS.iconst X0.here hx rfl (hb hby dc4_22) ?_
      show Steps p.tables e below (s₁.setTop (mkF m 23 #[.val (.int kk), .val (.ref b1), .val (.ref b2), .val (.int (1 : Int32)), .val (.int c1), .val (.int c2)] [(.int (1 : Int32)), (.int c2), (.int kk)])) _
      refine XS.iadd X0.here hx rfl (hb hby dc4_23) rfl ?_
      refine XS.iload X0.here hx rfl (hb hby dc4_24) rfl ?_
      refine XS.isub X0.here hx rfl (hb hby dc4_26) rfl ?_
      refine XS.aloadN X0.here hx rfl (hb hby dc4_27) rfl rfl ?_
      refine XS.iloadN X0.here hx rfl (hb hby dc4_28) rfl ?_
      refine X0.iaload hx (j := (1 : Int32)) (v := (.int (6 : Int32))) (by rw [e0]; exact Ar107.1) (State.isArrayOf_alike hZ.alike Ar107.2.1) Ar107.2.2 hin107 hat107 (g := (mkF m 29 #[.val (.int kk), .val (.ref b1), .val (.ref b2), .val (.int (1 : Int32)), .val (.int c1), .val (.int c2)] [(.int (1 : Int32)), (.ref b2), (.int ((c2 + (1 : Int32)) - c1)), (.int kk)])) rfl rfl (hb hby dc4_29) _ ?_
      refine XS.imul X0.here hx rfl (hb hby dc4_30) rfl ?_
      refine XS.iadd X0.here hx rfl (hb hby dc4_31) rfl ?_
      refine XS.iload X0.here hx rfl (hb hby dc4_32) rfl ?_
      refine XS.iload X0.here hx rfl (hb hby dc4_34) rfl ?_
      refine XS.isub X0.here hx rfl (hb hby dc4_36) rfl ?_
      refine XS.aloadN X0.here hx rfl (hb hby dc4_37) rfl rfl ?_
      refine XS.iloadN X0.here hx rfl (hb hby dc4_38) rfl ?_
      refine XS.iconst X0.here hx rfl (hb hby dc4_39) ?_
      refine XS.iadd X0.here hx rfl (hb hby dc4_40) rfl ?_
      refine X0.iaload hx (j := (2 : Int32)) (v := (.int (2 : Int32))) (by rw [e0]; exact Ar108.1) (State.isArrayOf_alike hZ.alike Ar108.2.1) Ar108.2.2 hin108 hat108 (g := (mkF m 41 #[.val (.int kk), .val (.ref b1), .val (.ref b2), .val (.int (1 : Int32)), .val (.int c1), .val (.int c2)] [(.int (2 : Int32)), (.ref b2), (.int (c1 - c2)), (.int (kk + (((c2 + (1 : Int32)) - c1) * (6 : Int32))))])) rfl rfl (hb hby dc4_41) _ ?_
      refine XS.imul X0.here hx rfl (hb hby dc4_42) rfl ?_
      refine XS.iadd X0.here hx rfl (hb hby dc4_43) rfl ?_
      show Steps p.tables e below (s₁.setTop (mkF m 44 #[.val (.int kk), .val (.ref b1), .val (.ref b2), .val (.int (1 : Int32)), .val (.int c1), .val (.int c2)] [(.int ((kk + (((c2 + (1 : Int32)) - c1) * (6 : Int32))) + ((c1 - c2) * (2 : Int32))))])) _
      exact retI X0 hx Bd.returns (hb hby dc4_44) hr
    · show Q_g (own_sw kk c1 c2 (6 : Int32) (2 : Int32)) h0 n0 _ s₁.heap _
      rw [e0]
      exact ⟨by simp [own_sw, hc104], N0, rfl⟩
set_option maxRecDepth 65536 in
set_option maxHeartbeats 40000000 in
theorem rmSw5_2 (l : Launch) (Z : State) (a0 : Array Value) (hw : ∀ d ∈ tables_1, d.before a0 Z = true) (ws : List Jvm.Cond) (kk : Int32) (b1 b2 : Addr) (k1 k2 : ClassId) (c0 c1 c2 c3 c4 : Int32) (h0 : Heap) (n0 : Nat) (O0 : Old Z n0 h0) (Vc : Arv Z h0 b1 k1 .int (5 : Int32) [(.int c0), (.int c1), (.int c2), (.int c3), (.int c4)] (.int (0 : Int32))) (Vp : Arv Z h0 b2 k2 .int (5 : Int32) [(.int (24 : Int32)), (.int (6 : Int32)), (.int (2 : Int32)), (.int (1 : Int32)), (.int (1 : Int32))] (.int (0 : Int32))) :
    MetFree l (⟨"com/example/frontward/frontward/offline/Orderings", "swapped", "(I[I[II)I"⟩ : MethodName) (head1 (Jvm.Cond.code (⟨"com/example/frontward/frontward/offline/Orderings", "swapped", "(I[I[II)I"⟩ : MethodName) prog_26_method_2_code 6 (some .int) :: ws) ({ frames := 0, cells := 0, slots := 0, locals := 0 } : Room)) (fun a U => a = #[(.int kk), (.ref b1), (.ref b2), (.int (2 : Int32))] ∧ Z.Warmed39 U.vm ∧ U.heap = h0) (fun _ _ _ _ _ => True) (fun _ U o U' => ∃ v L, o = .returned v ∧ Q_g (own_sw kk c2 c3 (2 : Int32) (1 : Int32)) h0 n0 v U'.heap L ∧ FrameEnd U o U' L ({ frames := 0, cells := 0, slots := 0, locals := 0 } : Room).cells ({ frames := 0, cells := 0, slots := 0, locals := 0 } : Room).slots) := by
  refine MetFree.of_bodySF (plainFor_of_name pn_0) hisR ?_
  intro p e s m args below meth c s₁ Bd hml0 hP hK
  obtain ⟨rfl, hZ, hh⟩ := hP
  have hx := Bd.exec
  have hby := Bd.bytes
  have hml : c.maxLocals = 6 := hml0
  have hown : s.vm.findClass "com/example/frontward/frontward/offline/Orderings" = some m.cls := findClass_of_methodNamed Bd.named
  have hnm := (name_of_methodNamed Bd.named Bd.method).1
  have X0 : Stand p l e ({ frames := 0, cells := 0, slots := 0, locals := 0 } : Room) s m #[(.int kk), (.ref b1), (.ref b2), (.int (2 : Int32))] below meth c s₁ [] 0 0 := Stand.of_body Bd
  have e0 : s₁.heap = h0 := by rw [← hh, Bd.state]; rfl
  have N0 := Fr.nil n0
  have pre0 : ∀ t, Steps p.tables e below (s₁.setTop (mkF m 0 #[.val (.int kk), .val (.ref b1), .val (.ref b2), .val (.int (2 : Int32)), .unset, .unset] [])) t → Steps p.tables e below (s₁.setTop (entryFrame m #[(.int kk), (.ref b1), (.ref b2), (.int (2 : Int32))] 6)) t := fun t k => castTop (ef_3 m kk b1 b2 (2 : Int32)) k
  obtain ⟨cl101, Ar101, q101, S101, N101_, H101, G101⟩ := id Vc
  have hin101 : ¬ ((2 : Int32) < 0 ∨ cl101.slots.size ≤ ((2 : Int32)).toNatClampNeg) := inb_of S101 ⟨by decide, by decide⟩
  have hat101 : cl101.slots[((2 : Int32)).toNatClampNeg]? = some (.int c2) := H101.at hin101 rfl
  obtain ⟨cl102, Ar102, q102, S102, N102_, H102, G102⟩ := id Vc
  have hin102 : ¬ ((3 : Int32) < 0 ∨ cl102.slots.size ≤ ((3 : Int32)).toNatClampNeg) := inb_of S102 ⟨by decide, by decide⟩
  have hat102 : cl102.slots[((3 : Int32)).toNatClampNeg]? = some (.int c3) := H102.at hin102 rfl
  have pre103 : ∀ t, Steps p.tables e below (s₁.setTop (mkF m 16 #[.val (.int kk), .val (.ref b1), .val (.ref b2), .val (.int (2 : Int32)), .val (.int c2), .val (.int c3)] [(.int c3), (.int c2)])) t → Steps p.tables e below (s₁.setTop (entryFrame m #[(.int kk), (.ref b1), (.ref b2), (.int (2 : Int32))] 6)) t := fun t kt => pre0 t (by
      show Steps p.tables e below (s₁.setTop (mkF m 0 #[.val (.int kk), .val (.ref b1), .val (.ref b2), .val (.int (2 : Int32)), .unset, .unset] [])) _
      refine XS.aloadN X0.here hx rfl (hb hby dc4_0) rfl rfl ?_
      refine XS.iloadN X0.here hx rfl (hb hby dc4_1) rfl ?_
      refine X0.iaload hx (j := (2 : Int32)) (v := (.int c2)) (by rw [e0]; exact Ar101.1) (State.isArrayOf_alike hZ.alike Ar101.2.1) Ar101.2.2 hin101 hat101 (g := (mkF m 2 #[.val (.int kk), .val (.ref b1), .val (.ref b2), .val (.int (2 : Int32)), .unset, .unset] [(.int (2 : Int32)), (.ref b1)])) rfl rfl (hb hby dc4_2) _ ?_
      refine XS.istore X0.here hx rfl (hb hby dc4_3) rfl (l' := #[.val (.int kk), .val (.ref b1), .val (.ref b2), .val (.int (2 : Int32)), .val (.int c2), .unset]) rfl ?_
      refine XS.aloadN X0.here hx rfl (hb hby dc4_5) rfl rfl ?_
      refine XS.iloadN X0.here hx rfl (hb hby dc4_6) rfl ?_
      refine XS.iconst X0.here hx rfl (hb hby dc4_7) ?_
      refine XS.iadd X0.here hx rfl (hb hby dc4_8) rfl ?_
      refine X0.iaload hx (j := (3 : Int32)) (v := (.int c3)) (by rw [e0]; exact Ar102.1) (State.isArrayOf_alike hZ.alike Ar102.2.1) Ar102.2.2 hin102 hat102 (g := (mkF m 9 #[.val (.int kk), .val (.ref b1), .val (.ref b2), .val (.int (2 : Int32)), .val (.int c2), .unset] [(.int (3 : Int32)), (.ref b1)])) rfl rfl (hb hby dc4_9) _ ?_
      refine XS.istore X0.here hx rfl (hb hby dc4_10) rfl (l' := #[.val (.int kk), .val (.ref b1), .val (.ref b2), .val (.int (2 : Int32)), .val (.int c2), .val (.int c3)]) rfl ?_
      refine XS.iload X0.here hx rfl (hb hby dc4_12) rfl ?_
      refine XS.iload X0.here hx rfl (hb hby dc4_14) rfl ?_
      exact kt)
  by_cases hc104 : c3 < c2
  · skip
    obtain ⟨cl105, Ar105, q105, S105, N105_, H105, G105⟩ := id Vp
    have hin105 : ¬ ((2 : Int32) < 0 ∨ cl105.slots.size ≤ ((2 : Int32)).toNatClampNeg) := inb_of S105 ⟨by decide, by decide⟩
    have hat105 : cl105.slots[((2 : Int32)).toNatClampNeg]? = some (.int (2 : Int32)) := H105.at hin105 rfl
    obtain ⟨cl106, Ar106, q106, S106, N106_, H106, G106⟩ := id Vp
    have hin106 : ¬ ((3 : Int32) < 0 ∨ cl106.slots.size ≤ ((3 : Int32)).toNatClampNeg) := inb_of S106 ⟨by decide, by decide⟩
    have hat106 : cl106.slots[((3 : Int32)).toNatClampNeg]? = some (.int (1 : Int32)) := H106.at hin106 rfl
    obtain ⟨fs, hr, hrun, hended, hW, hsame⟩ := X0.leave (v := some (.int ((kk + ((c3 - c2) * (2 : Int32))) + (((c2 - (1 : Int32)) - c3) * (1 : Int32))))) (fun h => by rw [Bd.returns] at h; cases h)
    refine ⟨_, _, pre103 _ ?_, hrun, hended, _, _, rfl, ?_, ⟨_, rfl⟩, hW, hsame.mono (by decide) (by decide)⟩
    · skip
      show Steps p.tables e below (s₁.setTop (mkF m 16 #[.val (.int kk), .val (.ref b1), .val (.ref b2), .val (.int (2 : Int32)), .val (.int c2), .val (.int c3)] [(.int c3), (.int c2)])) _
      refine XS.icmpYes X0.here hx rfl (pc0 := 16) (pc' := 45) rfl (hb hby dc4_16) rfl (tlt hc104).2.2.1 (by decide) (by decide) ?_
      refine XS.iloadN X0.here hx rfl (hb hby dc4_45) rfl ?_
      show Steps p.tables e below (s₁.setTop (mkF m 46 #[.val (.int kk), .val (.ref b1), .val (.ref b2), .val (.int (2 : Int32)), .val (.int c2), .val (.int c3)] [(.int kk)])) _
      refine XS.iload X0.here hx rfl (hb hby dc4_46) rfl ?_
      refine XS.iload X0.here hx rfl (hb hby dc4_48) rfl ?_
      refine XS.isub X0.here hx rfl (hb hby dc4_50) rfl ?_
      refine XS.aloadN X0.here hx rfl (hb hby dc4_51) rfl rfl ?_
      refine XS.iloadN X0.here hx rfl (hb hby dc4_52) rfl ?_
      refine X0.iaload hx (j := (2 : Int32)) (v := (.int (2 : Int32))) (by rw [e0]; exact Ar105.1) (State.isArrayOf_alike hZ.alike Ar105.2.1) Ar105.2.2 hin105 hat105 (g := (mkF m 53 #[.val (.int kk), .val (.ref b1), .val (.ref b2), .val (.int (2 : Int32)), .val (.int c2), .val (.int c3)] [(.int (2 : Int32)), (.ref b2), (.int (c3 - c2)), (.int kk)])) rfl rfl (hb hby dc4_53) _ ?_
      refine XS.imul X0.here hx rfl (hb hby dc4_54) rfl ?_
      refine XS.iadd X0.here hx rfl (hb hby dc4_55) rfl ?_
      refine XS.iload X0.here hx rfl (hb hby dc4_56) rfl ?_
      refine XS.iconst X0.here hx rfl (hb hby dc4_58) ?_
      refine XS.isub X0.here hx rfl (hb hby dc4_59) rfl ?_
      refine XS.iload X0.here hx rfl (hb hby dc4_60) rfl ?_
      refine XS.isub X0.here hx rfl (hb hby dc4_62) rfl ?_
      refine XS.aloadN X0.here hx rfl (hb hby dc4_63) rfl rfl ?_
      refine XS.iloadN X0.here hx rfl (hb hby dc4_64) rfl ?_
      refine XS.iconst X0.here hx rfl (hb hby dc4_65) ?_
      refine XS.iadd X0.here hx rfl (hb hby dc4_66) rfl ?_
      refine X0.iaload hx (j := (3 : Int32)) (v := (.int (1 : Int32))) (by rw [e0]; exact Ar106.1) (State.isArrayOf_alike hZ.alike Ar106.2.1) Ar106.2.2 hin106 hat106 (g := (mkF m 67 #[.val (.int kk), .val (.ref b1), .val (.ref b2), .val (.int (2 : Int32)), .val (.int c2), .val (.int c3)] [(.int (3 : Int32)), (.ref b2), (.int ((c2 - (1 : Int32)) - c3)), (.int (kk + ((c3 - c2) * (2 : Int32))))])) rfl rfl (hb hby dc4_67) _ ?_
      refine XS.imul X0.here hx rfl (hb hby dc4_68) rfl ?_
      refine XS.iadd X0.here hx rfl (hb hby dc4_69) rfl ?_
      show Steps p.tables e below (s₁.setTop (mkF m 70 #[.val (.int kk), .val (.ref b1), .val (.ref b2), .val (.int (2 : Int32)), .val (.int c2), .val (.int c3)] [(.int ((kk + ((c3 - c2) * (2 : Int32))) + (((c2 - (1 : Int32)) - c3) * (1 : Int32))))])) _
      exact retI X0 hx Bd.returns (hb hby dc4_70) hr
    · show Q_g (own_sw kk c2 c3 (2 : Int32) (1 : Int32)) h0 n0 _ s₁.heap _
      rw [e0]
      exact ⟨by simp [own_sw, hc104], N0, rfl⟩
  · skip
    obtain ⟨cl107, Ar107, q107, S107, N107_, H107, G107⟩ := id Vp
    have hin107 : ¬ ((2 : Int32) < 0 ∨ cl107.slots.size ≤ ((2 : Int32)).toNatClampNeg) := inb_of S107 ⟨by decide, by decide⟩
    have hat107 : cl107.slots[((2 : Int32)).toNatClampNeg]? = some (.int (2 : Int32)) := H107.at hin107 rfl
    obtain ⟨cl108, Ar108, q108, S108, N108_, H108, G108⟩ := id Vp
    have hin108 : ¬ ((3 : Int32) < 0 ∨ cl108.slots.size ≤ ((3 : Int32)).toNatClampNeg) := inb_of S108 ⟨by decide, by decide⟩
    have hat108 : cl108.slots[((3 : Int32)).toNatClampNeg]? = some (.int (1 : Int32)) := H108.at hin108 rfl
    obtain ⟨fs, hr, hrun, hended, hW, hsame⟩ := X0.leave (v := some (.int ((kk + (((c3 + (1 : Int32)) - c2) * (2 : Int32))) + ((c2 - c3) * (1 : Int32))))) (fun h => by rw [Bd.returns] at h; cases h)
    refine ⟨_, _, pre103 _ ?_, hrun, hended, _, _, rfl, ?_, ⟨_, rfl⟩, hW, hsame.mono (by decide) (by decide)⟩
    · skip
      show Steps p.tables e below (s₁.setTop (mkF m 16 #[.val (.int kk), .val (.ref b1), .val (.ref b2), .val (.int (2 : Int32)), .val (.int c2), .val (.int c3)] [(.int c3), (.int c2)])) _
      refine XS.icmpNo X0.here hx rfl (hb hby dc4_16) rfl (flt hc104).2.2.1 ?_
      refine XS.iloadN X0.here hx rfl (hb hby dc4_19) rfl ?_
      refine XS.iload X0.here hx rfl (hb hby dc4_20) rfl ?_
      refine XS.iconst X0.here hx rfl (hb hby dc4_22) ?_
      show Steps p.tables e below (s₁.setTop (mkF m 23 #[.val (.int kk), .val (.ref b1), .val (.ref b2), .val (.int (2 : Int32)), .val (.int c2), .val (.int c3)] [(.int (1 : Int32)), (.int c3), (.int kk)])) _
      refine XS.iadd X0.here hx rfl (hb hby dc4_23) rfl ?_
      refine XS.iload X0.here hx rfl (hb hby dc4_24) rfl ?_
      refine XS.isub X0.here hx rfl (hb hby dc4_26) rfl ?_
      refine XS.aloadN X0.here hx rfl (hb hby dc4_27) rfl rfl ?_
      refine XS.iloadN X0.here hx rfl (hb hby dc4_28) rfl ?_
      refine X0.iaload hx (j := (2 : Int32)) (v := (.int (2 : Int32))) (by rw [e0]; exact Ar107.1) (State.isArrayOf_alike hZ.alike Ar107.2.1) Ar107.2.2 hin107 hat107 (g := (mkF m 29 #[.val (.int kk), .val (.ref b1), .val (.ref b2), .val (.int (2 : Int32)), .val (.int c2), .val (.int c3)] [(.int (2 : Int32)), (.ref b2), (.int ((c3 + (1 : Int32)) - c2)), (.int kk)])) rfl rfl (hb hby dc4_29) _ ?_
      refine XS.imul X0.here hx rfl (hb hby dc4_30) rfl ?_
      refine XS.iadd X0.here hx rfl (hb hby dc4_31) rfl ?_
      refine XS.iload X0.here hx rfl (hb hby dc4_32) rfl ?_
      refine XS.iload X0.here hx rfl (hb hby dc4_34) rfl ?_
      refine XS.isub X0.here hx rfl (hb hby dc4_36) rfl ?_
      refine XS.aloadN X0.here hx rfl (hb hby dc4_37) rfl rfl ?_
      refine XS.iloadN X0.here hx rfl (hb hby dc4_38) rfl ?_
      refine XS.iconst X0.here hx rfl (hb hby dc4_39) ?_
      refine XS.iadd X0.here hx rfl (hb hby dc4_40) rfl ?_
      refine X0.iaload hx (j := (3 : Int32)) (v := (.int (1 : Int32))) (by rw [e0]; exact Ar108.1) (State.isArrayOf_alike hZ.alike Ar108.2.1) Ar108.2.2 hin108 hat108 (g := (mkF m 41 #[.val (.int kk), .val (.ref b1), .val (.ref b2), .val (.int (2 : Int32)), .val (.int c2), .val (.int c3)] [(.int (3 : Int32)), (.ref b2), (.int (c2 - c3)), (.int (kk + (((c3 + (1 : Int32)) - c2) * (2 : Int32))))])) rfl rfl (hb hby dc4_41) _ ?_
      refine XS.imul X0.here hx rfl (hb hby dc4_42) rfl ?_
      refine XS.iadd X0.here hx rfl (hb hby dc4_43) rfl ?_
      show Steps p.tables e below (s₁.setTop (mkF m 44 #[.val (.int kk), .val (.ref b1), .val (.ref b2), .val (.int (2 : Int32)), .val (.int c2), .val (.int c3)] [(.int ((kk + (((c3 + (1 : Int32)) - c2) * (2 : Int32))) + ((c2 - c3) * (1 : Int32))))])) _
      exact retI X0 hx Bd.returns (hb hby dc4_44) hr
    · show Q_g (own_sw kk c2 c3 (2 : Int32) (1 : Int32)) h0 n0 _ s₁.heap _
      rw [e0]
      exact ⟨by simp [own_sw, hc104], N0, rfl⟩
set_option maxRecDepth 65536 in
set_option maxHeartbeats 40000000 in
theorem rmSw5_3 (l : Launch) (Z : State) (a0 : Array Value) (hw : ∀ d ∈ tables_1, d.before a0 Z = true) (ws : List Jvm.Cond) (kk : Int32) (b1 b2 : Addr) (k1 k2 : ClassId) (c0 c1 c2 c3 c4 : Int32) (h0 : Heap) (n0 : Nat) (O0 : Old Z n0 h0) (Vc : Arv Z h0 b1 k1 .int (5 : Int32) [(.int c0), (.int c1), (.int c2), (.int c3), (.int c4)] (.int (0 : Int32))) (Vp : Arv Z h0 b2 k2 .int (5 : Int32) [(.int (24 : Int32)), (.int (6 : Int32)), (.int (2 : Int32)), (.int (1 : Int32)), (.int (1 : Int32))] (.int (0 : Int32))) :
    MetFree l (⟨"com/example/frontward/frontward/offline/Orderings", "swapped", "(I[I[II)I"⟩ : MethodName) (head1 (Jvm.Cond.code (⟨"com/example/frontward/frontward/offline/Orderings", "swapped", "(I[I[II)I"⟩ : MethodName) prog_26_method_2_code 6 (some .int) :: ws) ({ frames := 0, cells := 0, slots := 0, locals := 0 } : Room)) (fun a U => a = #[(.int kk), (.ref b1), (.ref b2), (.int (3 : Int32))] ∧ Z.Warmed39 U.vm ∧ U.heap = h0) (fun _ _ _ _ _ => True) (fun _ U o U' => ∃ v L, o = .returned v ∧ Q_g (own_sw kk c3 c4 (1 : Int32) (1 : Int32)) h0 n0 v U'.heap L ∧ FrameEnd U o U' L ({ frames := 0, cells := 0, slots := 0, locals := 0 } : Room).cells ({ frames := 0, cells := 0, slots := 0, locals := 0 } : Room).slots) := by
  refine MetFree.of_bodySF (plainFor_of_name pn_0) hisR ?_
  intro p e s m args below meth c s₁ Bd hml0 hP hK
  obtain ⟨rfl, hZ, hh⟩ := hP
  have hx := Bd.exec
  have hby := Bd.bytes
  have hml : c.maxLocals = 6 := hml0
  have hown : s.vm.findClass "com/example/frontward/frontward/offline/Orderings" = some m.cls := findClass_of_methodNamed Bd.named
  have hnm := (name_of_methodNamed Bd.named Bd.method).1
  have X0 : Stand p l e ({ frames := 0, cells := 0, slots := 0, locals := 0 } : Room) s m #[(.int kk), (.ref b1), (.ref b2), (.int (3 : Int32))] below meth c s₁ [] 0 0 := Stand.of_body Bd
  have e0 : s₁.heap = h0 := by rw [← hh, Bd.state]; rfl
  have N0 := Fr.nil n0
  have pre0 : ∀ t, Steps p.tables e below (s₁.setTop (mkF m 0 #[.val (.int kk), .val (.ref b1), .val (.ref b2), .val (.int (3 : Int32)), .unset, .unset] [])) t → Steps p.tables e below (s₁.setTop (entryFrame m #[(.int kk), (.ref b1), (.ref b2), (.int (3 : Int32))] 6)) t := fun t k => castTop (ef_3 m kk b1 b2 (3 : Int32)) k
  obtain ⟨cl101, Ar101, q101, S101, N101_, H101, G101⟩ := id Vc
  have hin101 : ¬ ((3 : Int32) < 0 ∨ cl101.slots.size ≤ ((3 : Int32)).toNatClampNeg) := inb_of S101 ⟨by decide, by decide⟩
  have hat101 : cl101.slots[((3 : Int32)).toNatClampNeg]? = some (.int c3) := H101.at hin101 rfl
  obtain ⟨cl102, Ar102, q102, S102, N102_, H102, G102⟩ := id Vc
  have hin102 : ¬ ((4 : Int32) < 0 ∨ cl102.slots.size ≤ ((4 : Int32)).toNatClampNeg) := inb_of S102 ⟨by decide, by decide⟩
  have hat102 : cl102.slots[((4 : Int32)).toNatClampNeg]? = some (.int c4) := H102.at hin102 rfl
  have pre103 : ∀ t, Steps p.tables e below (s₁.setTop (mkF m 16 #[.val (.int kk), .val (.ref b1), .val (.ref b2), .val (.int (3 : Int32)), .val (.int c3), .val (.int c4)] [(.int c4), (.int c3)])) t → Steps p.tables e below (s₁.setTop (entryFrame m #[(.int kk), (.ref b1), (.ref b2), (.int (3 : Int32))] 6)) t := fun t kt => pre0 t (by
      show Steps p.tables e below (s₁.setTop (mkF m 0 #[.val (.int kk), .val (.ref b1), .val (.ref b2), .val (.int (3 : Int32)), .unset, .unset] [])) _
      refine XS.aloadN X0.here hx rfl (hb hby dc4_0) rfl rfl ?_
      refine XS.iloadN X0.here hx rfl (hb hby dc4_1) rfl ?_
      refine X0.iaload hx (j := (3 : Int32)) (v := (.int c3)) (by rw [e0]; exact Ar101.1) (State.isArrayOf_alike hZ.alike Ar101.2.1) Ar101.2.2 hin101 hat101 (g := (mkF m 2 #[.val (.int kk), .val (.ref b1), .val (.ref b2), .val (.int (3 : Int32)), .unset, .unset] [(.int (3 : Int32)), (.ref b1)])) rfl rfl (hb hby dc4_2) _ ?_
      refine XS.istore X0.here hx rfl (hb hby dc4_3) rfl (l' := #[.val (.int kk), .val (.ref b1), .val (.ref b2), .val (.int (3 : Int32)), .val (.int c3), .unset]) rfl ?_
      refine XS.aloadN X0.here hx rfl (hb hby dc4_5) rfl rfl ?_
      refine XS.iloadN X0.here hx rfl (hb hby dc4_6) rfl ?_
      refine XS.iconst X0.here hx rfl (hb hby dc4_7) ?_
      refine XS.iadd X0.here hx rfl (hb hby dc4_8) rfl ?_
      refine X0.iaload hx (j := (4 : Int32)) (v := (.int c4)) (by rw [e0]; exact Ar102.1) (State.isArrayOf_alike hZ.alike Ar102.2.1) Ar102.2.2 hin102 hat102 (g := (mkF m 9 #[.val (.int kk), .val (.ref b1), .val (.ref b2), .val (.int (3 : Int32)), .val (.int c3), .unset] [(.int (4 : Int32)), (.ref b1)])) rfl rfl (hb hby dc4_9) _ ?_
      refine XS.istore X0.here hx rfl (hb hby dc4_10) rfl (l' := #[.val (.int kk), .val (.ref b1), .val (.ref b2), .val (.int (3 : Int32)), .val (.int c3), .val (.int c4)]) rfl ?_
      refine XS.iload X0.here hx rfl (hb hby dc4_12) rfl ?_
      refine XS.iload X0.here hx rfl (hb hby dc4_14) rfl ?_
      exact kt)
  by_cases hc104 : c4 < c3
  · skip
    obtain ⟨cl105, Ar105, q105, S105, N105_, H105, G105⟩ := id Vp
    have hin105 : ¬ ((3 : Int32) < 0 ∨ cl105.slots.size ≤ ((3 : Int32)).toNatClampNeg) := inb_of S105 ⟨by decide, by decide⟩
    have hat105 : cl105.slots[((3 : Int32)).toNatClampNeg]? = some (.int (1 : Int32)) := H105.at hin105 rfl
    obtain ⟨cl106, Ar106, q106, S106, N106_, H106, G106⟩ := id Vp
    have hin106 : ¬ ((4 : Int32) < 0 ∨ cl106.slots.size ≤ ((4 : Int32)).toNatClampNeg) := inb_of S106 ⟨by decide, by decide⟩
    have hat106 : cl106.slots[((4 : Int32)).toNatClampNeg]? = some (.int (1 : Int32)) := H106.at hin106 rfl
    obtain ⟨fs, hr, hrun, hended, hW, hsame⟩ := X0.leave (v := some (.int ((kk + ((c4 - c3) * (1 : Int32))) + (((c3 - (1 : Int32)) - c4) * (1 : Int32))))) (fun h => by rw [Bd.returns] at h; cases h)
    refine ⟨_, _, pre103 _ ?_, hrun, hended, _, _, rfl, ?_, ⟨_, rfl⟩, hW, hsame.mono (by decide) (by decide)⟩
    · skip
      show Steps p.tables e below (s₁.setTop (mkF m 16 #[.val (.int kk), .val (.ref b1), .val (.ref b2), .val (.int (3 : Int32)), .val (.int c3), .val (.int c4)] [(.int c4), (.int c3)])) _
      refine XS.icmpYes X0.here hx rfl (pc0 := 16) (pc' := 45) rfl (hb hby dc4_16) rfl (tlt hc104).2.2.1 (by decide) (by decide) ?_
      refine XS.iloadN X0.here hx rfl (hb hby dc4_45) rfl ?_
      show Steps p.tables e below (s₁.setTop (mkF m 46 #[.val (.int kk), .val (.ref b1), .val (.ref b2), .val (.int (3 : Int32)), .val (.int c3), .val (.int c4)] [(.int kk)])) _
      refine XS.iload X0.here hx rfl (hb hby dc4_46) rfl ?_
      refine XS.iload X0.here hx rfl (hb hby dc4_48) rfl ?_
      refine XS.isub X0.here hx rfl (hb hby dc4_50) rfl ?_
      refine XS.aloadN X0.here hx rfl (hb hby dc4_51) rfl rfl ?_
      refine XS.iloadN X0.here hx rfl (hb hby dc4_52) rfl ?_
      refine X0.iaload hx (j := (3 : Int32)) (v := (.int (1 : Int32))) (by rw [e0]; exact Ar105.1) (State.isArrayOf_alike hZ.alike Ar105.2.1) Ar105.2.2 hin105 hat105 (g := (mkF m 53 #[.val (.int kk), .val (.ref b1), .val (.ref b2), .val (.int (3 : Int32)), .val (.int c3), .val (.int c4)] [(.int (3 : Int32)), (.ref b2), (.int (c4 - c3)), (.int kk)])) rfl rfl (hb hby dc4_53) _ ?_
      refine XS.imul X0.here hx rfl (hb hby dc4_54) rfl ?_
      refine XS.iadd X0.here hx rfl (hb hby dc4_55) rfl ?_
      refine XS.iload X0.here hx rfl (hb hby dc4_56) rfl ?_
      refine XS.iconst X0.here hx rfl (hb hby dc4_58) ?_
      refine XS.isub X0.here hx rfl (hb hby dc4_59) rfl ?_
      refine XS.iload X0.here hx rfl (hb hby dc4_60) rfl ?_
      refine XS.isub X0.here hx rfl (hb hby dc4_62) rfl ?_
      refine XS.aloadN X0.here hx rfl (hb hby dc4_63) rfl rfl ?_
      refine XS.iloadN X0.here hx rfl (hb hby dc4_64) rfl ?_
      refine XS.iconst X0.here hx rfl (hb hby dc4_65) ?_
      refine XS.iadd X0.here hx rfl (hb hby dc4_66) rfl ?_
      refine X0.iaload hx (j := (4 : Int32)) (v := (.int (1 : Int32))) (by rw [e0]; exact Ar106.1) (State.isArrayOf_alike hZ.alike Ar106.2.1) Ar106.2.2 hin106 hat106 (g := (mkF m 67 #[.val (.int kk), .val (.ref b1), .val (.ref b2), .val (.int (3 : Int32)), .val (.int c3), .val (.int c4)] [(.int (4 : Int32)), (.ref b2), (.int ((c3 - (1 : Int32)) - c4)), (.int (kk + ((c4 - c3) * (1 : Int32))))])) rfl rfl (hb hby dc4_67) _ ?_
      refine XS.imul X0.here hx rfl (hb hby dc4_68) rfl ?_
      refine XS.iadd X0.here hx rfl (hb hby dc4_69) rfl ?_
      show Steps p.tables e below (s₁.setTop (mkF m 70 #[.val (.int kk), .val (.ref b1), .val (.ref b2), .val (.int (3 : Int32)), .val (.int c3), .val (.int c4)] [(.int ((kk + ((c4 - c3) * (1 : Int32))) + (((c3 - (1 : Int32)) - c4) * (1 : Int32))))])) _
      exact retI X0 hx Bd.returns (hb hby dc4_70) hr
    · show Q_g (own_sw kk c3 c4 (1 : Int32) (1 : Int32)) h0 n0 _ s₁.heap _
      rw [e0]
      exact ⟨by simp [own_sw, hc104], N0, rfl⟩
  · skip
    obtain ⟨cl107, Ar107, q107, S107, N107_, H107, G107⟩ := id Vp
    have hin107 : ¬ ((3 : Int32) < 0 ∨ cl107.slots.size ≤ ((3 : Int32)).toNatClampNeg) := inb_of S107 ⟨by decide, by decide⟩
    have hat107 : cl107.slots[((3 : Int32)).toNatClampNeg]? = some (.int (1 : Int32)) := H107.at hin107 rfl
    obtain ⟨cl108, Ar108, q108, S108, N108_, H108, G108⟩ := id Vp
    have hin108 : ¬ ((4 : Int32) < 0 ∨ cl108.slots.size ≤ ((4 : Int32)).toNatClampNeg) := inb_of S108 ⟨by decide, by decide⟩
    have hat108 : cl108.slots[((4 : Int32)).toNatClampNeg]? = some (.int (1 : Int32)) := H108.at hin108 rfl
    obtain ⟨fs, hr, hrun, hended, hW, hsame⟩ := X0.leave (v := some (.int ((kk + (((c4 + (1 : Int32)) - c3) * (1 : Int32))) + ((c3 - c4) * (1 : Int32))))) (fun h => by rw [Bd.returns] at h; cases h)
    refine ⟨_, _, pre103 _ ?_, hrun, hended, _, _, rfl, ?_, ⟨_, rfl⟩, hW, hsame.mono (by decide) (by decide)⟩
    · skip
      show Steps p.tables e below (s₁.setTop (mkF m 16 #[.val (.int kk), .val (.ref b1), .val (.ref b2), .val (.int (3 : Int32)), .val (.int c3), .val (.int c4)] [(.int c4), (.int c3)])) _
      refine XS.icmpNo X0.here hx rfl (hb hby dc4_16) rfl (flt hc104).2.2.1 ?_
      refine XS.iloadN X0.here hx rfl (hb hby dc4_19) rfl ?_
      refine XS.iload X0.here hx rfl (hb hby dc4_20) rfl ?_
      refine XS.iconst X0.here hx rfl (hb hby dc4_22) ?_
      show Steps p.tables e below (s₁.setTop (mkF m 23 #[.val (.int kk), .val (.ref b1), .val (.ref b2), .val (.int (3 : Int32)), .val (.int c3), .val (.int c4)] [(.int (1 : Int32)), (.int c4), (.int kk)])) _
      refine XS.iadd X0.here hx rfl (hb hby dc4_23) rfl ?_
      refine XS.iload X0.here hx rfl (hb hby dc4_24) rfl ?_
      refine XS.isub X0.here hx rfl (hb hby dc4_26) rfl ?_
      refine XS.aloadN X0.here hx rfl (hb hby dc4_27) rfl rfl ?_
      refine XS.iloadN X0.here hx rfl (hb hby dc4_28) rfl ?_
      refine X0.iaload hx (j := (3 : Int32)) (v := (.int (1 : Int32))) (by rw [e0]; exact Ar107.1) (State.isArrayOf_alike hZ.alike Ar107.2.1) Ar107.2.2 hin107 hat107 (g := (mkF m 29 #[.val (.int kk), .val (.ref b1), .val (.ref b2), .val (.int (3 : Int32)), .val (.int c3), .val (.int c4)] [(.int (3 : Int32)), (.ref b2), (.int ((c4 + (1 : Int32)) - c3)), (.int kk)])) rfl rfl (hb hby dc4_29) _ ?_
      refine XS.imul X0.here hx rfl (hb hby dc4_30) rfl ?_
      refine XS.iadd X0.here hx rfl (hb hby dc4_31) rfl ?_
      refine XS.iload X0.here hx rfl (hb hby dc4_32) rfl ?_
      refine XS.iload X0.here hx rfl (hb hby dc4_34) rfl ?_
      refine XS.isub X0.here hx rfl (hb hby dc4_36) rfl ?_
      refine XS.aloadN X0.here hx rfl (hb hby dc4_37) rfl rfl ?_
      refine XS.iloadN X0.here hx rfl (hb hby dc4_38) rfl ?_
      refine XS.iconst X0.here hx rfl (hb hby dc4_39) ?_
      refine XS.iadd X0.here hx rfl (hb hby dc4_40) rfl ?_
      refine X0.iaload hx (j := (4 : Int32)) (v := (.int (1 : Int32))) (by rw [e0]; exact Ar108.1) (State.isArrayOf_alike hZ.alike Ar108.2.1) Ar108.2.2 hin108 hat108 (g := (mkF m 41 #[.val (.int kk), .val (.ref b1), .val (.ref b2), .val (.int (3 : Int32)), .val (.int c3), .val (.int c4)] [(.int (4 : Int32)), (.ref b2), (.int (c3 - c4)), (.int (kk + (((c4 + (1 : Int32)) - c3) * (1 : Int32))))])) rfl rfl (hb hby dc4_41) _ ?_
      refine XS.imul X0.here hx rfl (hb hby dc4_42) rfl ?_
      refine XS.iadd X0.here hx rfl (hb hby dc4_43) rfl ?_
      show Steps p.tables e below (s₁.setTop (mkF m 44 #[.val (.int kk), .val (.ref b1), .val (.ref b2), .val (.int (3 : Int32)), .val (.int c3), .val (.int c4)] [(.int ((kk + (((c4 + (1 : Int32)) - c3) * (1 : Int32))) + ((c3 - c4) * (1 : Int32))))])) _
      exact retI X0 hx Bd.returns (hb hby dc4_44) hr
    · show Q_g (own_sw kk c3 c4 (1 : Int32) (1 : Int32)) h0 n0 _ s₁.heap _
      rw [e0]
      exact ⟨by simp [own_sw, hc104], N0, rfl⟩
set_option maxRecDepth 65536 in
set_option maxHeartbeats 40000000 in
theorem tn5 {p : Program} {l : Launch} {e : Env} {s : State} {m : MethodId} {args : Array Value} {below : List Frame} {meth : Method} {c : Code} {T0 : State} {locs : List Loc} {Z : State} {a0 : Array Value} {h0 : Heap} {n0 : Nat} (a1 bv bp bs bc bu : Addr) (kv kc ku : ClassId) (w7 w8 : Slot) (k : Fin 120) (kk c0 c1 c2 c3 c4 q0 q1 q2 q3 q4 : Int32) (P S : List Int32)
    (X0 : Stand p l e ({ frames := 2, cells := 5, slots := 1095, locals := 60 } : Room) s m args below meth c T0 locs 5 1095) (hx : p.tables.exec = Jvm.exec) (hZ : Z.Warmed39 s.vm) (hw : ∀ d ∈ tables_1, d.before a0 Z = true) (hby : c.code = prog_26_method_1_code) (hml : c.maxLocals = 9) (hown : s.vm.findClass "com/example/frontward/frontward/offline/Orderings" = some m.cls) (e0 : T0.heap = h0) (N0 : Fr n0 locs) (O0 : Old Z n0 h0) (hw7 : One w7) (hw8 : One w8) (Eo : Exa Z h0 a1 "com/example/frontward/frontward/offline/Orderings") (Fi : Fld Z h0 a1 "com/example/frontward/frontward/offline/Orderings" "items" "I" (.int (5 : Int32))) (Fc : Fld Z h0 a1 "com/example/frontward/frontward/offline/Orderings" "count" "I" (.int (120 : Int32))) (Fp : Fld Z h0 a1 "com/example/frontward/frontward/offline/Orderings" "positions" "[B" (.ref bp)) (Fs : Fld Z h0 a1 "com/example/frontward/frontward/offline/Orderings" "swaps" "[I" (.ref bs)) (Vv : Arv Z h0 bv kv .int (5 : Int32) [(.int (24 : Int32)), (.int (6 : Int32)), (.int (2 : Int32)), (.int (1 : Int32)), (.int (1 : Int32))] (.int (0 : Int32))) (Vc : Arv Z h0 bc kc .int (5 : Int32) [(.int c0), (.int c1), (.int c2), (.int c3), (.int c4)] (.int (0 : Int32))) (Vu : Arv Z h0 bu ku .int (5 : Int32) [(.int q0), (.int q1), (.int q2), (.int q3), (.int q4)] (.int (0 : Int32))) (Lp : La Z h0 bp .byte (600 : Int32) P) (Ls : La Z h0 bs .int (480 : Int32) S) (ne_a1_bv : a1 ≠ bv) (ne_a1_bp : a1 ≠ bp) (ne_a1_bs : a1 ≠ bs) (ne_a1_bc : a1 ≠ bc) (ne_a1_bu : a1 ≠ bu) (ne_bv_bp : bv ≠ bp) (ne_bv_bs : bv ≠ bs) (ne_bv_bc : bv ≠ bc) (ne_bv_bu : bv ≠ bu) (ne_bp_bs : bp ≠ bs) (ne_bp_bc : bp ≠ bc) (ne_bp_bu : bp ≠ bu) (ne_bs_bc : bs ≠ bc) (ne_bs_bu : bs ≠ bu) (ne_bc_bu : bc ≠ bu) (g_bp : n0 ≤ bp) (g_bs : n0 ≤ bs) (g_bc : n0 ≤ bc) (g_bu : n0 ≤ bu) (hkk : kk = Int32.ofNat k.val) (hc0 : c0 = own_d5_0 k.val) (hc1 : c1 = own_d5_1 k.val) (hc2 : c2 = own_d5_2 k.val) (hc3 : c3 = own_d5_3 k.val) (hc4 : c4 = own_d5_4 k.val) :
    ∃ (T' : State) (h' : Heap) (L' : List Loc) (w7' w8' : Slot), Stand p l e ({ frames := 2, cells := 5, slots := 1095, locals := 60 } : Room) s m args below meth c T' L' 5 1095 ∧ T'.heap = h' ∧ Fr n0 L' ∧ Old Z n0 h' ∧ Keep h0 h' [bp, bs, bc, bu] ∧ Exa Z h' a1 "com/example/frontward/frontward/offline/Orderings" ∧ Fld Z h' a1 "com/example/frontward/frontward/offline/Orderings" "items" "I" (.int (5 : Int32)) ∧ Fld Z h' a1 "com/example/frontward/frontward/offline/Orderings" "count" "I" (.int (120 : Int32)) ∧ Fld Z h' a1 "com/example/frontward/frontward/offline/Orderings" "positions" "[B" (.ref bp) ∧ Fld Z h' a1 "com/example/frontward/frontward/offline/Orderings" "swaps" "[I" (.ref bs) ∧ Arv Z h' bv kv .int (5 : Int32) [(.int (24 : Int32)), (.int (6 : Int32)), (.int (2 : Int32)), (.int (1 : Int32)), (.int (1 : Int32))] (.int (0 : Int32)) ∧ Arv Z h' bc kc .int (5 : Int32) [(.int (own_d5_0 (k.val + 1))), (.int (own_d5_1 (k.val + 1))), (.int (own_d5_2 (k.val + 1))), (.int (own_d5_3 (k.val + 1))), (.int (own_d5_4 (k.val + 1)))] (.int (0 : Int32)) ∧ (∃ q0 q1 q2 q3 q4 : Int32, Arv Z h' bu ku .int (5 : Int32) [(.int q0), (.int q1), (.int q2), (.int q3), (.int q4)] (.int (0 : Int32))) ∧ La Z h' bp .byte (600 : Int32) (own_tP5 (Int32.ofNat k.val) (own_d5_0 k.val) (own_d5_1 k.val) (own_d5_2 k.val) (own_d5_3 k.val) (own_d5_4 k.val) P) ∧ La Z h' bs .int (480 : Int32) (own_tS5 (Int32.ofNat k.val) (own_d5_0 k.val) (own_d5_1 k.val) (own_d5_2 k.val) (own_d5_3 k.val) (own_d5_4 k.val) S) ∧ One w7' ∧ One w8' ∧ ∀ t, Steps p.tables e below (T'.setTop (mkF m 112 #[.val (.ref a1), .val (.int (5 : Int32)), .val (.ref bv), .val (.int (120 : Int32)), .val (.ref bc), .val (.ref bu), .val (.int (Int32.ofNat (k.val + 1))), w7', w8'] [])) t → Steps p.tables e below (T0.setTop (mkF m 112 #[.val (.ref a1), .val (.int (5 : Int32)), .val (.ref bv), .val (.int (120 : Int32)), .val (.ref bc), .val (.ref bu), .val (.int kk), w7, w8] [])) t := by
  have hd0 : c0 = (0 : Int32) ∨ c0 = (1 : Int32) ∨ c0 = (2 : Int32) ∨ c0 = (3 : Int32) ∨ c0 = (4 : Int32) := by rw [hc0]; exact own_dd5_0 k
  have hd1 : c1 = (0 : Int32) ∨ c1 = (1 : Int32) ∨ c1 = (2 : Int32) ∨ c1 = (3 : Int32) := by rw [hc1]; exact own_dd5_1 k
  have hd2 : c2 = (0 : Int32) ∨ c2 = (1 : Int32) ∨ c2 = (2 : Int32) := by rw [hc2]; exact own_dd5_2 k
  have hd3 : c3 = (0 : Int32) ∨ c3 = (1 : Int32) := by rw [hc3]; exact own_dd5_3 k
  have hd4 : c4 = (0 : Int32) := by rw [hc4]; exact own_dd5_4 k
  have hkb : own_bd 120 kk := by rw [hkk]; exact (own_kb5 k).1
  have hkl : kk < (120 : Int32) := by rw [hkk]; exact (own_kb5 k).2
  have pre0 : ∀ t, Steps p.tables e below (T0.setTop (mkF m 112 #[.val (.ref a1), .val (.int (5 : Int32)), .val (.ref bv), .val (.int (120 : Int32)), .val (.ref bc), .val (.ref bu), .val (.int kk), w7, w8] [])) t → Steps p.tables e below (T0.setTop (mkF m 112 #[.val (.ref a1), .val (.int (5 : Int32)), .val (.ref bv), .val (.int (120 : Int32)), .val (.ref bc), .val (.ref bu), .val (.int kk), w7, w8] [])) t := fun _ k => k
  obtain ⟨T101, X101, e101, st101⟩ := getF X0 hx hZ hown (host := "") (Or.inl (hw _ (List.mem_of_getElem? (i := 12) rfl))) Via.refl e0 Fc (g := (mkF m 115 #[.val (.ref a1), .val (.int (5 : Int32)), .val (.ref bv), .val (.int (120 : Int32)), .val (.ref bc), .val (.ref bu), .val (.int kk), w7, w8] [(.ref a1), (.int kk)])) rfl rfl (hb hby dc5_115)
  obtain ⟨cl102, Ar102, q102, S102, N102_, H102, G102⟩ := id Vu
  have hin102 : ¬ ((0 : Int32) < 0 ∨ cl102.slots.size ≤ ((0 : Int32)).toNatClampNeg) := inb_of S102 ⟨by decide, by decide⟩
  obtain ⟨T103, h103, X103, e103, W103, st103⟩ := stI X101 hx hZ e101 Ar102 (j := (0 : Int32)) hin102 (g := (mkF m 136 #[.val (.ref a1), .val (.int (5 : Int32)), .val (.ref bv), .val (.int (120 : Int32)), .val (.ref bc), .val (.ref bu), .val (.int kk), .val (.int (0 : Int32)), w8] [(.int (0 : Int32)), (.int (0 : Int32)), (.ref bu)])) rfl rfl (hb hby dc5_136)
  have V103 : Arv Z h103 bu ku .int (5 : Int32) [(.int (0 : Int32)), (.int q1), (.int q2), (.int q3), (.int q4)] (.int (0 : Int32)) := Arv.set Ar102 q102 S102 N102_ H102 G102 rfl W103 0 rfl (Nat.le_of_ble_eq_true rfl)
  have N103 := Fr.snoc X103 N0 g_bu
  obtain ⟨cl104, Ar104, q104, S104, N104_, H104, G104⟩ := id V103
  have hin104 : ¬ ((1 : Int32) < 0 ∨ cl104.slots.size ≤ ((1 : Int32)).toNatClampNeg) := inb_of S104 ⟨by decide, by decide⟩
  obtain ⟨T105, h105, X105, e105, W105, st105⟩ := stI X103 hx hZ e103 Ar104 (j := (1 : Int32)) hin104 (g := (mkF m 136 #[.val (.ref a1), .val (.int (5 : Int32)), .val (.ref bv), .val (.int (120 : Int32)), .val (.ref bc), .val (.ref bu), .val (.int kk), .val (.int (1 : Int32)), w8] [(.int (1 : Int32)), (.int (1 : Int32)), (.ref bu)])) rfl rfl (hb hby dc5_136)
  have V105 : Arv Z h105 bu ku .int (5 : Int32) [(.int (0 : Int32)), (.int (1 : Int32)), (.int q2), (.int q3), (.int q4)] (.int (0 : Int32)) := Arv.set Ar104 q104 S104 N104_ H104 G104 rfl W105 1 rfl (Nat.le_of_ble_eq_true rfl)
  have N105 := Fr.snoc X105 N103 g_bu
  obtain ⟨cl106, Ar106, q106, S106, N106_, H106, G106⟩ := id V105
  have hin106 : ¬ ((2 : Int32) < 0 ∨ cl106.slots.size ≤ ((2 : Int32)).toNatClampNeg) := inb_of S106 ⟨by decide, by decide⟩
  obtain ⟨T107, h107, X107, e107, W107, st107⟩ := stI X105 hx hZ e105 Ar106 (j := (2 : Int32)) hin106 (g := (mkF m 136 #[.val (.ref a1), .val (.int (5 : Int32)), .val (.ref bv), .val (.int (120 : Int32)), .val (.ref bc), .val (.ref bu), .val (.int kk), .val (.int (2 : Int32)), w8] [(.int (2 : Int32)), (.int (2 : Int32)), (.ref bu)])) rfl rfl (hb hby dc5_136)
  have V107 : Arv Z h107 bu ku .int (5 : Int32) [(.int (0 : Int32)), (.int (1 : Int32)), (.int (2 : Int32)), (.int q3), (.int q4)] (.int (0 : Int32)) := Arv.set Ar106 q106 S106 N106_ H106 G106 rfl W107 2 rfl (Nat.le_of_ble_eq_true rfl)
  have N107 := Fr.snoc X107 N105 g_bu
  obtain ⟨cl108, Ar108, q108, S108, N108_, H108, G108⟩ := id V107
  have hin108 : ¬ ((3 : Int32) < 0 ∨ cl108.slots.size ≤ ((3 : Int32)).toNatClampNeg) := inb_of S108 ⟨by decide, by decide⟩
  obtain ⟨T109, h109, X109, e109, W109, st109⟩ := stI X107 hx hZ e107 Ar108 (j := (3 : Int32)) hin108 (g := (mkF m 136 #[.val (.ref a1), .val (.int (5 : Int32)), .val (.ref bv), .val (.int (120 : Int32)), .val (.ref bc), .val (.ref bu), .val (.int kk), .val (.int (3 : Int32)), w8] [(.int (3 : Int32)), (.int (3 : Int32)), (.ref bu)])) rfl rfl (hb hby dc5_136)
  have V109 : Arv Z h109 bu ku .int (5 : Int32) [(.int (0 : Int32)), (.int (1 : Int32)), (.int (2 : Int32)), (.int (3 : Int32)), (.int q4)] (.int (0 : Int32)) := Arv.set Ar108 q108 S108 N108_ H108 G108 rfl W109 3 rfl (Nat.le_of_ble_eq_true rfl)
  have N109 := Fr.snoc X109 N107 g_bu
  obtain ⟨cl110, Ar110, q110, S110, N110_, H110, G110⟩ := id V109
  have hin110 : ¬ ((4 : Int32) < 0 ∨ cl110.slots.size ≤ ((4 : Int32)).toNatClampNeg) := inb_of S110 ⟨by decide, by decide⟩
  obtain ⟨T111, h111, X111, e111, W111, st111⟩ := stI X109 hx hZ e109 Ar110 (j := (4 : Int32)) hin110 (g := (mkF m 136 #[.val (.ref a1), .val (.int (5 : Int32)), .val (.ref bv), .val (.int (120 : Int32)), .val (.ref bc), .val (.ref bu), .val (.int kk), .val (.int (4 : Int32)), w8] [(.int (4 : Int32)), (.int (4 : Int32)), (.ref bu)])) rfl rfl (hb hby dc5_136)
  have V111 : Arv Z h111 bu ku .int (5 : Int32) [(.int (0 : Int32)), (.int (1 : Int32)), (.int (2 : Int32)), (.int (3 : Int32)), (.int (4 : Int32))] (.int (0 : Int32)) := Arv.set Ar110 q110 S110 N110_ H110 G110 rfl W111 4 rfl (Nat.le_of_ble_eq_true rfl)
  have N111 := Fr.snoc X111 N109 g_bu
  have f112 := (((((Vc.other W103 ne_bc_bu).other W105 ne_bc_bu).other W107 ne_bc_bu).other W109 ne_bc_bu).other W111 ne_bc_bu)
  obtain ⟨cl113, Ar113, q113, S113, N113_, H113, G113⟩ := id f112
  have hin113 : ¬ ((0 : Int32) < 0 ∨ cl113.slots.size ≤ ((0 : Int32)).toNatClampNeg) := inb_of S113 ⟨by decide, by decide⟩
  have hat113 : cl113.slots[((0 : Int32)).toNatClampNeg]? = some (.int c0) := H113.at hin113 rfl
  obtain ⟨cl114, Ar114, q114, S114, N114_, H114, G114⟩ := id V111
  obtain ⟨it115, hit115⟩ : ∃ z, z = own_nth5 c0 (0 : Int32) (1 : Int32) (2 : Int32) (3 : Int32) (4 : Int32) := ⟨_, rfl⟩
  have bit115 : own_bd 5 it115 := by rw [hit115]; exact own_nb5 (by decide : own_bd 5 (0 : Int32)) (by decide : own_bd 5 (1 : Int32)) (by decide : own_bd 5 (2 : Int32)) (by decide : own_bd 5 (3 : Int32)) (by decide : own_bd 5 (4 : Int32))
  have hin114 : ¬ (c0 < 0 ∨ cl114.slots.size ≤ (c0).toNatClampNeg) := inb_of S114 (own_pin5_0 hd0)
  have hat114 : cl114.slots[(c0).toNatClampNeg]? = some (.int it115) := H114.at hin114 (by rw [hit115]; exact own_nl5_0 hd0)
  obtain ⟨cl116, Ar116, q116, S116, N116_, H116, G116⟩ := id f112
  have hin116 : ¬ ((0 : Int32) < 0 ∨ cl116.slots.size ≤ ((0 : Int32)).toNatClampNeg) := inb_of S116 ⟨by decide, by decide⟩
  have hat116 : cl116.slots[((0 : Int32)).toNatClampNeg]? = some (.int c0) := H116.at hin116 rfl
  obtain ⟨cl117, Ar117, q117, S117, N117_, H117, G117⟩ := id f112
  have hin117 : ¬ ((0 : Int32) < 0 ∨ cl117.slots.size ≤ ((0 : Int32)).toNatClampNeg) := inb_of S117 ⟨by decide, by decide⟩
  have hat117 : cl117.slots[((0 : Int32)).toNatClampNeg]? = some (.int c0) := H117.at hin117 rfl
  obtain ⟨cl118, Ar118, q118, S118, N118_, H118, G118⟩ := id f112
  have hin118 : ¬ ((0 : Int32) < 0 ∨ cl118.slots.size ≤ ((0 : Int32)).toNatClampNeg) := inb_of S118 ⟨by decide, by decide⟩
  have hat118 : cl118.slots[((0 : Int32)).toNatClampNeg]? = some (.int c0) := H118.at hin118 rfl
  obtain ⟨T119, h119, L119, X119, e119, N119, K119, V119_, st119⟩ := cpA X111 hx hZ hown (hw _ (List.mem_of_getElem? (i := 19) rfl)) (hw _ (List.mem_of_getElem? (i := 22) rfl)) (hw _ (List.mem_of_getElem? (i := 20) rfl)) (hw _ (List.mem_of_getElem? (i := 21) rfl)) e111 V111 V111 (Or.inl ⟨rfl, rfl⟩) (own_cp5_0 (u0 := (0 : Int32)) (u1 := (1 : Int32)) (u2 := (2 : Int32)) (u3 := (3 : Int32)) (u4 := (4 : Int32)) hd0).1 (own_cp5_0 (u0 := (0 : Int32)) (u1 := (1 : Int32)) (u2 := (2 : Int32)) (u3 := (3 : Int32)) (u4 := (4 : Int32)) hd0).2.1 (own_cp5_0 (u0 := (0 : Int32)) (u1 := (1 : Int32)) (u2 := (2 : Int32)) (u3 := (3 : Int32)) (u4 := (4 : Int32)) hd0).2.2.1 (own_cp5_0 (u0 := (0 : Int32)) (u1 := (1 : Int32)) (u2 := (2 : Int32)) (u3 := (3 : Int32)) (u4 := (4 : Int32)) hd0).2.2.2.1 (own_cp5_0 (u0 := (0 : Int32)) (u1 := (1 : Int32)) (u2 := (2 : Int32)) (u3 := (3 : Int32)) (u4 := (4 : Int32)) hd0).2.2.2.2.1 rfl (Nat.le_trans (own_cp5_0 (u0 := (0 : Int32)) (u1 := (1 : Int32)) (u2 := (2 : Int32)) (u3 := (3 : Int32)) (u4 := (4 : Int32)) hd0).2.2.2.2.1 (by decide : (5 : Int32).toNatClampNeg ≤ 5)) N111 g_bu (g := (mkF m 190 #[.val (.ref a1), .val (.int (5 : Int32)), .val (.ref bv), .val (.int (120 : Int32)), .val (.ref bc), .val (.ref bu), .val (.int kk), .val (.int (0 : Int32)), .val (.int it115)] [(.int ((4 : Int32) - c0)), (.int c0), (.ref bu), (.int (c0 + (1 : Int32))), (.ref bu)])) rfl (by rw [hml]; rfl) rfl (hb hby dc5_190) (by decide) (W := 0) (by show 2 * 0 + _ ≤ _; exact Nat.le_of_eq rfl) (by decide)
  have V119 : Arv Z h119 bu ku .int (5 : Int32) [(.int (own_sh c0 (0 : Int32) (0 : Int32) (1 : Int32))), (.int (own_sh c0 (1 : Int32) (1 : Int32) (2 : Int32))), (.int (own_sh c0 (2 : Int32) (2 : Int32) (3 : Int32))), (.int (own_sh c0 (3 : Int32) (3 : Int32) (4 : Int32))), (.int (4 : Int32))] (.int (0 : Int32)) := by have q := V119_; rw [(own_cp5_0 (u0 := (0 : Int32)) (u1 := (1 : Int32)) (u2 := (2 : Int32)) (u3 := (3 : Int32)) (u4 := (4 : Int32)) hd0).2.2.2.2.2] at q; exact q
  obtain ⟨u120, hu120⟩ : ∃ z, z = (own_sh c0 (0 : Int32) (0 : Int32) (1 : Int32)) := ⟨_, rfl⟩
  rw [← hu120] at V119
  have bu120 : own_bd 5 u120 := by rw [hu120]; exact own_sh_bd (by decide : own_bd 5 (0 : Int32)) (by decide : own_bd 5 (1 : Int32))
  obtain ⟨u121, hu121⟩ : ∃ z, z = (own_sh c0 (1 : Int32) (1 : Int32) (2 : Int32)) := ⟨_, rfl⟩
  rw [← hu121] at V119
  have bu121 : own_bd 5 u121 := by rw [hu121]; exact own_sh_bd (by decide : own_bd 5 (1 : Int32)) (by decide : own_bd 5 (2 : Int32))
  obtain ⟨u122, hu122⟩ : ∃ z, z = (own_sh c0 (2 : Int32) (2 : Int32) (3 : Int32)) := ⟨_, rfl⟩
  rw [← hu122] at V119
  have bu122 : own_bd 5 u122 := by rw [hu122]; exact own_sh_bd (by decide : own_bd 5 (2 : Int32)) (by decide : own_bd 5 (3 : Int32))
  obtain ⟨u123, hu123⟩ : ∃ z, z = (own_sh c0 (3 : Int32) (3 : Int32) (4 : Int32)) := ⟨_, rfl⟩
  rw [← hu123] at V119
  have bu123 : own_bd 5 u123 := by rw [hu123]; exact own_sh_bd (by decide : own_bd 5 (3 : Int32)) (by decide : own_bd 5 (4 : Int32))
  have f124 := ((((((Fp.other W103 (Or.inl ne_a1_bu)).other W105 (Or.inl ne_a1_bu)).other W107 (Or.inl ne_a1_bu)).other W109 (Or.inl ne_a1_bu)).other W111 (Or.inl ne_a1_bu)).keep K119 (ninS ne_a1_bu nin0))
  obtain ⟨T125, X125, e125, st125⟩ := getF X119 hx hZ hown (host := "") (Or.inl (hw _ (List.mem_of_getElem? (i := 15) rfl))) Via.refl e119 f124 (g := (mkF m 194 #[.val (.ref a1), .val (.int (5 : Int32)), .val (.ref bv), .val (.int (120 : Int32)), .val (.ref bc), .val (.ref bu), .val (.int kk), .val (.int (0 : Int32)), .val (.int it115)] [(.ref a1)])) rfl rfl (hb hby dc5_194)
  have f126 := ((((((Fc.other W103 (Or.inl ne_a1_bu)).other W105 (Or.inl ne_a1_bu)).other W107 (Or.inl ne_a1_bu)).other W109 (Or.inl ne_a1_bu)).other W111 (Or.inl ne_a1_bu)).keep K119 (ninS ne_a1_bu nin0))
  obtain ⟨T127, X127, e127, st127⟩ := getF X125 hx hZ hown (host := "") (Or.inl (hw _ (List.mem_of_getElem? (i := 12) rfl))) Via.refl e125 f126 (g := (mkF m 200 #[.val (.ref a1), .val (.int (5 : Int32)), .val (.ref bv), .val (.int (120 : Int32)), .val (.ref bc), .val (.ref bu), .val (.int kk), .val (.int (0 : Int32)), .val (.int it115)] [(.ref a1), (.int it115), (.ref bp)])) rfl rfl (hb hby dc5_200)
  have f128 := ((((((Lp.other W103 ne_bp_bu).other W105 ne_bp_bu).other W107 ne_bp_bu).other W109 ne_bp_bu).other W111 ne_bp_bu).keep K119 (ninS ne_bp_bu nin0))
  obtain ⟨cl129, Ar129, hin129, up129⟩ := La.up (j := ((it115 * (120 : Int32)) + kk)) f128 (own_ix (n := 5) (cn := 120) bit115 hkb (by decide) (by decide) (by decide) (by decide) (by decide))
  obtain ⟨T130, h130, X130, e130, W130, st130⟩ := stB X127 hx hZ e127 Ar129 (j := ((it115 * (120 : Int32)) + kk)) hin129 (g := (mkF m 210 #[.val (.ref a1), .val (.int (5 : Int32)), .val (.ref bv), .val (.int (120 : Int32)), .val (.ref bc), .val (.ref bu), .val (.int kk), .val (.int (0 : Int32)), .val (.int it115)] [(.int (0 : Int32)), (.int ((it115 * (120 : Int32)) + kk)), (.ref bp)])) rfl rfl (hb hby dc5_210)
  have A130 : La Z h130 bp .byte (600 : Int32) (P.set (((it115 * (120 : Int32)) + kk)).toNatClampNeg (0 : Int32)) := up129 _ (by first | rfl | decide) _ W130
  have N130 := Fr.snoc X130 N119 g_bp
  have f131 := ((f112.keep K119 (ninS ne_bc_bu nin0)).other W130 (Ne.symm ne_bp_bc))
  obtain ⟨cl132, Ar132, q132, S132, N132_, H132, G132⟩ := id f131
  have hin132 : ¬ ((1 : Int32) < 0 ∨ cl132.slots.size ≤ ((1 : Int32)).toNatClampNeg) := inb_of S132 ⟨by decide, by decide⟩
  have hat132 : cl132.slots[((1 : Int32)).toNatClampNeg]? = some (.int c1) := H132.at hin132 rfl
  have f133 := (V119.other W130 (Ne.symm ne_bp_bu))
  obtain ⟨cl134, Ar134, q134, S134, N134_, H134, G134⟩ := id f133
  obtain ⟨it135, hit135⟩ : ∃ z, z = own_nth5 c1 u120 u121 u122 u123 (4 : Int32) := ⟨_, rfl⟩
  have bit135 : own_bd 5 it135 := by rw [hit135]; exact own_nb5 bu120 bu121 bu122 bu123 (by decide : own_bd 5 (4 : Int32))
  have hin134 : ¬ (c1 < 0 ∨ cl134.slots.size ≤ (c1).toNatClampNeg) := inb_of S134 (own_pin5_1 hd1)
  have hat134 : cl134.slots[(c1).toNatClampNeg]? = some (.int it135) := H134.at hin134 (by rw [hit135]; exact own_nl5_1 hd1)
  obtain ⟨cl136, Ar136, q136, S136, N136_, H136, G136⟩ := id f131
  have hin136 : ¬ ((1 : Int32) < 0 ∨ cl136.slots.size ≤ ((1 : Int32)).toNatClampNeg) := inb_of S136 ⟨by decide, by decide⟩
  have hat136 : cl136.slots[((1 : Int32)).toNatClampNeg]? = some (.int c1) := H136.at hin136 rfl
  obtain ⟨cl137, Ar137, q137, S137, N137_, H137, G137⟩ := id f131
  have hin137 : ¬ ((1 : Int32) < 0 ∨ cl137.slots.size ≤ ((1 : Int32)).toNatClampNeg) := inb_of S137 ⟨by decide, by decide⟩
  have hat137 : cl137.slots[((1 : Int32)).toNatClampNeg]? = some (.int c1) := H137.at hin137 rfl
  obtain ⟨cl138, Ar138, q138, S138, N138_, H138, G138⟩ := id f131
  have hin138 : ¬ ((1 : Int32) < 0 ∨ cl138.slots.size ≤ ((1 : Int32)).toNatClampNeg) := inb_of S138 ⟨by decide, by decide⟩
  have hat138 : cl138.slots[((1 : Int32)).toNatClampNeg]? = some (.int c1) := H138.at hin138 rfl
  obtain ⟨T139, h139, L139, X139, e139, N139, K139, V139_, st139⟩ := cpA X130 hx hZ hown (hw _ (List.mem_of_getElem? (i := 19) rfl)) (hw _ (List.mem_of_getElem? (i := 22) rfl)) (hw _ (List.mem_of_getElem? (i := 20) rfl)) (hw _ (List.mem_of_getElem? (i := 21) rfl)) e130 f133 f133 (Or.inl ⟨rfl, rfl⟩) (own_cp5_1 (u0 := u120) (u1 := u121) (u2 := u122) (u3 := u123) (u4 := (4 : Int32)) hd1).1 (own_cp5_1 (u0 := u120) (u1 := u121) (u2 := u122) (u3 := u123) (u4 := (4 : Int32)) hd1).2.1 (own_cp5_1 (u0 := u120) (u1 := u121) (u2 := u122) (u3 := u123) (u4 := (4 : Int32)) hd1).2.2.1 (own_cp5_1 (u0 := u120) (u1 := u121) (u2 := u122) (u3 := u123) (u4 := (4 : Int32)) hd1).2.2.2.1 (own_cp5_1 (u0 := u120) (u1 := u121) (u2 := u122) (u3 := u123) (u4 := (4 : Int32)) hd1).2.2.2.2.1 rfl (Nat.le_trans (own_cp5_1 (u0 := u120) (u1 := u121) (u2 := u122) (u3 := u123) (u4 := (4 : Int32)) hd1).2.2.2.2.1 (by decide : (5 : Int32).toNatClampNeg ≤ 5)) N130 g_bu (g := (mkF m 190 #[.val (.ref a1), .val (.int (5 : Int32)), .val (.ref bv), .val (.int (120 : Int32)), .val (.ref bc), .val (.ref bu), .val (.int kk), .val (.int (1 : Int32)), .val (.int it135)] [(.int ((3 : Int32) - c1)), (.int c1), (.ref bu), (.int (c1 + (1 : Int32))), (.ref bu)])) rfl (by rw [hml]; rfl) rfl (hb hby dc5_190) (by decide) (W := 0) (by show 2 * 0 + _ ≤ _; exact Nat.le_of_eq rfl) (by decide)
  have V139 : Arv Z h139 bu ku .int (5 : Int32) [(.int (own_sh c1 (0 : Int32) u120 u121)), (.int (own_sh c1 (1 : Int32) u121 u122)), (.int (own_sh c1 (2 : Int32) u122 u123)), (.int u123), (.int (4 : Int32))] (.int (0 : Int32)) := by have q := V139_; rw [(own_cp5_1 (u0 := u120) (u1 := u121) (u2 := u122) (u3 := u123) (u4 := (4 : Int32)) hd1).2.2.2.2.2] at q; exact q
  obtain ⟨u140, hu140⟩ : ∃ z, z = (own_sh c1 (0 : Int32) u120 u121) := ⟨_, rfl⟩
  rw [← hu140] at V139
  have bu140 : own_bd 5 u140 := by rw [hu140]; exact own_sh_bd bu120 bu121
  obtain ⟨u141, hu141⟩ : ∃ z, z = (own_sh c1 (1 : Int32) u121 u122) := ⟨_, rfl⟩
  rw [← hu141] at V139
  have bu141 : own_bd 5 u141 := by rw [hu141]; exact own_sh_bd bu121 bu122
  obtain ⟨u142, hu142⟩ : ∃ z, z = (own_sh c1 (2 : Int32) u122 u123) := ⟨_, rfl⟩
  rw [← hu142] at V139
  have bu142 : own_bd 5 u142 := by rw [hu142]; exact own_sh_bd bu122 bu123
  have f143 := ((f124.other W130 (Or.inl ne_a1_bp)).keep K139 (ninS ne_a1_bu nin0))
  obtain ⟨T144, X144, e144, st144⟩ := getF X139 hx hZ hown (host := "") (Or.inl (hw _ (List.mem_of_getElem? (i := 15) rfl))) Via.refl e139 f143 (g := (mkF m 194 #[.val (.ref a1), .val (.int (5 : Int32)), .val (.ref bv), .val (.int (120 : Int32)), .val (.ref bc), .val (.ref bu), .val (.int kk), .val (.int (1 : Int32)), .val (.int it135)] [(.ref a1)])) rfl rfl (hb hby dc5_194)
  have f145 := ((f126.other W130 (Or.inl ne_a1_bp)).keep K139 (ninS ne_a1_bu nin0))
  obtain ⟨T146, X146, e146, st146⟩ := getF X144 hx hZ hown (host := "") (Or.inl (hw _ (List.mem_of_getElem? (i := 12) rfl))) Via.refl e144 f145 (g := (mkF m 200 #[.val (.ref a1), .val (.int (5 : Int32)), .val (.ref bv), .val (.int (120 : Int32)), .val (.ref bc), .val (.ref bu), .val (.int kk), .val (.int (1 : Int32)), .val (.int it135)] [(.ref a1), (.int it135), (.ref bp)])) rfl rfl (hb hby dc5_200)
  have f147 := (A130.keep K139 (ninS ne_bp_bu nin0))
  obtain ⟨cl148, Ar148, hin148, up148⟩ := La.up (j := ((it135 * (120 : Int32)) + kk)) f147 (own_ix (n := 5) (cn := 120) bit135 hkb (by decide) (by decide) (by decide) (by decide) (by decide))
  obtain ⟨T149, h149, X149, e149, W149, st149⟩ := stB X146 hx hZ e146 Ar148 (j := ((it135 * (120 : Int32)) + kk)) hin148 (g := (mkF m 210 #[.val (.ref a1), .val (.int (5 : Int32)), .val (.ref bv), .val (.int (120 : Int32)), .val (.ref bc), .val (.ref bu), .val (.int kk), .val (.int (1 : Int32)), .val (.int it135)] [(.int (1 : Int32)), (.int ((it135 * (120 : Int32)) + kk)), (.ref bp)])) rfl rfl (hb hby dc5_210)
  have A149 : La Z h149 bp .byte (600 : Int32) ((P.set (((it115 * (120 : Int32)) + kk)).toNatClampNeg (0 : Int32)).set (((it135 * (120 : Int32)) + kk)).toNatClampNeg (1 : Int32)) := up148 _ (by first | rfl | decide) _ W149
  have N149 := Fr.snoc X149 N139 g_bp
  have f150 := ((f131.keep K139 (ninS ne_bc_bu nin0)).other W149 (Ne.symm ne_bp_bc))
  obtain ⟨cl151, Ar151, q151, S151, N151_, H151, G151⟩ := id f150
  have hin151 : ¬ ((2 : Int32) < 0 ∨ cl151.slots.size ≤ ((2 : Int32)).toNatClampNeg) := inb_of S151 ⟨by decide, by decide⟩
  have hat151 : cl151.slots[((2 : Int32)).toNatClampNeg]? = some (.int c2) := H151.at hin151 rfl
  have f152 := (V139.other W149 (Ne.symm ne_bp_bu))
  obtain ⟨cl153, Ar153, q153, S153, N153_, H153, G153⟩ := id f152
  obtain ⟨it154, hit154⟩ : ∃ z, z = own_nth5 c2 u140 u141 u142 u123 (4 : Int32) := ⟨_, rfl⟩
  have bit154 : own_bd 5 it154 := by rw [hit154]; exact own_nb5 bu140 bu141 bu142 bu123 (by decide : own_bd 5 (4 : Int32))
  have hin153 : ¬ (c2 < 0 ∨ cl153.slots.size ≤ (c2).toNatClampNeg) := inb_of S153 (own_pin5_2 hd2)
  have hat153 : cl153.slots[(c2).toNatClampNeg]? = some (.int it154) := H153.at hin153 (by rw [hit154]; exact own_nl5_2 hd2)
  obtain ⟨cl155, Ar155, q155, S155, N155_, H155, G155⟩ := id f150
  have hin155 : ¬ ((2 : Int32) < 0 ∨ cl155.slots.size ≤ ((2 : Int32)).toNatClampNeg) := inb_of S155 ⟨by decide, by decide⟩
  have hat155 : cl155.slots[((2 : Int32)).toNatClampNeg]? = some (.int c2) := H155.at hin155 rfl
  obtain ⟨cl156, Ar156, q156, S156, N156_, H156, G156⟩ := id f150
  have hin156 : ¬ ((2 : Int32) < 0 ∨ cl156.slots.size ≤ ((2 : Int32)).toNatClampNeg) := inb_of S156 ⟨by decide, by decide⟩
  have hat156 : cl156.slots[((2 : Int32)).toNatClampNeg]? = some (.int c2) := H156.at hin156 rfl
  obtain ⟨cl157, Ar157, q157, S157, N157_, H157, G157⟩ := id f150
  have hin157 : ¬ ((2 : Int32) < 0 ∨ cl157.slots.size ≤ ((2 : Int32)).toNatClampNeg) := inb_of S157 ⟨by decide, by decide⟩
  have hat157 : cl157.slots[((2 : Int32)).toNatClampNeg]? = some (.int c2) := H157.at hin157 rfl
  obtain ⟨T158, h158, L158, X158, e158, N158, K158, V158_, st158⟩ := cpA X149 hx hZ hown (hw _ (List.mem_of_getElem? (i := 19) rfl)) (hw _ (List.mem_of_getElem? (i := 22) rfl)) (hw _ (List.mem_of_getElem? (i := 20) rfl)) (hw _ (List.mem_of_getElem? (i := 21) rfl)) e149 f152 f152 (Or.inl ⟨rfl, rfl⟩) (own_cp5_2 (u0 := u140) (u1 := u141) (u2 := u142) (u3 := u123) (u4 := (4 : Int32)) hd2).1 (own_cp5_2 (u0 := u140) (u1 := u141) (u2 := u142) (u3 := u123) (u4 := (4 : Int32)) hd2).2.1 (own_cp5_2 (u0 := u140) (u1 := u141) (u2 := u142) (u3 := u123) (u4 := (4 : Int32)) hd2).2.2.1 (own_cp5_2 (u0 := u140) (u1 := u141) (u2 := u142) (u3 := u123) (u4 := (4 : Int32)) hd2).2.2.2.1 (own_cp5_2 (u0 := u140) (u1 := u141) (u2 := u142) (u3 := u123) (u4 := (4 : Int32)) hd2).2.2.2.2.1 rfl (Nat.le_trans (own_cp5_2 (u0 := u140) (u1 := u141) (u2 := u142) (u3 := u123) (u4 := (4 : Int32)) hd2).2.2.2.2.1 (by decide : (5 : Int32).toNatClampNeg ≤ 5)) N149 g_bu (g := (mkF m 190 #[.val (.ref a1), .val (.int (5 : Int32)), .val (.ref bv), .val (.int (120 : Int32)), .val (.ref bc), .val (.ref bu), .val (.int kk), .val (.int (2 : Int32)), .val (.int it154)] [(.int ((2 : Int32) - c2)), (.int c2), (.ref bu), (.int (c2 + (1 : Int32))), (.ref bu)])) rfl (by rw [hml]; rfl) rfl (hb hby dc5_190) (by decide) (W := 0) (by show 2 * 0 + _ ≤ _; exact Nat.le_of_eq rfl) (by decide)
  have V158 : Arv Z h158 bu ku .int (5 : Int32) [(.int (own_sh c2 (0 : Int32) u140 u141)), (.int (own_sh c2 (1 : Int32) u141 u142)), (.int u142), (.int u123), (.int (4 : Int32))] (.int (0 : Int32)) := by have q := V158_; rw [(own_cp5_2 (u0 := u140) (u1 := u141) (u2 := u142) (u3 := u123) (u4 := (4 : Int32)) hd2).2.2.2.2.2] at q; exact q
  obtain ⟨u159, hu159⟩ : ∃ z, z = (own_sh c2 (0 : Int32) u140 u141) := ⟨_, rfl⟩
  rw [← hu159] at V158
  have bu159 : own_bd 5 u159 := by rw [hu159]; exact own_sh_bd bu140 bu141
  obtain ⟨u160, hu160⟩ : ∃ z, z = (own_sh c2 (1 : Int32) u141 u142) := ⟨_, rfl⟩
  rw [← hu160] at V158
  have bu160 : own_bd 5 u160 := by rw [hu160]; exact own_sh_bd bu141 bu142
  have f161 := ((f143.other W149 (Or.inl ne_a1_bp)).keep K158 (ninS ne_a1_bu nin0))
  obtain ⟨T162, X162, e162, st162⟩ := getF X158 hx hZ hown (host := "") (Or.inl (hw _ (List.mem_of_getElem? (i := 15) rfl))) Via.refl e158 f161 (g := (mkF m 194 #[.val (.ref a1), .val (.int (5 : Int32)), .val (.ref bv), .val (.int (120 : Int32)), .val (.ref bc), .val (.ref bu), .val (.int kk), .val (.int (2 : Int32)), .val (.int it154)] [(.ref a1)])) rfl rfl (hb hby dc5_194)
  have f163 := ((f145.other W149 (Or.inl ne_a1_bp)).keep K158 (ninS ne_a1_bu nin0))
  obtain ⟨T164, X164, e164, st164⟩ := getF X162 hx hZ hown (host := "") (Or.inl (hw _ (List.mem_of_getElem? (i := 12) rfl))) Via.refl e162 f163 (g := (mkF m 200 #[.val (.ref a1), .val (.int (5 : Int32)), .val (.ref bv), .val (.int (120 : Int32)), .val (.ref bc), .val (.ref bu), .val (.int kk), .val (.int (2 : Int32)), .val (.int it154)] [(.ref a1), (.int it154), (.ref bp)])) rfl rfl (hb hby dc5_200)
  have f165 := (A149.keep K158 (ninS ne_bp_bu nin0))
  obtain ⟨cl166, Ar166, hin166, up166⟩ := La.up (j := ((it154 * (120 : Int32)) + kk)) f165 (own_ix (n := 5) (cn := 120) bit154 hkb (by decide) (by decide) (by decide) (by decide) (by decide))
  obtain ⟨T167, h167, X167, e167, W167, st167⟩ := stB X164 hx hZ e164 Ar166 (j := ((it154 * (120 : Int32)) + kk)) hin166 (g := (mkF m 210 #[.val (.ref a1), .val (.int (5 : Int32)), .val (.ref bv), .val (.int (120 : Int32)), .val (.ref bc), .val (.ref bu), .val (.int kk), .val (.int (2 : Int32)), .val (.int it154)] [(.int (2 : Int32)), (.int ((it154 * (120 : Int32)) + kk)), (.ref bp)])) rfl rfl (hb hby dc5_210)
  have A167 : La Z h167 bp .byte (600 : Int32) (((P.set (((it115 * (120 : Int32)) + kk)).toNatClampNeg (0 : Int32)).set (((it135 * (120 : Int32)) + kk)).toNatClampNeg (1 : Int32)).set (((it154 * (120 : Int32)) + kk)).toNatClampNeg (2 : Int32)) := up166 _ (by first | rfl | decide) _ W167
  have N167 := Fr.snoc X167 N158 g_bp
  have f168 := ((f150.keep K158 (ninS ne_bc_bu nin0)).other W167 (Ne.symm ne_bp_bc))
  obtain ⟨cl169, Ar169, q169, S169, N169_, H169, G169⟩ := id f168
  have hin169 : ¬ ((3 : Int32) < 0 ∨ cl169.slots.size ≤ ((3 : Int32)).toNatClampNeg) := inb_of S169 ⟨by decide, by decide⟩
  have hat169 : cl169.slots[((3 : Int32)).toNatClampNeg]? = some (.int c3) := H169.at hin169 rfl
  have f170 := (V158.other W167 (Ne.symm ne_bp_bu))
  obtain ⟨cl171, Ar171, q171, S171, N171_, H171, G171⟩ := id f170
  obtain ⟨it172, hit172⟩ : ∃ z, z = own_nth5 c3 u159 u160 u142 u123 (4 : Int32) := ⟨_, rfl⟩
  have bit172 : own_bd 5 it172 := by rw [hit172]; exact own_nb5 bu159 bu160 bu142 bu123 (by decide : own_bd 5 (4 : Int32))
  have hin171 : ¬ (c3 < 0 ∨ cl171.slots.size ≤ (c3).toNatClampNeg) := inb_of S171 (own_pin5_3 hd3)
  have hat171 : cl171.slots[(c3).toNatClampNeg]? = some (.int it172) := H171.at hin171 (by rw [hit172]; exact own_nl5_3 hd3)
  obtain ⟨cl173, Ar173, q173, S173, N173_, H173, G173⟩ := id f168
  have hin173 : ¬ ((3 : Int32) < 0 ∨ cl173.slots.size ≤ ((3 : Int32)).toNatClampNeg) := inb_of S173 ⟨by decide, by decide⟩
  have hat173 : cl173.slots[((3 : Int32)).toNatClampNeg]? = some (.int c3) := H173.at hin173 rfl
  obtain ⟨cl174, Ar174, q174, S174, N174_, H174, G174⟩ := id f168
  have hin174 : ¬ ((3 : Int32) < 0 ∨ cl174.slots.size ≤ ((3 : Int32)).toNatClampNeg) := inb_of S174 ⟨by decide, by decide⟩
  have hat174 : cl174.slots[((3 : Int32)).toNatClampNeg]? = some (.int c3) := H174.at hin174 rfl
  obtain ⟨cl175, Ar175, q175, S175, N175_, H175, G175⟩ := id f168
  have hin175 : ¬ ((3 : Int32) < 0 ∨ cl175.slots.size ≤ ((3 : Int32)).toNatClampNeg) := inb_of S175 ⟨by decide, by decide⟩
  have hat175 : cl175.slots[((3 : Int32)).toNatClampNeg]? = some (.int c3) := H175.at hin175 rfl
  obtain ⟨T176, h176, L176, X176, e176, N176, K176, V176_, st176⟩ := cpA X167 hx hZ hown (hw _ (List.mem_of_getElem? (i := 19) rfl)) (hw _ (List.mem_of_getElem? (i := 22) rfl)) (hw _ (List.mem_of_getElem? (i := 20) rfl)) (hw _ (List.mem_of_getElem? (i := 21) rfl)) e167 f170 f170 (Or.inl ⟨rfl, rfl⟩) (own_cp5_3 (u0 := u159) (u1 := u160) (u2 := u142) (u3 := u123) (u4 := (4 : Int32)) hd3).1 (own_cp5_3 (u0 := u159) (u1 := u160) (u2 := u142) (u3 := u123) (u4 := (4 : Int32)) hd3).2.1 (own_cp5_3 (u0 := u159) (u1 := u160) (u2 := u142) (u3 := u123) (u4 := (4 : Int32)) hd3).2.2.1 (own_cp5_3 (u0 := u159) (u1 := u160) (u2 := u142) (u3 := u123) (u4 := (4 : Int32)) hd3).2.2.2.1 (own_cp5_3 (u0 := u159) (u1 := u160) (u2 := u142) (u3 := u123) (u4 := (4 : Int32)) hd3).2.2.2.2.1 rfl (Nat.le_trans (own_cp5_3 (u0 := u159) (u1 := u160) (u2 := u142) (u3 := u123) (u4 := (4 : Int32)) hd3).2.2.2.2.1 (by decide : (5 : Int32).toNatClampNeg ≤ 5)) N167 g_bu (g := (mkF m 190 #[.val (.ref a1), .val (.int (5 : Int32)), .val (.ref bv), .val (.int (120 : Int32)), .val (.ref bc), .val (.ref bu), .val (.int kk), .val (.int (3 : Int32)), .val (.int it172)] [(.int ((1 : Int32) - c3)), (.int c3), (.ref bu), (.int (c3 + (1 : Int32))), (.ref bu)])) rfl (by rw [hml]; rfl) rfl (hb hby dc5_190) (by decide) (W := 0) (by show 2 * 0 + _ ≤ _; exact Nat.le_of_eq rfl) (by decide)
  have V176 : Arv Z h176 bu ku .int (5 : Int32) [(.int (own_sh c3 (0 : Int32) u159 u160)), (.int u160), (.int u142), (.int u123), (.int (4 : Int32))] (.int (0 : Int32)) := by have q := V176_; rw [(own_cp5_3 (u0 := u159) (u1 := u160) (u2 := u142) (u3 := u123) (u4 := (4 : Int32)) hd3).2.2.2.2.2] at q; exact q
  obtain ⟨u177, hu177⟩ : ∃ z, z = (own_sh c3 (0 : Int32) u159 u160) := ⟨_, rfl⟩
  rw [← hu177] at V176
  have bu177 : own_bd 5 u177 := by rw [hu177]; exact own_sh_bd bu159 bu160
  have f178 := ((f161.other W167 (Or.inl ne_a1_bp)).keep K176 (ninS ne_a1_bu nin0))
  obtain ⟨T179, X179, e179, st179⟩ := getF X176 hx hZ hown (host := "") (Or.inl (hw _ (List.mem_of_getElem? (i := 15) rfl))) Via.refl e176 f178 (g := (mkF m 194 #[.val (.ref a1), .val (.int (5 : Int32)), .val (.ref bv), .val (.int (120 : Int32)), .val (.ref bc), .val (.ref bu), .val (.int kk), .val (.int (3 : Int32)), .val (.int it172)] [(.ref a1)])) rfl rfl (hb hby dc5_194)
  have f180 := ((f163.other W167 (Or.inl ne_a1_bp)).keep K176 (ninS ne_a1_bu nin0))
  obtain ⟨T181, X181, e181, st181⟩ := getF X179 hx hZ hown (host := "") (Or.inl (hw _ (List.mem_of_getElem? (i := 12) rfl))) Via.refl e179 f180 (g := (mkF m 200 #[.val (.ref a1), .val (.int (5 : Int32)), .val (.ref bv), .val (.int (120 : Int32)), .val (.ref bc), .val (.ref bu), .val (.int kk), .val (.int (3 : Int32)), .val (.int it172)] [(.ref a1), (.int it172), (.ref bp)])) rfl rfl (hb hby dc5_200)
  have f182 := (A167.keep K176 (ninS ne_bp_bu nin0))
  obtain ⟨cl183, Ar183, hin183, up183⟩ := La.up (j := ((it172 * (120 : Int32)) + kk)) f182 (own_ix (n := 5) (cn := 120) bit172 hkb (by decide) (by decide) (by decide) (by decide) (by decide))
  obtain ⟨T184, h184, X184, e184, W184, st184⟩ := stB X181 hx hZ e181 Ar183 (j := ((it172 * (120 : Int32)) + kk)) hin183 (g := (mkF m 210 #[.val (.ref a1), .val (.int (5 : Int32)), .val (.ref bv), .val (.int (120 : Int32)), .val (.ref bc), .val (.ref bu), .val (.int kk), .val (.int (3 : Int32)), .val (.int it172)] [(.int (3 : Int32)), (.int ((it172 * (120 : Int32)) + kk)), (.ref bp)])) rfl rfl (hb hby dc5_210)
  have A184 : La Z h184 bp .byte (600 : Int32) ((((P.set (((it115 * (120 : Int32)) + kk)).toNatClampNeg (0 : Int32)).set (((it135 * (120 : Int32)) + kk)).toNatClampNeg (1 : Int32)).set (((it154 * (120 : Int32)) + kk)).toNatClampNeg (2 : Int32)).set (((it172 * (120 : Int32)) + kk)).toNatClampNeg (3 : Int32)) := up183 _ (by first | rfl | decide) _ W184
  have N184 := Fr.snoc X184 N176 g_bp
  have f185 := ((f168.keep K176 (ninS ne_bc_bu nin0)).other W184 (Ne.symm ne_bp_bc))
  obtain ⟨cl186, Ar186, q186, S186, N186_, H186, G186⟩ := id f185
  have hin186 : ¬ ((4 : Int32) < 0 ∨ cl186.slots.size ≤ ((4 : Int32)).toNatClampNeg) := inb_of S186 ⟨by decide, by decide⟩
  have hat186 : cl186.slots[((4 : Int32)).toNatClampNeg]? = some (.int c4) := H186.at hin186 rfl
  have f187 := (V176.other W184 (Ne.symm ne_bp_bu))
  obtain ⟨cl188, Ar188, q188, S188, N188_, H188, G188⟩ := id f187
  obtain ⟨it189, hit189⟩ : ∃ z, z = own_nth5 c4 u177 u160 u142 u123 (4 : Int32) := ⟨_, rfl⟩
  have bit189 : own_bd 5 it189 := by rw [hit189]; exact own_nb5 bu177 bu160 bu142 bu123 (by decide : own_bd 5 (4 : Int32))
  have hin188 : ¬ (c4 < 0 ∨ cl188.slots.size ≤ (c4).toNatClampNeg) := inb_of S188 (own_pin5_4 hd4)
  have hat188 : cl188.slots[(c4).toNatClampNeg]? = some (.int it189) := H188.at hin188 (by rw [hit189]; exact own_nl5_4 hd4)
  obtain ⟨cl190, Ar190, q190, S190, N190_, H190, G190⟩ := id f185
  have hin190 : ¬ ((4 : Int32) < 0 ∨ cl190.slots.size ≤ ((4 : Int32)).toNatClampNeg) := inb_of S190 ⟨by decide, by decide⟩
  have hat190 : cl190.slots[((4 : Int32)).toNatClampNeg]? = some (.int c4) := H190.at hin190 rfl
  obtain ⟨cl191, Ar191, q191, S191, N191_, H191, G191⟩ := id f185
  have hin191 : ¬ ((4 : Int32) < 0 ∨ cl191.slots.size ≤ ((4 : Int32)).toNatClampNeg) := inb_of S191 ⟨by decide, by decide⟩
  have hat191 : cl191.slots[((4 : Int32)).toNatClampNeg]? = some (.int c4) := H191.at hin191 rfl
  obtain ⟨cl192, Ar192, q192, S192, N192_, H192, G192⟩ := id f185
  have hin192 : ¬ ((4 : Int32) < 0 ∨ cl192.slots.size ≤ ((4 : Int32)).toNatClampNeg) := inb_of S192 ⟨by decide, by decide⟩
  have hat192 : cl192.slots[((4 : Int32)).toNatClampNeg]? = some (.int c4) := H192.at hin192 rfl
  obtain ⟨T193, h193, L193, X193, e193, N193, K193, V193_, st193⟩ := cpA X184 hx hZ hown (hw _ (List.mem_of_getElem? (i := 19) rfl)) (hw _ (List.mem_of_getElem? (i := 22) rfl)) (hw _ (List.mem_of_getElem? (i := 20) rfl)) (hw _ (List.mem_of_getElem? (i := 21) rfl)) e184 f187 f187 (Or.inl ⟨rfl, rfl⟩) (own_cp5_4 (u0 := u177) (u1 := u160) (u2 := u142) (u3 := u123) (u4 := (4 : Int32)) hd4).1 (own_cp5_4 (u0 := u177) (u1 := u160) (u2 := u142) (u3 := u123) (u4 := (4 : Int32)) hd4).2.1 (own_cp5_4 (u0 := u177) (u1 := u160) (u2 := u142) (u3 := u123) (u4 := (4 : Int32)) hd4).2.2.1 (own_cp5_4 (u0 := u177) (u1 := u160) (u2 := u142) (u3 := u123) (u4 := (4 : Int32)) hd4).2.2.2.1 (own_cp5_4 (u0 := u177) (u1 := u160) (u2 := u142) (u3 := u123) (u4 := (4 : Int32)) hd4).2.2.2.2.1 rfl (Nat.le_trans (own_cp5_4 (u0 := u177) (u1 := u160) (u2 := u142) (u3 := u123) (u4 := (4 : Int32)) hd4).2.2.2.2.1 (by decide : (5 : Int32).toNatClampNeg ≤ 5)) N184 g_bu (g := (mkF m 190 #[.val (.ref a1), .val (.int (5 : Int32)), .val (.ref bv), .val (.int (120 : Int32)), .val (.ref bc), .val (.ref bu), .val (.int kk), .val (.int (4 : Int32)), .val (.int it189)] [(.int ((0 : Int32) - c4)), (.int c4), (.ref bu), (.int (c4 + (1 : Int32))), (.ref bu)])) rfl (by rw [hml]; rfl) rfl (hb hby dc5_190) (by decide) (W := 0) (by show 2 * 0 + _ ≤ _; exact Nat.le_of_eq rfl) (by decide)
  have V193 : Arv Z h193 bu ku .int (5 : Int32) [(.int u177), (.int u160), (.int u142), (.int u123), (.int (4 : Int32))] (.int (0 : Int32)) := by have q := V193_; rw [(own_cp5_4 (u0 := u177) (u1 := u160) (u2 := u142) (u3 := u123) (u4 := (4 : Int32)) hd4).2.2.2.2.2] at q; exact q
  have f194 := ((f178.other W184 (Or.inl ne_a1_bp)).keep K193 (ninS ne_a1_bu nin0))
  obtain ⟨T195, X195, e195, st195⟩ := getF X193 hx hZ hown (host := "") (Or.inl (hw _ (List.mem_of_getElem? (i := 15) rfl))) Via.refl e193 f194 (g := (mkF m 194 #[.val (.ref a1), .val (.int (5 : Int32)), .val (.ref bv), .val (.int (120 : Int32)), .val (.ref bc), .val (.ref bu), .val (.int kk), .val (.int (4 : Int32)), .val (.int it189)] [(.ref a1)])) rfl rfl (hb hby dc5_194)
  have f196 := ((f180.other W184 (Or.inl ne_a1_bp)).keep K193 (ninS ne_a1_bu nin0))
  obtain ⟨T197, X197, e197, st197⟩ := getF X195 hx hZ hown (host := "") (Or.inl (hw _ (List.mem_of_getElem? (i := 12) rfl))) Via.refl e195 f196 (g := (mkF m 200 #[.val (.ref a1), .val (.int (5 : Int32)), .val (.ref bv), .val (.int (120 : Int32)), .val (.ref bc), .val (.ref bu), .val (.int kk), .val (.int (4 : Int32)), .val (.int it189)] [(.ref a1), (.int it189), (.ref bp)])) rfl rfl (hb hby dc5_200)
  have f198 := (A184.keep K193 (ninS ne_bp_bu nin0))
  obtain ⟨cl199, Ar199, hin199, up199⟩ := La.up (j := ((it189 * (120 : Int32)) + kk)) f198 (own_ix (n := 5) (cn := 120) bit189 hkb (by decide) (by decide) (by decide) (by decide) (by decide))
  obtain ⟨T200, h200, X200, e200, W200, st200⟩ := stB X197 hx hZ e197 Ar199 (j := ((it189 * (120 : Int32)) + kk)) hin199 (g := (mkF m 210 #[.val (.ref a1), .val (.int (5 : Int32)), .val (.ref bv), .val (.int (120 : Int32)), .val (.ref bc), .val (.ref bu), .val (.int kk), .val (.int (4 : Int32)), .val (.int it189)] [(.int (4 : Int32)), (.int ((it189 * (120 : Int32)) + kk)), (.ref bp)])) rfl rfl (hb hby dc5_210)
  have A200 : La Z h200 bp .byte (600 : Int32) (((((P.set (((it115 * (120 : Int32)) + kk)).toNatClampNeg (0 : Int32)).set (((it135 * (120 : Int32)) + kk)).toNatClampNeg (1 : Int32)).set (((it154 * (120 : Int32)) + kk)).toNatClampNeg (2 : Int32)).set (((it172 * (120 : Int32)) + kk)).toNatClampNeg (3 : Int32)).set (((it189 * (120 : Int32)) + kk)).toNatClampNeg (4 : Int32)) := up199 _ (by first | rfl | decide) _ W200
  have N200 := Fr.snoc X200 N193 g_bp
  have f201 := (((((((((((((((Fs.other W103 (Or.inl ne_a1_bu)).other W105 (Or.inl ne_a1_bu)).other W107 (Or.inl ne_a1_bu)).other W109 (Or.inl ne_a1_bu)).other W111 (Or.inl ne_a1_bu)).keep K119 (ninS ne_a1_bu nin0)).other W130 (Or.inl ne_a1_bp)).keep K139 (ninS ne_a1_bu nin0)).other W149 (Or.inl ne_a1_bp)).keep K158 (ninS ne_a1_bu nin0)).other W167 (Or.inl ne_a1_bp)).keep K176 (ninS ne_a1_bu nin0)).other W184 (Or.inl ne_a1_bp)).keep K193 (ninS ne_a1_bu nin0)).other W200 (Or.inl ne_a1_bp))
  obtain ⟨T202, X202, e202, st202⟩ := getF X200 hx hZ hown (host := "") (Or.inl (hw _ (List.mem_of_getElem? (i := 17) rfl))) Via.refl e200 f201 (g := (mkF m 229 #[.val (.ref a1), .val (.int (5 : Int32)), .val (.ref bv), .val (.int (120 : Int32)), .val (.ref bc), .val (.ref bu), .val (.int kk), .val (.int (0 : Int32)), .val (.int it189)] [(.ref a1)])) rfl rfl (hb hby dc5_229)
  have O203 : Old Z n0 h200 := (((((((((((((((O0.wr W103 g_bu).wr W105 g_bu).wr W107 g_bu).wr W109 g_bu).wr W111 g_bu).keep K119 (allS g_bu all0)).wr W130 g_bp).keep K139 (allS g_bu all0)).wr W149 g_bp).keep K158 (allS g_bu all0)).wr W167 g_bp).keep K176 (allS g_bu all0)).wr W184 g_bp).keep K193 (allS g_bu all0)).wr W200 g_bp)
  have f204 := ((f185.keep K193 (ninS ne_bc_bu nin0)).other W200 (Ne.symm ne_bp_bc))
  have f205 := (((((((((((((((Vv.other W103 ne_bv_bu).other W105 ne_bv_bu).other W107 ne_bv_bu).other W109 ne_bv_bu).other W111 ne_bv_bu).keep K119 (ninS ne_bv_bu nin0)).other W130 ne_bv_bp).keep K139 (ninS ne_bv_bu nin0)).other W149 ne_bv_bp).keep K158 (ninS ne_bv_bu nin0)).other W167 ne_bv_bp).keep K176 (ninS ne_bv_bu nin0)).other W184 ne_bv_bp).keep K193 (ninS ne_bv_bu nin0)).other W200 ne_bv_bp)
  obtain ⟨_, _, ⟨T206, L206, k206, n206⟩, -, X206, ⟨Lc206, hQ206, l206, y206, z206⟩, st206⟩ := Jvm.LawKit.callS X202 hx (y := (⟨"com/example/frontward/frontward/offline/Orderings", "swapped", "(I[I[II)I"⟩ : MethodName)) hown (mvT hZ (hw _ (List.mem_of_getElem? (i := 23) rfl))) (mvT hZ (hw _ (List.mem_of_getElem? (i := 24) rfl))) (mvT hZ (hw _ (List.mem_of_getElem? (i := 2) rfl))) (mvT hZ (hw _ (List.mem_of_getElem? (i := 25) rfl))) (by decide) (backOf (W := 2) (rmSw5_0 l Z a0 hw [] kk bc bv kc kv c0 c1 c2 c3 c4 h200 n0 O203 f204 f205) hZ (hw _ (List.mem_of_getElem? (i := 25) rfl)) (hw _ (List.mem_of_getElem? (i := 2) rfl)) (by decide) (by decide)) (g := (mkF m 248 #[.val (.ref a1), .val (.int (5 : Int32)), .val (.ref bv), .val (.int (120 : Int32)), .val (.ref bc), .val (.ref bu), .val (.int kk), .val (.int (0 : Int32)), .val (.int it189)] [(.int (0 : Int32)), (.ref bv), (.ref bc), (.int kk), (.int ((kk * (4 : Int32)) + (0 : Int32))), (.ref bs)])) rfl (by rw [hml]; rfl) (argsL := [(.int kk), (.ref bc), (.ref bv), (.int (0 : Int32))]) (rest := [(.int ((kk * (4 : Int32)) + (0 : Int32))), (.ref bs)]) (lenOf pd_1 rfl) rfl (by show 2 * 0 + _ ≤ _; exact Nat.le_of_eq rfl) (hb hby dc5_248) (fun _ _ => ⟨rfl, e202, (by decide : 5 + 0 ≤ _), (by decide : 1095 + 0 ≤ _)⟩)
  dsimp only [Pt.U, Pt.locs, Pt.cells, Pt.slots] at X206 l206 y206 z206 st206 hQ206
  subst l206 y206 z206
  obtain ⟨rfl, N206q, hh206⟩ := hQ206
  have N206 := Fr.app N200 N206q
  have f207 := (((((((((((((((Ls.other W103 ne_bs_bu).other W105 ne_bs_bu).other W107 ne_bs_bu).other W109 ne_bs_bu).other W111 ne_bs_bu).keep K119 (ninS ne_bs_bu nin0)).other W130 (Ne.symm ne_bp_bs)).keep K139 (ninS ne_bs_bu nin0)).other W149 (Ne.symm ne_bp_bs)).keep K158 (ninS ne_bs_bu nin0)).other W167 (Ne.symm ne_bp_bs)).keep K176 (ninS ne_bs_bu nin0)).other W184 (Ne.symm ne_bp_bs)).keep K193 (ninS ne_bs_bu nin0)).other W200 (Ne.symm ne_bp_bs))
  obtain ⟨cl208, Ar208, hin208, up208⟩ := La.up (j := ((kk * (4 : Int32)) + (0 : Int32))) f207 (own_iy (n := 4) (cn := 120) hkb (by decide) (by decide) (by decide) (by decide) (by decide) (by decide))
  obtain ⟨T209, h209, X209, e209, W209, st209⟩ := stI X206 hx hZ hh206 Ar208 (j := ((kk * (4 : Int32)) + (0 : Int32))) hin208 (g := (mkF m 251 #[.val (.ref a1), .val (.int (5 : Int32)), .val (.ref bv), .val (.int (120 : Int32)), .val (.ref bc), .val (.ref bu), .val (.int kk), .val (.int (0 : Int32)), .val (.int it189)] [(.int (own_sw kk c0 c1 (24 : Int32) (6 : Int32))), (.int ((kk * (4 : Int32)) + (0 : Int32))), (.ref bs)])) rfl rfl (hb hby dc5_251)
  have A209 : La Z h209 bs .int (480 : Int32) (S.set (((kk * (4 : Int32)) + (0 : Int32))).toNatClampNeg (own_sw kk c0 c1 (24 : Int32) (6 : Int32))) := up208 _ (by first | rfl | decide) _ W209
  have N209 := Fr.snoc X209 N206 g_bs
  have f210 := (f201.other W209 (Or.inl ne_a1_bs))
  obtain ⟨T211, X211, e211, st211⟩ := getF X209 hx hZ hown (host := "") (Or.inl (hw _ (List.mem_of_getElem? (i := 17) rfl))) Via.refl e209 f210 (g := (mkF m 229 #[.val (.ref a1), .val (.int (5 : Int32)), .val (.ref bv), .val (.int (120 : Int32)), .val (.ref bc), .val (.ref bu), .val (.int kk), .val (.int (1 : Int32)), .val (.int it189)] [(.ref a1)])) rfl rfl (hb hby dc5_229)
  have O212 : Old Z n0 h209 := (O203.wr W209 g_bs)
  have f213 := (f204.other W209 (Ne.symm ne_bs_bc))
  have f214 := (f205.other W209 ne_bv_bs)
  obtain ⟨_, _, ⟨T215, L215, k215, n215⟩, -, X215, ⟨Lc215, hQ215, l215, y215, z215⟩, st215⟩ := Jvm.LawKit.callS X211 hx (y := (⟨"com/example/frontward/frontward/offline/Orderings", "swapped", "(I[I[II)I"⟩ : MethodName)) hown (mvT hZ (hw _ (List.mem_of_getElem? (i := 23) rfl))) (mvT hZ (hw _ (List.mem_of_getElem? (i := 24) rfl))) (mvT hZ (hw _ (List.mem_of_getElem? (i := 2) rfl))) (mvT hZ (hw _ (List.mem_of_getElem? (i := 25) rfl))) (by decide) (backOf (W := 2) (rmSw5_1 l Z a0 hw [] kk bc bv kc kv c0 c1 c2 c3 c4 h209 n0 O212 f213 f214) hZ (hw _ (List.mem_of_getElem? (i := 25) rfl)) (hw _ (List.mem_of_getElem? (i := 2) rfl)) (by decide) (by decide)) (g := (mkF m 248 #[.val (.ref a1), .val (.int (5 : Int32)), .val (.ref bv), .val (.int (120 : Int32)), .val (.ref bc), .val (.ref bu), .val (.int kk), .val (.int (1 : Int32)), .val (.int it189)] [(.int (1 : Int32)), (.ref bv), (.ref bc), (.int kk), (.int ((kk * (4 : Int32)) + (1 : Int32))), (.ref bs)])) rfl (by rw [hml]; rfl) (argsL := [(.int kk), (.ref bc), (.ref bv), (.int (1 : Int32))]) (rest := [(.int ((kk * (4 : Int32)) + (1 : Int32))), (.ref bs)]) (lenOf pd_1 rfl) rfl (by show 2 * 0 + _ ≤ _; exact Nat.le_of_eq rfl) (hb hby dc5_248) (fun _ _ => ⟨rfl, e211, (by decide : 5 + 0 ≤ _), (by decide : 1095 + 0 ≤ _)⟩)
  dsimp only [Pt.U, Pt.locs, Pt.cells, Pt.slots] at X215 l215 y215 z215 st215 hQ215
  subst l215 y215 z215
  obtain ⟨rfl, N215q, hh215⟩ := hQ215
  have N215 := Fr.app N209 N215q
  obtain ⟨cl216, Ar216, hin216, up216⟩ := La.up (j := ((kk * (4 : Int32)) + (1 : Int32))) A209 (own_iy (n := 4) (cn := 120) hkb (by decide) (by decide) (by decide) (by decide) (by decide) (by decide))
  obtain ⟨T217, h217, X217, e217, W217, st217⟩ := stI X215 hx hZ hh215 Ar216 (j := ((kk * (4 : Int32)) + (1 : Int32))) hin216 (g := (mkF m 251 #[.val (.ref a1), .val (.int (5 : Int32)), .val (.ref bv), .val (.int (120 : Int32)), .val (.ref bc), .val (.ref bu), .val (.int kk), .val (.int (1 : Int32)), .val (.int it189)] [(.int (own_sw kk c1 c2 (6 : Int32) (2 : Int32))), (.int ((kk * (4 : Int32)) + (1 : Int32))), (.ref bs)])) rfl rfl (hb hby dc5_251)
  have A217 : La Z h217 bs .int (480 : Int32) ((S.set (((kk * (4 : Int32)) + (0 : Int32))).toNatClampNeg (own_sw kk c0 c1 (24 : Int32) (6 : Int32))).set (((kk * (4 : Int32)) + (1 : Int32))).toNatClampNeg (own_sw kk c1 c2 (6 : Int32) (2 : Int32))) := up216 _ (by first | rfl | decide) _ W217
  have N217 := Fr.snoc X217 N215 g_bs
  have f218 := (f210.other W217 (Or.inl ne_a1_bs))
  obtain ⟨T219, X219, e219, st219⟩ := getF X217 hx hZ hown (host := "") (Or.inl (hw _ (List.mem_of_getElem? (i := 17) rfl))) Via.refl e217 f218 (g := (mkF m 229 #[.val (.ref a1), .val (.int (5 : Int32)), .val (.ref bv), .val (.int (120 : Int32)), .val (.ref bc), .val (.ref bu), .val (.int kk), .val (.int (2 : Int32)), .val (.int it189)] [(.ref a1)])) rfl rfl (hb hby dc5_229)
  have O220 : Old Z n0 h217 := (O212.wr W217 g_bs)
  have f221 := (f213.other W217 (Ne.symm ne_bs_bc))
  have f222 := (f214.other W217 ne_bv_bs)
  obtain ⟨_, _, ⟨T223, L223, k223, n223⟩, -, X223, ⟨Lc223, hQ223, l223, y223, z223⟩, st223⟩ := Jvm.LawKit.callS X219 hx (y := (⟨"com/example/frontward/frontward/offline/Orderings", "swapped", "(I[I[II)I"⟩ : MethodName)) hown (mvT hZ (hw _ (List.mem_of_getElem? (i := 23) rfl))) (mvT hZ (hw _ (List.mem_of_getElem? (i := 24) rfl))) (mvT hZ (hw _ (List.mem_of_getElem? (i := 2) rfl))) (mvT hZ (hw _ (List.mem_of_getElem? (i := 25) rfl))) (by decide) (backOf (W := 2) (rmSw5_2 l Z a0 hw [] kk bc bv kc kv c0 c1 c2 c3 c4 h217 n0 O220 f221 f222) hZ (hw _ (List.mem_of_getElem? (i := 25) rfl)) (hw _ (List.mem_of_getElem? (i := 2) rfl)) (by decide) (by decide)) (g := (mkF m 248 #[.val (.ref a1), .val (.int (5 : Int32)), .val (.ref bv), .val (.int (120 : Int32)), .val (.ref bc), .val (.ref bu), .val (.int kk), .val (.int (2 : Int32)), .val (.int it189)] [(.int (2 : Int32)), (.ref bv), (.ref bc), (.int kk), (.int ((kk * (4 : Int32)) + (2 : Int32))), (.ref bs)])) rfl (by rw [hml]; rfl) (argsL := [(.int kk), (.ref bc), (.ref bv), (.int (2 : Int32))]) (rest := [(.int ((kk * (4 : Int32)) + (2 : Int32))), (.ref bs)]) (lenOf pd_1 rfl) rfl (by show 2 * 0 + _ ≤ _; exact Nat.le_of_eq rfl) (hb hby dc5_248) (fun _ _ => ⟨rfl, e219, (by decide : 5 + 0 ≤ _), (by decide : 1095 + 0 ≤ _)⟩)
  dsimp only [Pt.U, Pt.locs, Pt.cells, Pt.slots] at X223 l223 y223 z223 st223 hQ223
  subst l223 y223 z223
  obtain ⟨rfl, N223q, hh223⟩ := hQ223
  have N223 := Fr.app N217 N223q
  obtain ⟨cl224, Ar224, hin224, up224⟩ := La.up (j := ((kk * (4 : Int32)) + (2 : Int32))) A217 (own_iy (n := 4) (cn := 120) hkb (by decide) (by decide) (by decide) (by decide) (by decide) (by decide))
  obtain ⟨T225, h225, X225, e225, W225, st225⟩ := stI X223 hx hZ hh223 Ar224 (j := ((kk * (4 : Int32)) + (2 : Int32))) hin224 (g := (mkF m 251 #[.val (.ref a1), .val (.int (5 : Int32)), .val (.ref bv), .val (.int (120 : Int32)), .val (.ref bc), .val (.ref bu), .val (.int kk), .val (.int (2 : Int32)), .val (.int it189)] [(.int (own_sw kk c2 c3 (2 : Int32) (1 : Int32))), (.int ((kk * (4 : Int32)) + (2 : Int32))), (.ref bs)])) rfl rfl (hb hby dc5_251)
  have A225 : La Z h225 bs .int (480 : Int32) (((S.set (((kk * (4 : Int32)) + (0 : Int32))).toNatClampNeg (own_sw kk c0 c1 (24 : Int32) (6 : Int32))).set (((kk * (4 : Int32)) + (1 : Int32))).toNatClampNeg (own_sw kk c1 c2 (6 : Int32) (2 : Int32))).set (((kk * (4 : Int32)) + (2 : Int32))).toNatClampNeg (own_sw kk c2 c3 (2 : Int32) (1 : Int32))) := up224 _ (by first | rfl | decide) _ W225
  have N225 := Fr.snoc X225 N223 g_bs
  have f226 := (f218.other W225 (Or.inl ne_a1_bs))
  obtain ⟨T227, X227, e227, st227⟩ := getF X225 hx hZ hown (host := "") (Or.inl (hw _ (List.mem_of_getElem? (i := 17) rfl))) Via.refl e225 f226 (g := (mkF m 229 #[.val (.ref a1), .val (.int (5 : Int32)), .val (.ref bv), .val (.int (120 : Int32)), .val (.ref bc), .val (.ref bu), .val (.int kk), .val (.int (3 : Int32)), .val (.int it189)] [(.ref a1)])) rfl rfl (hb hby dc5_229)
  have O228 : Old Z n0 h225 := (O220.wr W225 g_bs)
  have f229 := (f221.other W225 (Ne.symm ne_bs_bc))
  have f230 := (f222.other W225 ne_bv_bs)
  obtain ⟨_, _, ⟨T231, L231, k231, n231⟩, -, X231, ⟨Lc231, hQ231, l231, y231, z231⟩, st231⟩ := Jvm.LawKit.callS X227 hx (y := (⟨"com/example/frontward/frontward/offline/Orderings", "swapped", "(I[I[II)I"⟩ : MethodName)) hown (mvT hZ (hw _ (List.mem_of_getElem? (i := 23) rfl))) (mvT hZ (hw _ (List.mem_of_getElem? (i := 24) rfl))) (mvT hZ (hw _ (List.mem_of_getElem? (i := 2) rfl))) (mvT hZ (hw _ (List.mem_of_getElem? (i := 25) rfl))) (by decide) (backOf (W := 2) (rmSw5_3 l Z a0 hw [] kk bc bv kc kv c0 c1 c2 c3 c4 h225 n0 O228 f229 f230) hZ (hw _ (List.mem_of_getElem? (i := 25) rfl)) (hw _ (List.mem_of_getElem? (i := 2) rfl)) (by decide) (by decide)) (g := (mkF m 248 #[.val (.ref a1), .val (.int (5 : Int32)), .val (.ref bv), .val (.int (120 : Int32)), .val (.ref bc), .val (.ref bu), .val (.int kk), .val (.int (3 : Int32)), .val (.int it189)] [(.int (3 : Int32)), (.ref bv), (.ref bc), (.int kk), (.int ((kk * (4 : Int32)) + (3 : Int32))), (.ref bs)])) rfl (by rw [hml]; rfl) (argsL := [(.int kk), (.ref bc), (.ref bv), (.int (3 : Int32))]) (rest := [(.int ((kk * (4 : Int32)) + (3 : Int32))), (.ref bs)]) (lenOf pd_1 rfl) rfl (by show 2 * 0 + _ ≤ _; exact Nat.le_of_eq rfl) (hb hby dc5_248) (fun _ _ => ⟨rfl, e227, (by decide : 5 + 0 ≤ _), (by decide : 1095 + 0 ≤ _)⟩)
  dsimp only [Pt.U, Pt.locs, Pt.cells, Pt.slots] at X231 l231 y231 z231 st231 hQ231
  subst l231 y231 z231
  obtain ⟨rfl, N231q, hh231⟩ := hQ231
  have N231 := Fr.app N225 N231q
  obtain ⟨cl232, Ar232, hin232, up232⟩ := La.up (j := ((kk * (4 : Int32)) + (3 : Int32))) A225 (own_iy (n := 4) (cn := 120) hkb (by decide) (by decide) (by decide) (by decide) (by decide) (by decide))
  obtain ⟨T233, h233, X233, e233, W233, st233⟩ := stI X231 hx hZ hh231 Ar232 (j := ((kk * (4 : Int32)) + (3 : Int32))) hin232 (g := (mkF m 251 #[.val (.ref a1), .val (.int (5 : Int32)), .val (.ref bv), .val (.int (120 : Int32)), .val (.ref bc), .val (.ref bu), .val (.int kk), .val (.int (3 : Int32)), .val (.int it189)] [(.int (own_sw kk c3 c4 (1 : Int32) (1 : Int32))), (.int ((kk * (4 : Int32)) + (3 : Int32))), (.ref bs)])) rfl rfl (hb hby dc5_251)
  have A233 : La Z h233 bs .int (480 : Int32) ((((S.set (((kk * (4 : Int32)) + (0 : Int32))).toNatClampNeg (own_sw kk c0 c1 (24 : Int32) (6 : Int32))).set (((kk * (4 : Int32)) + (1 : Int32))).toNatClampNeg (own_sw kk c1 c2 (6 : Int32) (2 : Int32))).set (((kk * (4 : Int32)) + (2 : Int32))).toNatClampNeg (own_sw kk c2 c3 (2 : Int32) (1 : Int32))).set (((kk * (4 : Int32)) + (3 : Int32))).toNatClampNeg (own_sw kk c3 c4 (1 : Int32) (1 : Int32))) := up232 _ (by first | rfl | decide) _ W233
  have N233 := Fr.snoc X233 N231 g_bs
  have f234 := (f229.other W233 (Ne.symm ne_bs_bc))
  obtain ⟨cl235, Ar235, q235, S235, N235_, H235, G235⟩ := id f234
  have hin235 : ¬ ((3 : Int32) < 0 ∨ cl235.slots.size ≤ ((3 : Int32)).toNatClampNeg) := inb_of S235 ⟨by decide, by decide⟩
  have hat235 : cl235.slots[((3 : Int32)).toNatClampNeg]? = some (.int c3) := H235.at hin235 rfl
  have pre236 : ∀ t, Steps p.tables e below (T233.setTop (mkF m 279 #[.val (.ref a1), .val (.int (5 : Int32)), .val (.ref bv), .val (.int (120 : Int32)), .val (.ref bc), .val (.ref bu), .val (.int kk), .val (.int (3 : Int32)), .val (.int it189)] [(.int (1 : Int32)), (.int c3)])) t → Steps p.tables e below (T0.setTop (mkF m 112 #[.val (.ref a1), .val (.int (5 : Int32)), .val (.ref bv), .val (.int (120 : Int32)), .val (.ref bc), .val (.ref bu), .val (.int kk), w7, w8] [])) t := fun t kt => pre0 t (by
      show Steps p.tables e below (T0.setTop (mkF m 112 #[.val (.ref a1), .val (.int (5 : Int32)), .val (.ref bv), .val (.int (120 : Int32)), .val (.ref bc), .val (.ref bu), .val (.int kk), w7, w8] [])) _
      refine XS.iload X0.here hx rfl (hb hby dc5_112) rfl ?_
      refine XS.aloadN X0.here hx rfl (hb hby dc5_114) rfl rfl ?_
      refine st101 _ ?_
      show Steps p.tables e below (T101.setTop (mkF m 118 #[.val (.ref a1), .val (.int (5 : Int32)), .val (.ref bv), .val (.int (120 : Int32)), .val (.ref bc), .val (.ref bu), .val (.int kk), w7, w8] [(.int (120 : Int32)), (.int kk)])) _
      refine XS.icmpNo X101.here hx rfl (hb hby dc5_118) rfl (tlt hkl).2.1 ?_
      refine XS.iconst X101.here hx rfl (hb hby dc5_121) ?_
      refine XS.istore X101.here hx rfl (hb hby dc5_122) rfl (l' := #[.val (.ref a1), .val (.int (5 : Int32)), .val (.ref bv), .val (.int (120 : Int32)), .val (.ref bc), .val (.ref bu), .val (.int kk), .val (.int (0 : Int32)), w8]) (os_0 hw7) ?_
      refine XS.iload X101.here hx rfl (hb hby dc5_124) rfl ?_
      refine XS.iloadN X101.here hx rfl (hb hby dc5_126) rfl ?_
      show Steps p.tables e below (T101.setTop (mkF m 127 #[.val (.ref a1), .val (.int (5 : Int32)), .val (.ref bv), .val (.int (120 : Int32)), .val (.ref bc), .val (.ref bu), .val (.int kk), .val (.int (0 : Int32)), w8] [(.int (5 : Int32)), (.int (0 : Int32))])) _
      refine XS.icmpNo X101.here hx rfl (hb hby dc5_127) rfl (by decide) ?_
      refine XS.aload X101.here hx rfl (hb hby dc5_130) rfl rfl ?_
      refine XS.iload X101.here hx rfl (hb hby dc5_132) rfl ?_
      refine XS.iload X101.here hx rfl (hb hby dc5_134) rfl ?_
      refine st103 _ ?_
      refine XS.iinc X103.here hx rfl (hb hby dc5_137) rfl (l' := #[.val (.ref a1), .val (.int (5 : Int32)), .val (.ref bv), .val (.int (120 : Int32)), .val (.ref bc), .val (.ref bu), .val (.int kk), .val (.int (1 : Int32)), w8]) rfl ?_
      refine XS.goto X103.here hx rfl (pc0 := 140) (pc' := 124) rfl (hb hby dc5_140) (by decide) (by decide) ?_
      refine XS.iload X103.here hx rfl (hb hby dc5_124) rfl ?_
      refine XS.iloadN X103.here hx rfl (hb hby dc5_126) rfl ?_
      show Steps p.tables e below (T103.setTop (mkF m 127 #[.val (.ref a1), .val (.int (5 : Int32)), .val (.ref bv), .val (.int (120 : Int32)), .val (.ref bc), .val (.ref bu), .val (.int kk), .val (.int (1 : Int32)), w8] [(.int (5 : Int32)), (.int (1 : Int32))])) _
      refine XS.icmpNo X103.here hx rfl (hb hby dc5_127) rfl (by decide) ?_
      refine XS.aload X103.here hx rfl (hb hby dc5_130) rfl rfl ?_
      refine XS.iload X103.here hx rfl (hb hby dc5_132) rfl ?_
      refine XS.iload X103.here hx rfl (hb hby dc5_134) rfl ?_
      refine st105 _ ?_
      refine XS.iinc X105.here hx rfl (hb hby dc5_137) rfl (l' := #[.val (.ref a1), .val (.int (5 : Int32)), .val (.ref bv), .val (.int (120 : Int32)), .val (.ref bc), .val (.ref bu), .val (.int kk), .val (.int (2 : Int32)), w8]) rfl ?_
      refine XS.goto X105.here hx rfl (pc0 := 140) (pc' := 124) rfl (hb hby dc5_140) (by decide) (by decide) ?_
      show Steps p.tables e below (T105.setTop (mkF m 124 #[.val (.ref a1), .val (.int (5 : Int32)), .val (.ref bv), .val (.int (120 : Int32)), .val (.ref bc), .val (.ref bu), .val (.int kk), .val (.int (2 : Int32)), w8] [])) _
      refine XS.iload X105.here hx rfl (hb hby dc5_124) rfl ?_
      refine XS.iloadN X105.here hx rfl (hb hby dc5_126) rfl ?_
      show Steps p.tables e below (T105.setTop (mkF m 127 #[.val (.ref a1), .val (.int (5 : Int32)), .val (.ref bv), .val (.int (120 : Int32)), .val (.ref bc), .val (.ref bu), .val (.int kk), .val (.int (2 : Int32)), w8] [(.int (5 : Int32)), (.int (2 : Int32))])) _
      refine XS.icmpNo X105.here hx rfl (hb hby dc5_127) rfl (by decide) ?_
      refine XS.aload X105.here hx rfl (hb hby dc5_130) rfl rfl ?_
      refine XS.iload X105.here hx rfl (hb hby dc5_132) rfl ?_
      refine XS.iload X105.here hx rfl (hb hby dc5_134) rfl ?_
      refine st107 _ ?_
      refine XS.iinc X107.here hx rfl (hb hby dc5_137) rfl (l' := #[.val (.ref a1), .val (.int (5 : Int32)), .val (.ref bv), .val (.int (120 : Int32)), .val (.ref bc), .val (.ref bu), .val (.int kk), .val (.int (3 : Int32)), w8]) rfl ?_
      refine XS.goto X107.here hx rfl (pc0 := 140) (pc' := 124) rfl (hb hby dc5_140) (by decide) (by decide) ?_
      refine XS.iload X107.here hx rfl (hb hby dc5_124) rfl ?_
      refine XS.iloadN X107.here hx rfl (hb hby dc5_126) rfl ?_
      show Steps p.tables e below (T107.setTop (mkF m 127 #[.val (.ref a1), .val (.int (5 : Int32)), .val (.ref bv), .val (.int (120 : Int32)), .val (.ref bc), .val (.ref bu), .val (.int kk), .val (.int (3 : Int32)), w8] [(.int (5 : Int32)), (.int (3 : Int32))])) _
      refine XS.icmpNo X107.here hx rfl (hb hby dc5_127) rfl (by decide) ?_
      refine XS.aload X107.here hx rfl (hb hby dc5_130) rfl rfl ?_
      refine XS.iload X107.here hx rfl (hb hby dc5_132) rfl ?_
      refine XS.iload X107.here hx rfl (hb hby dc5_134) rfl ?_
      refine st109 _ ?_
      refine XS.iinc X109.here hx rfl (hb hby dc5_137) rfl (l' := #[.val (.ref a1), .val (.int (5 : Int32)), .val (.ref bv), .val (.int (120 : Int32)), .val (.ref bc), .val (.ref bu), .val (.int kk), .val (.int (4 : Int32)), w8]) rfl ?_
      refine XS.goto X109.here hx rfl (pc0 := 140) (pc' := 124) rfl (hb hby dc5_140) (by decide) (by decide) ?_
      refine XS.iload X109.here hx rfl (hb hby dc5_124) rfl ?_
      refine XS.iloadN X109.here hx rfl (hb hby dc5_126) rfl ?_
      show Steps p.tables e below (T109.setTop (mkF m 127 #[.val (.ref a1), .val (.int (5 : Int32)), .val (.ref bv), .val (.int (120 : Int32)), .val (.ref bc), .val (.ref bu), .val (.int kk), .val (.int (4 : Int32)), w8] [(.int (5 : Int32)), (.int (4 : Int32))])) _
      refine XS.icmpNo X109.here hx rfl (hb hby dc5_127) rfl (by decide) ?_
      refine XS.aload X109.here hx rfl (hb hby dc5_130) rfl rfl ?_
      refine XS.iload X109.here hx rfl (hb hby dc5_132) rfl ?_
      refine XS.iload X109.here hx rfl (hb hby dc5_134) rfl ?_
      refine st111 _ ?_
      show Steps p.tables e below (T111.setTop (mkF m 137 #[.val (.ref a1), .val (.int (5 : Int32)), .val (.ref bv), .val (.int (120 : Int32)), .val (.ref bc), .val (.ref bu), .val (.int kk), .val (.int (4 : Int32)), w8] [])) _
      refine XS.iinc X111.here hx rfl (hb hby dc5_137) rfl (l' := #[.val (.ref a1), .val (.int (5 : Int32)), .val (.ref bv), .val (.int (120 : Int32)), .val (.ref bc), .val (.ref bu), .val (.int kk), .val (.int (5 : Int32)), w8]) rfl ?_
      refine XS.goto X111.here hx rfl (pc0 := 140) (pc' := 124) rfl (hb hby dc5_140) (by decide) (by decide) ?_
      refine XS.iload X111.here hx rfl (hb hby dc5_124) rfl ?_
      refine XS.iloadN X111.here hx rfl (hb hby dc5_126) rfl ?_
      show Steps p.tables e below (T111.setTop (mkF m 127 #[.val (.ref a1), .val (.int (5 : Int32)), .val (.ref bv), .val (.int (120 : Int32)), .val (.ref bc), .val (.ref bu), .val (.int kk), .val (.int (5 : Int32)), w8] [(.int (5 : Int32)), (.int (5 : Int32))])) _
      refine XS.icmpYes X111.here hx rfl (pc0 := 127) (pc' := 143) rfl (hb hby dc5_127) rfl (by decide) (by decide) (by decide) ?_
      refine XS.iconst X111.here hx rfl (hb hby dc5_143) ?_
      refine XS.istore X111.here hx rfl (hb hby dc5_144) rfl (l' := #[.val (.ref a1), .val (.int (5 : Int32)), .val (.ref bv), .val (.int (120 : Int32)), .val (.ref bc), .val (.ref bu), .val (.int kk), .val (.int (0 : Int32)), w8]) rfl ?_
      refine XS.iload X111.here hx rfl (hb hby dc5_146) rfl ?_
      refine XS.iloadN X111.here hx rfl (hb hby dc5_148) rfl ?_
      show Steps p.tables e below (T111.setTop (mkF m 149 #[.val (.ref a1), .val (.int (5 : Int32)), .val (.ref bv), .val (.int (120 : Int32)), .val (.ref bc), .val (.ref bu), .val (.int kk), .val (.int (0 : Int32)), w8] [(.int (5 : Int32)), (.int (0 : Int32))])) _
      refine XS.icmpNo X111.here hx rfl (hb hby dc5_149) rfl (by decide) ?_
      refine XS.aload X111.here hx rfl (hb hby dc5_152) rfl rfl ?_
      refine XS.aload X111.here hx rfl (hb hby dc5_154) rfl rfl ?_
      refine XS.iload X111.here hx rfl (hb hby dc5_156) rfl ?_
      refine X111.iaload hx (j := (0 : Int32)) (v := (.int c0)) (by rw [e111]; exact Ar113.1) (State.isArrayOf_alike hZ.alike Ar113.2.1) Ar113.2.2 hin113 hat113 (g := (mkF m 158 #[.val (.ref a1), .val (.int (5 : Int32)), .val (.ref bv), .val (.int (120 : Int32)), .val (.ref bc), .val (.ref bu), .val (.int kk), .val (.int (0 : Int32)), w8] [(.int (0 : Int32)), (.ref bc), (.ref bu)])) rfl rfl (hb hby dc5_158) _ ?_
      refine X111.iaload hx (j := c0) (v := (.int it115)) (by rw [e111]; exact Ar114.1) (State.isArrayOf_alike hZ.alike Ar114.2.1) Ar114.2.2 hin114 hat114 (g := (mkF m 159 #[.val (.ref a1), .val (.int (5 : Int32)), .val (.ref bv), .val (.int (120 : Int32)), .val (.ref bc), .val (.ref bu), .val (.int kk), .val (.int (0 : Int32)), w8] [(.int c0), (.ref bu)])) rfl rfl (hb hby dc5_159) _ ?_
      refine XS.istore X111.here hx rfl (hb hby dc5_160) rfl (l' := #[.val (.ref a1), .val (.int (5 : Int32)), .val (.ref bv), .val (.int (120 : Int32)), .val (.ref bc), .val (.ref bu), .val (.int kk), .val (.int (0 : Int32)), .val (.int it115)]) (os_1 hw8) ?_
      refine XS.aload X111.here hx rfl (hb hby dc5_162) rfl rfl ?_
      refine XS.aload X111.here hx rfl (hb hby dc5_164) rfl rfl ?_
      refine XS.iload X111.here hx rfl (hb hby dc5_166) rfl ?_
      refine X111.iaload hx (j := (0 : Int32)) (v := (.int c0)) (by rw [e111]; exact Ar116.1) (State.isArrayOf_alike hZ.alike Ar116.2.1) Ar116.2.2 hin116 hat116 (g := (mkF m 168 #[.val (.ref a1), .val (.int (5 : Int32)), .val (.ref bv), .val (.int (120 : Int32)), .val (.ref bc), .val (.ref bu), .val (.int kk), .val (.int (0 : Int32)), .val (.int it115)] [(.int (0 : Int32)), (.ref bc), (.ref bu)])) rfl rfl (hb hby dc5_168) _ ?_
      refine XS.iconst X111.here hx rfl (hb hby dc5_169) ?_
      refine XS.iadd X111.here hx rfl (hb hby dc5_170) rfl ?_
      refine XS.aload X111.here hx rfl (hb hby dc5_171) rfl rfl ?_
      refine XS.aload X111.here hx rfl (hb hby dc5_173) rfl rfl ?_
      refine XS.iload X111.here hx rfl (hb hby dc5_175) rfl ?_
      show Steps p.tables e below (T111.setTop (mkF m 177 #[.val (.ref a1), .val (.int (5 : Int32)), .val (.ref bv), .val (.int (120 : Int32)), .val (.ref bc), .val (.ref bu), .val (.int kk), .val (.int (0 : Int32)), .val (.int it115)] [(.int (0 : Int32)), (.ref bc), (.ref bu), (.int (c0 + (1 : Int32))), (.ref bu)])) _
      refine X111.iaload hx (j := (0 : Int32)) (v := (.int c0)) (by rw [e111]; exact Ar117.1) (State.isArrayOf_alike hZ.alike Ar117.2.1) Ar117.2.2 hin117 hat117 (g := (mkF m 177 #[.val (.ref a1), .val (.int (5 : Int32)), .val (.ref bv), .val (.int (120 : Int32)), .val (.ref bc), .val (.ref bu), .val (.int kk), .val (.int (0 : Int32)), .val (.int it115)] [(.int (0 : Int32)), (.ref bc), (.ref bu), (.int (c0 + (1 : Int32))), (.ref bu)])) rfl rfl (hb hby dc5_177) _ ?_
      refine XS.iloadN X111.here hx rfl (hb hby dc5_178) rfl ?_
      refine XS.iconst X111.here hx rfl (hb hby dc5_179) ?_
      refine XS.isub X111.here hx rfl (hb hby dc5_180) rfl ?_
      refine XS.iload X111.here hx rfl (hb hby dc5_181) rfl ?_
      refine XS.isub X111.here hx rfl (hb hby dc5_183) rfl ?_
      refine XS.aload X111.here hx rfl (hb hby dc5_184) rfl rfl ?_
      refine XS.iload X111.here hx rfl (hb hby dc5_186) rfl ?_
      refine X111.iaload hx (j := (0 : Int32)) (v := (.int c0)) (by rw [e111]; exact Ar118.1) (State.isArrayOf_alike hZ.alike Ar118.2.1) Ar118.2.2 hin118 hat118 (g := (mkF m 188 #[.val (.ref a1), .val (.int (5 : Int32)), .val (.ref bv), .val (.int (120 : Int32)), .val (.ref bc), .val (.ref bu), .val (.int kk), .val (.int (0 : Int32)), .val (.int it115)] [(.int (0 : Int32)), (.ref bc), (.int (4 : Int32)), (.int c0), (.ref bu), (.int (c0 + (1 : Int32))), (.ref bu)])) rfl rfl (hb hby dc5_188) _ ?_
      refine XS.isub X111.here hx rfl (hb hby dc5_189) rfl ?_
      refine st119 _ ?_
      refine XS.aloadN X119.here hx rfl (hb hby dc5_193) rfl rfl ?_
      refine st125 _ ?_
      refine XS.iload X125.here hx rfl (hb hby dc5_197) rfl ?_
      refine XS.aloadN X125.here hx rfl (hb hby dc5_199) rfl rfl ?_
      refine st127 _ ?_
      refine XS.imul X127.here hx rfl (hb hby dc5_203) rfl ?_
      refine XS.iload X127.here hx rfl (hb hby dc5_204) rfl ?_
      refine XS.iadd X127.here hx rfl (hb hby dc5_206) rfl ?_
      refine XS.iload X127.here hx rfl (hb hby dc5_207) rfl ?_
      refine XS.i2b X127.here hx rfl (hb hby dc5_209) rfl ?_
      refine st130 _ ?_
      refine XS.iinc X130.here hx rfl (hb hby dc5_211) rfl (l' := #[.val (.ref a1), .val (.int (5 : Int32)), .val (.ref bv), .val (.int (120 : Int32)), .val (.ref bc), .val (.ref bu), .val (.int kk), .val (.int (1 : Int32)), .val (.int it115)]) rfl ?_
      refine XS.goto X130.here hx rfl (pc0 := 214) (pc' := 146) rfl (hb hby dc5_214) (by decide) (by decide) ?_
      refine XS.iload X130.here hx rfl (hb hby dc5_146) rfl ?_
      show Steps p.tables e below (T130.setTop (mkF m 148 #[.val (.ref a1), .val (.int (5 : Int32)), .val (.ref bv), .val (.int (120 : Int32)), .val (.ref bc), .val (.ref bu), .val (.int kk), .val (.int (1 : Int32)), .val (.int it115)] [(.int (1 : Int32))])) _
      refine XS.iloadN X130.here hx rfl (hb hby dc5_148) rfl ?_
      show Steps p.tables e below (T130.setTop (mkF m 149 #[.val (.ref a1), .val (.int (5 : Int32)), .val (.ref bv), .val (.int (120 : Int32)), .val (.ref bc), .val (.ref bu), .val (.int kk), .val (.int (1 : Int32)), .val (.int it115)] [(.int (5 : Int32)), (.int (1 : Int32))])) _
      refine XS.icmpNo X130.here hx rfl (hb hby dc5_149) rfl (by decide) ?_
      refine XS.aload X130.here hx rfl (hb hby dc5_152) rfl rfl ?_
      refine XS.aload X130.here hx rfl (hb hby dc5_154) rfl rfl ?_
      refine XS.iload X130.here hx rfl (hb hby dc5_156) rfl ?_
      refine X130.iaload hx (j := (1 : Int32)) (v := (.int c1)) (by rw [e130]; exact Ar132.1) (State.isArrayOf_alike hZ.alike Ar132.2.1) Ar132.2.2 hin132 hat132 (g := (mkF m 158 #[.val (.ref a1), .val (.int (5 : Int32)), .val (.ref bv), .val (.int (120 : Int32)), .val (.ref bc), .val (.ref bu), .val (.int kk), .val (.int (1 : Int32)), .val (.int it115)] [(.int (1 : Int32)), (.ref bc), (.ref bu)])) rfl rfl (hb hby dc5_158) _ ?_
      refine X130.iaload hx (j := c1) (v := (.int it135)) (by rw [e130]; exact Ar134.1) (State.isArrayOf_alike hZ.alike Ar134.2.1) Ar134.2.2 hin134 hat134 (g := (mkF m 159 #[.val (.ref a1), .val (.int (5 : Int32)), .val (.ref bv), .val (.int (120 : Int32)), .val (.ref bc), .val (.ref bu), .val (.int kk), .val (.int (1 : Int32)), .val (.int it115)] [(.int c1), (.ref bu)])) rfl rfl (hb hby dc5_159) _ ?_
      refine XS.istore X130.here hx rfl (hb hby dc5_160) rfl (l' := #[.val (.ref a1), .val (.int (5 : Int32)), .val (.ref bv), .val (.int (120 : Int32)), .val (.ref bc), .val (.ref bu), .val (.int kk), .val (.int (1 : Int32)), .val (.int it135)]) rfl ?_
      refine XS.aload X130.here hx rfl (hb hby dc5_162) rfl rfl ?_
      refine XS.aload X130.here hx rfl (hb hby dc5_164) rfl rfl ?_
      refine XS.iload X130.here hx rfl (hb hby dc5_166) rfl ?_
      refine X130.iaload hx (j := (1 : Int32)) (v := (.int c1)) (by rw [e130]; exact Ar136.1) (State.isArrayOf_alike hZ.alike Ar136.2.1) Ar136.2.2 hin136 hat136 (g := (mkF m 168 #[.val (.ref a1), .val (.int (5 : Int32)), .val (.ref bv), .val (.int (120 : Int32)), .val (.ref bc), .val (.ref bu), .val (.int kk), .val (.int (1 : Int32)), .val (.int it135)] [(.int (1 : Int32)), (.ref bc), (.ref bu)])) rfl rfl (hb hby dc5_168) _ ?_
      refine XS.iconst X130.here hx rfl (hb hby dc5_169) ?_
      refine XS.iadd X130.here hx rfl (hb hby dc5_170) rfl ?_
      refine XS.aload X130.here hx rfl (hb hby dc5_171) rfl rfl ?_
      refine XS.aload X130.here hx rfl (hb hby dc5_173) rfl rfl ?_
      refine XS.iload X130.here hx rfl (hb hby dc5_175) rfl ?_
      refine X130.iaload hx (j := (1 : Int32)) (v := (.int c1)) (by rw [e130]; exact Ar137.1) (State.isArrayOf_alike hZ.alike Ar137.2.1) Ar137.2.2 hin137 hat137 (g := (mkF m 177 #[.val (.ref a1), .val (.int (5 : Int32)), .val (.ref bv), .val (.int (120 : Int32)), .val (.ref bc), .val (.ref bu), .val (.int kk), .val (.int (1 : Int32)), .val (.int it135)] [(.int (1 : Int32)), (.ref bc), (.ref bu), (.int (c1 + (1 : Int32))), (.ref bu)])) rfl rfl (hb hby dc5_177) _ ?_
      refine XS.iloadN X130.here hx rfl (hb hby dc5_178) rfl ?_
      refine XS.iconst X130.here hx rfl (hb hby dc5_179) ?_
      refine XS.isub X130.here hx rfl (hb hby dc5_180) rfl ?_
      refine XS.iload X130.here hx rfl (hb hby dc5_181) rfl ?_
      refine XS.isub X130.here hx rfl (hb hby dc5_183) rfl ?_
      refine XS.aload X130.here hx rfl (hb hby dc5_184) rfl rfl ?_
      refine XS.iload X130.here hx rfl (hb hby dc5_186) rfl ?_
      show Steps p.tables e below (T130.setTop (mkF m 188 #[.val (.ref a1), .val (.int (5 : Int32)), .val (.ref bv), .val (.int (120 : Int32)), .val (.ref bc), .val (.ref bu), .val (.int kk), .val (.int (1 : Int32)), .val (.int it135)] [(.int (1 : Int32)), (.ref bc), (.int (3 : Int32)), (.int c1), (.ref bu), (.int (c1 + (1 : Int32))), (.ref bu)])) _
      refine X130.iaload hx (j := (1 : Int32)) (v := (.int c1)) (by rw [e130]; exact Ar138.1) (State.isArrayOf_alike hZ.alike Ar138.2.1) Ar138.2.2 hin138 hat138 (g := (mkF m 188 #[.val (.ref a1), .val (.int (5 : Int32)), .val (.ref bv), .val (.int (120 : Int32)), .val (.ref bc), .val (.ref bu), .val (.int kk), .val (.int (1 : Int32)), .val (.int it135)] [(.int (1 : Int32)), (.ref bc), (.int (3 : Int32)), (.int c1), (.ref bu), (.int (c1 + (1 : Int32))), (.ref bu)])) rfl rfl (hb hby dc5_188) _ ?_
      refine XS.isub X130.here hx rfl (hb hby dc5_189) rfl ?_
      refine st139 _ ?_
      refine XS.aloadN X139.here hx rfl (hb hby dc5_193) rfl rfl ?_
      refine st144 _ ?_
      refine XS.iload X144.here hx rfl (hb hby dc5_197) rfl ?_
      refine XS.aloadN X144.here hx rfl (hb hby dc5_199) rfl rfl ?_
      refine st146 _ ?_
      refine XS.imul X146.here hx rfl (hb hby dc5_203) rfl ?_
      refine XS.iload X146.here hx rfl (hb hby dc5_204) rfl ?_
      refine XS.iadd X146.here hx rfl (hb hby dc5_206) rfl ?_
      refine XS.iload X146.here hx rfl (hb hby dc5_207) rfl ?_
      refine XS.i2b X146.here hx rfl (hb hby dc5_209) rfl ?_
      refine st149 _ ?_
      refine XS.iinc X149.here hx rfl (hb hby dc5_211) rfl (l' := #[.val (.ref a1), .val (.int (5 : Int32)), .val (.ref bv), .val (.int (120 : Int32)), .val (.ref bc), .val (.ref bu), .val (.int kk), .val (.int (2 : Int32)), .val (.int it135)]) rfl ?_
      refine XS.goto X149.here hx rfl (pc0 := 214) (pc' := 146) rfl (hb hby dc5_214) (by decide) (by decide) ?_
      refine XS.iload X149.here hx rfl (hb hby dc5_146) rfl ?_
      refine XS.iloadN X149.here hx rfl (hb hby dc5_148) rfl ?_
      show Steps p.tables e below (T149.setTop (mkF m 149 #[.val (.ref a1), .val (.int (5 : Int32)), .val (.ref bv), .val (.int (120 : Int32)), .val (.ref bc), .val (.ref bu), .val (.int kk), .val (.int (2 : Int32)), .val (.int it135)] [(.int (5 : Int32)), (.int (2 : Int32))])) _
      refine XS.icmpNo X149.here hx rfl (hb hby dc5_149) rfl (by decide) ?_
      refine XS.aload X149.here hx rfl (hb hby dc5_152) rfl rfl ?_
      refine XS.aload X149.here hx rfl (hb hby dc5_154) rfl rfl ?_
      refine XS.iload X149.here hx rfl (hb hby dc5_156) rfl ?_
      refine X149.iaload hx (j := (2 : Int32)) (v := (.int c2)) (by rw [e149]; exact Ar151.1) (State.isArrayOf_alike hZ.alike Ar151.2.1) Ar151.2.2 hin151 hat151 (g := (mkF m 158 #[.val (.ref a1), .val (.int (5 : Int32)), .val (.ref bv), .val (.int (120 : Int32)), .val (.ref bc), .val (.ref bu), .val (.int kk), .val (.int (2 : Int32)), .val (.int it135)] [(.int (2 : Int32)), (.ref bc), (.ref bu)])) rfl rfl (hb hby dc5_158) _ ?_
      refine X149.iaload hx (j := c2) (v := (.int it154)) (by rw [e149]; exact Ar153.1) (State.isArrayOf_alike hZ.alike Ar153.2.1) Ar153.2.2 hin153 hat153 (g := (mkF m 159 #[.val (.ref a1), .val (.int (5 : Int32)), .val (.ref bv), .val (.int (120 : Int32)), .val (.ref bc), .val (.ref bu), .val (.int kk), .val (.int (2 : Int32)), .val (.int it135)] [(.int c2), (.ref bu)])) rfl rfl (hb hby dc5_159) _ ?_
      refine XS.istore X149.here hx rfl (hb hby dc5_160) rfl (l' := #[.val (.ref a1), .val (.int (5 : Int32)), .val (.ref bv), .val (.int (120 : Int32)), .val (.ref bc), .val (.ref bu), .val (.int kk), .val (.int (2 : Int32)), .val (.int it154)]) rfl ?_
      show Steps p.tables e below (T149.setTop (mkF m 162 #[.val (.ref a1), .val (.int (5 : Int32)), .val (.ref bv), .val (.int (120 : Int32)), .val (.ref bc), .val (.ref bu), .val (.int kk), .val (.int (2 : Int32)), .val (.int it154)] [])) _
      refine XS.aload X149.here hx rfl (hb hby dc5_162) rfl rfl ?_
      refine XS.aload X149.here hx rfl (hb hby dc5_164) rfl rfl ?_
      refine XS.iload X149.here hx rfl (hb hby dc5_166) rfl ?_
      refine X149.iaload hx (j := (2 : Int32)) (v := (.int c2)) (by rw [e149]; exact Ar155.1) (State.isArrayOf_alike hZ.alike Ar155.2.1) Ar155.2.2 hin155 hat155 (g := (mkF m 168 #[.val (.ref a1), .val (.int (5 : Int32)), .val (.ref bv), .val (.int (120 : Int32)), .val (.ref bc), .val (.ref bu), .val (.int kk), .val (.int (2 : Int32)), .val (.int it154)] [(.int (2 : Int32)), (.ref bc), (.ref bu)])) rfl rfl (hb hby dc5_168) _ ?_
      refine XS.iconst X149.here hx rfl (hb hby dc5_169) ?_
      refine XS.iadd X149.here hx rfl (hb hby dc5_170) rfl ?_
      refine XS.aload X149.here hx rfl (hb hby dc5_171) rfl rfl ?_
      refine XS.aload X149.here hx rfl (hb hby dc5_173) rfl rfl ?_
      refine XS.iload X149.here hx rfl (hb hby dc5_175) rfl ?_
      refine X149.iaload hx (j := (2 : Int32)) (v := (.int c2)) (by rw [e149]; exact Ar156.1) (State.isArrayOf_alike hZ.alike Ar156.2.1) Ar156.2.2 hin156 hat156 (g := (mkF m 177 #[.val (.ref a1), .val (.int (5 : Int32)), .val (.ref bv), .val (.int (120 : Int32)), .val (.ref bc), .val (.ref bu), .val (.int kk), .val (.int (2 : Int32)), .val (.int it154)] [(.int (2 : Int32)), (.ref bc), (.ref bu), (.int (c2 + (1 : Int32))), (.ref bu)])) rfl rfl (hb hby dc5_177) _ ?_
      refine XS.iloadN X149.here hx rfl (hb hby dc5_178) rfl ?_
      refine XS.iconst X149.here hx rfl (hb hby dc5_179) ?_
      refine XS.isub X149.here hx rfl (hb hby dc5_180) rfl ?_
      refine XS.iload X149.here hx rfl (hb hby dc5_181) rfl ?_
      refine XS.isub X149.here hx rfl (hb hby dc5_183) rfl ?_
      refine XS.aload X149.here hx rfl (hb hby dc5_184) rfl rfl ?_
      refine XS.iload X149.here hx rfl (hb hby dc5_186) rfl ?_
      refine X149.iaload hx (j := (2 : Int32)) (v := (.int c2)) (by rw [e149]; exact Ar157.1) (State.isArrayOf_alike hZ.alike Ar157.2.1) Ar157.2.2 hin157 hat157 (g := (mkF m 188 #[.val (.ref a1), .val (.int (5 : Int32)), .val (.ref bv), .val (.int (120 : Int32)), .val (.ref bc), .val (.ref bu), .val (.int kk), .val (.int (2 : Int32)), .val (.int it154)] [(.int (2 : Int32)), (.ref bc), (.int (2 : Int32)), (.int c2), (.ref bu), (.int (c2 + (1 : Int32))), (.ref bu)])) rfl rfl (hb hby dc5_188) _ ?_
      refine XS.isub X149.here hx rfl (hb hby dc5_189) rfl ?_
      refine st158 _ ?_
      refine XS.aloadN X158.here hx rfl (hb hby dc5_193) rfl rfl ?_
      refine st162 _ ?_
      refine XS.iload X162.here hx rfl (hb hby dc5_197) rfl ?_
      refine XS.aloadN X162.here hx rfl (hb hby dc5_199) rfl rfl ?_
      refine st164 _ ?_
      show Steps p.tables e below (T164.setTop (mkF m 203 #[.val (.ref a1), .val (.int (5 : Int32)), .val (.ref bv), .val (.int (120 : Int32)), .val (.ref bc), .val (.ref bu), .val (.int kk), .val (.int (2 : Int32)), .val (.int it154)] [(.int (120 : Int32)), (.int it154), (.ref bp)])) _
      refine XS.imul X164.here hx rfl (hb hby dc5_203) rfl ?_
      refine XS.iload X164.here hx rfl (hb hby dc5_204) rfl ?_
      refine XS.iadd X164.here hx rfl (hb hby dc5_206) rfl ?_
      refine XS.iload X164.here hx rfl (hb hby dc5_207) rfl ?_
      refine XS.i2b X164.here hx rfl (hb hby dc5_209) rfl ?_
      refine st167 _ ?_
      refine XS.iinc X167.here hx rfl (hb hby dc5_211) rfl (l' := #[.val (.ref a1), .val (.int (5 : Int32)), .val (.ref bv), .val (.int (120 : Int32)), .val (.ref bc), .val (.ref bu), .val (.int kk), .val (.int (3 : Int32)), .val (.int it154)]) rfl ?_
      refine XS.goto X167.here hx rfl (pc0 := 214) (pc' := 146) rfl (hb hby dc5_214) (by decide) (by decide) ?_
      refine XS.iload X167.here hx rfl (hb hby dc5_146) rfl ?_
      refine XS.iloadN X167.here hx rfl (hb hby dc5_148) rfl ?_
      show Steps p.tables e below (T167.setTop (mkF m 149 #[.val (.ref a1), .val (.int (5 : Int32)), .val (.ref bv), .val (.int (120 : Int32)), .val (.ref bc), .val (.ref bu), .val (.int kk), .val (.int (3 : Int32)), .val (.int it154)] [(.int (5 : Int32)), (.int (3 : Int32))])) _
      refine XS.icmpNo X167.here hx rfl (hb hby dc5_149) rfl (by decide) ?_
      refine XS.aload X167.here hx rfl (hb hby dc5_152) rfl rfl ?_
      refine XS.aload X167.here hx rfl (hb hby dc5_154) rfl rfl ?_
      refine XS.iload X167.here hx rfl (hb hby dc5_156) rfl ?_
      refine X167.iaload hx (j := (3 : Int32)) (v := (.int c3)) (by rw [e167]; exact Ar169.1) (State.isArrayOf_alike hZ.alike Ar169.2.1) Ar169.2.2 hin169 hat169 (g := (mkF m 158 #[.val (.ref a1), .val (.int (5 : Int32)), .val (.ref bv), .val (.int (120 : Int32)), .val (.ref bc), .val (.ref bu), .val (.int kk), .val (.int (3 : Int32)), .val (.int it154)] [(.int (3 : Int32)), (.ref bc), (.ref bu)])) rfl rfl (hb hby dc5_158) _ ?_
      refine X167.iaload hx (j := c3) (v := (.int it172)) (by rw [e167]; exact Ar171.1) (State.isArrayOf_alike hZ.alike Ar171.2.1) Ar171.2.2 hin171 hat171 (g := (mkF m 159 #[.val (.ref a1), .val (.int (5 : Int32)), .val (.ref bv), .val (.int (120 : Int32)), .val (.ref bc), .val (.ref bu), .val (.int kk), .val (.int (3 : Int32)), .val (.int it154)] [(.int c3), (.ref bu)])) rfl rfl (hb hby dc5_159) _ ?_
      refine XS.istore X167.here hx rfl (hb hby dc5_160) rfl (l' := #[.val (.ref a1), .val (.int (5 : Int32)), .val (.ref bv), .val (.int (120 : Int32)), .val (.ref bc), .val (.ref bu), .val (.int kk), .val (.int (3 : Int32)), .val (.int it172)]) rfl ?_
      refine XS.aload X167.here hx rfl (hb hby dc5_162) rfl rfl ?_
      refine XS.aload X167.here hx rfl (hb hby dc5_164) rfl rfl ?_
      refine XS.iload X167.here hx rfl (hb hby dc5_166) rfl ?_
      refine X167.iaload hx (j := (3 : Int32)) (v := (.int c3)) (by rw [e167]; exact Ar173.1) (State.isArrayOf_alike hZ.alike Ar173.2.1) Ar173.2.2 hin173 hat173 (g := (mkF m 168 #[.val (.ref a1), .val (.int (5 : Int32)), .val (.ref bv), .val (.int (120 : Int32)), .val (.ref bc), .val (.ref bu), .val (.int kk), .val (.int (3 : Int32)), .val (.int it172)] [(.int (3 : Int32)), (.ref bc), (.ref bu)])) rfl rfl (hb hby dc5_168) _ ?_
      refine XS.iconst X167.here hx rfl (hb hby dc5_169) ?_
      refine XS.iadd X167.here hx rfl (hb hby dc5_170) rfl ?_
      refine XS.aload X167.here hx rfl (hb hby dc5_171) rfl rfl ?_
      refine XS.aload X167.here hx rfl (hb hby dc5_173) rfl rfl ?_
      show Steps p.tables e below (T167.setTop (mkF m 175 #[.val (.ref a1), .val (.int (5 : Int32)), .val (.ref bv), .val (.int (120 : Int32)), .val (.ref bc), .val (.ref bu), .val (.int kk), .val (.int (3 : Int32)), .val (.int it172)] [(.ref bc), (.ref bu), (.int (c3 + (1 : Int32))), (.ref bu)])) _
      refine XS.iload X167.here hx rfl (hb hby dc5_175) rfl ?_
      refine X167.iaload hx (j := (3 : Int32)) (v := (.int c3)) (by rw [e167]; exact Ar174.1) (State.isArrayOf_alike hZ.alike Ar174.2.1) Ar174.2.2 hin174 hat174 (g := (mkF m 177 #[.val (.ref a1), .val (.int (5 : Int32)), .val (.ref bv), .val (.int (120 : Int32)), .val (.ref bc), .val (.ref bu), .val (.int kk), .val (.int (3 : Int32)), .val (.int it172)] [(.int (3 : Int32)), (.ref bc), (.ref bu), (.int (c3 + (1 : Int32))), (.ref bu)])) rfl rfl (hb hby dc5_177) _ ?_
      refine XS.iloadN X167.here hx rfl (hb hby dc5_178) rfl ?_
      refine XS.iconst X167.here hx rfl (hb hby dc5_179) ?_
      refine XS.isub X167.here hx rfl (hb hby dc5_180) rfl ?_
      refine XS.iload X167.here hx rfl (hb hby dc5_181) rfl ?_
      refine XS.isub X167.here hx rfl (hb hby dc5_183) rfl ?_
      refine XS.aload X167.here hx rfl (hb hby dc5_184) rfl rfl ?_
      refine XS.iload X167.here hx rfl (hb hby dc5_186) rfl ?_
      refine X167.iaload hx (j := (3 : Int32)) (v := (.int c3)) (by rw [e167]; exact Ar175.1) (State.isArrayOf_alike hZ.alike Ar175.2.1) Ar175.2.2 hin175 hat175 (g := (mkF m 188 #[.val (.ref a1), .val (.int (5 : Int32)), .val (.ref bv), .val (.int (120 : Int32)), .val (.ref bc), .val (.ref bu), .val (.int kk), .val (.int (3 : Int32)), .val (.int it172)] [(.int (3 : Int32)), (.ref bc), (.int (1 : Int32)), (.int c3), (.ref bu), (.int (c3 + (1 : Int32))), (.ref bu)])) rfl rfl (hb hby dc5_188) _ ?_
      refine XS.isub X167.here hx rfl (hb hby dc5_189) rfl ?_
      refine st176 _ ?_
      refine XS.aloadN X176.here hx rfl (hb hby dc5_193) rfl rfl ?_
      refine st179 _ ?_
      refine XS.iload X179.here hx rfl (hb hby dc5_197) rfl ?_
      refine XS.aloadN X179.here hx rfl (hb hby dc5_199) rfl rfl ?_
      refine st181 _ ?_
      refine XS.imul X181.here hx rfl (hb hby dc5_203) rfl ?_
      refine XS.iload X181.here hx rfl (hb hby dc5_204) rfl ?_
      refine XS.iadd X181.here hx rfl (hb hby dc5_206) rfl ?_
      refine XS.iload X181.here hx rfl (hb hby dc5_207) rfl ?_
      refine XS.i2b X181.here hx rfl (hb hby dc5_209) rfl ?_
      refine st184 _ ?_
      refine XS.iinc X184.here hx rfl (hb hby dc5_211) rfl (l' := #[.val (.ref a1), .val (.int (5 : Int32)), .val (.ref bv), .val (.int (120 : Int32)), .val (.ref bc), .val (.ref bu), .val (.int kk), .val (.int (4 : Int32)), .val (.int it172)]) rfl ?_
      refine XS.goto X184.here hx rfl (pc0 := 214) (pc' := 146) rfl (hb hby dc5_214) (by decide) (by decide) ?_
      show Steps p.tables e below (T184.setTop (mkF m 146 #[.val (.ref a1), .val (.int (5 : Int32)), .val (.ref bv), .val (.int (120 : Int32)), .val (.ref bc), .val (.ref bu), .val (.int kk), .val (.int (4 : Int32)), .val (.int it172)] [])) _
      refine XS.iload X184.here hx rfl (hb hby dc5_146) rfl ?_
      refine XS.iloadN X184.here hx rfl (hb hby dc5_148) rfl ?_
      show Steps p.tables e below (T184.setTop (mkF m 149 #[.val (.ref a1), .val (.int (5 : Int32)), .val (.ref bv), .val (.int (120 : Int32)), .val (.ref bc), .val (.ref bu), .val (.int kk), .val (.int (4 : Int32)), .val (.int it172)] [(.int (5 : Int32)), (.int (4 : Int32))])) _
      refine XS.icmpNo X184.here hx rfl (hb hby dc5_149) rfl (by decide) ?_
      refine XS.aload X184.here hx rfl (hb hby dc5_152) rfl rfl ?_
      refine XS.aload X184.here hx rfl (hb hby dc5_154) rfl rfl ?_
      refine XS.iload X184.here hx rfl (hb hby dc5_156) rfl ?_
      refine X184.iaload hx (j := (4 : Int32)) (v := (.int c4)) (by rw [e184]; exact Ar186.1) (State.isArrayOf_alike hZ.alike Ar186.2.1) Ar186.2.2 hin186 hat186 (g := (mkF m 158 #[.val (.ref a1), .val (.int (5 : Int32)), .val (.ref bv), .val (.int (120 : Int32)), .val (.ref bc), .val (.ref bu), .val (.int kk), .val (.int (4 : Int32)), .val (.int it172)] [(.int (4 : Int32)), (.ref bc), (.ref bu)])) rfl rfl (hb hby dc5_158) _ ?_
      refine X184.iaload hx (j := c4) (v := (.int it189)) (by rw [e184]; exact Ar188.1) (State.isArrayOf_alike hZ.alike Ar188.2.1) Ar188.2.2 hin188 hat188 (g := (mkF m 159 #[.val (.ref a1), .val (.int (5 : Int32)), .val (.ref bv), .val (.int (120 : Int32)), .val (.ref bc), .val (.ref bu), .val (.int kk), .val (.int (4 : Int32)), .val (.int it172)] [(.int c4), (.ref bu)])) rfl rfl (hb hby dc5_159) _ ?_
      refine XS.istore X184.here hx rfl (hb hby dc5_160) rfl (l' := #[.val (.ref a1), .val (.int (5 : Int32)), .val (.ref bv), .val (.int (120 : Int32)), .val (.ref bc), .val (.ref bu), .val (.int kk), .val (.int (4 : Int32)), .val (.int it189)]) rfl ?_
      refine XS.aload X184.here hx rfl (hb hby dc5_162) rfl rfl ?_
      refine XS.aload X184.here hx rfl (hb hby dc5_164) rfl rfl ?_
      refine XS.iload X184.here hx rfl (hb hby dc5_166) rfl ?_
      refine X184.iaload hx (j := (4 : Int32)) (v := (.int c4)) (by rw [e184]; exact Ar190.1) (State.isArrayOf_alike hZ.alike Ar190.2.1) Ar190.2.2 hin190 hat190 (g := (mkF m 168 #[.val (.ref a1), .val (.int (5 : Int32)), .val (.ref bv), .val (.int (120 : Int32)), .val (.ref bc), .val (.ref bu), .val (.int kk), .val (.int (4 : Int32)), .val (.int it189)] [(.int (4 : Int32)), (.ref bc), (.ref bu)])) rfl rfl (hb hby dc5_168) _ ?_
      refine XS.iconst X184.here hx rfl (hb hby dc5_169) ?_
      refine XS.iadd X184.here hx rfl (hb hby dc5_170) rfl ?_
      refine XS.aload X184.here hx rfl (hb hby dc5_171) rfl rfl ?_
      refine XS.aload X184.here hx rfl (hb hby dc5_173) rfl rfl ?_
      refine XS.iload X184.here hx rfl (hb hby dc5_175) rfl ?_
      refine X184.iaload hx (j := (4 : Int32)) (v := (.int c4)) (by rw [e184]; exact Ar191.1) (State.isArrayOf_alike hZ.alike Ar191.2.1) Ar191.2.2 hin191 hat191 (g := (mkF m 177 #[.val (.ref a1), .val (.int (5 : Int32)), .val (.ref bv), .val (.int (120 : Int32)), .val (.ref bc), .val (.ref bu), .val (.int kk), .val (.int (4 : Int32)), .val (.int it189)] [(.int (4 : Int32)), (.ref bc), (.ref bu), (.int (c4 + (1 : Int32))), (.ref bu)])) rfl rfl (hb hby dc5_177) _ ?_
      refine XS.iloadN X184.here hx rfl (hb hby dc5_178) rfl ?_
      refine XS.iconst X184.here hx rfl (hb hby dc5_179) ?_
      refine XS.isub X184.here hx rfl (hb hby dc5_180) rfl ?_
      refine XS.iload X184.here hx rfl (hb hby dc5_181) rfl ?_
      refine XS.isub X184.here hx rfl (hb hby dc5_183) rfl ?_
      refine XS.aload X184.here hx rfl (hb hby dc5_184) rfl rfl ?_
      show Steps p.tables e below (T184.setTop (mkF m 186 #[.val (.ref a1), .val (.int (5 : Int32)), .val (.ref bv), .val (.int (120 : Int32)), .val (.ref bc), .val (.ref bu), .val (.int kk), .val (.int (4 : Int32)), .val (.int it189)] [(.ref bc), (.int (0 : Int32)), (.int c4), (.ref bu), (.int (c4 + (1 : Int32))), (.ref bu)])) _
      refine XS.iload X184.here hx rfl (hb hby dc5_186) rfl ?_
      refine X184.iaload hx (j := (4 : Int32)) (v := (.int c4)) (by rw [e184]; exact Ar192.1) (State.isArrayOf_alike hZ.alike Ar192.2.1) Ar192.2.2 hin192 hat192 (g := (mkF m 188 #[.val (.ref a1), .val (.int (5 : Int32)), .val (.ref bv), .val (.int (120 : Int32)), .val (.ref bc), .val (.ref bu), .val (.int kk), .val (.int (4 : Int32)), .val (.int it189)] [(.int (4 : Int32)), (.ref bc), (.int (0 : Int32)), (.int c4), (.ref bu), (.int (c4 + (1 : Int32))), (.ref bu)])) rfl rfl (hb hby dc5_188) _ ?_
      refine XS.isub X184.here hx rfl (hb hby dc5_189) rfl ?_
      refine st193 _ ?_
      refine XS.aloadN X193.here hx rfl (hb hby dc5_193) rfl rfl ?_
      refine st195 _ ?_
      refine XS.iload X195.here hx rfl (hb hby dc5_197) rfl ?_
      refine XS.aloadN X195.here hx rfl (hb hby dc5_199) rfl rfl ?_
      refine st197 _ ?_
      refine XS.imul X197.here hx rfl (hb hby dc5_203) rfl ?_
      refine XS.iload X197.here hx rfl (hb hby dc5_204) rfl ?_
      refine XS.iadd X197.here hx rfl (hb hby dc5_206) rfl ?_
      refine XS.iload X197.here hx rfl (hb hby dc5_207) rfl ?_
      refine XS.i2b X197.here hx rfl (hb hby dc5_209) rfl ?_
      refine st200 _ ?_
      refine XS.iinc X200.here hx rfl (hb hby dc5_211) rfl (l' := #[.val (.ref a1), .val (.int (5 : Int32)), .val (.ref bv), .val (.int (120 : Int32)), .val (.ref bc), .val (.ref bu), .val (.int kk), .val (.int (5 : Int32)), .val (.int it189)]) rfl ?_
      refine XS.goto X200.here hx rfl (pc0 := 214) (pc' := 146) rfl (hb hby dc5_214) (by decide) (by decide) ?_
      refine XS.iload X200.here hx rfl (hb hby dc5_146) rfl ?_
      refine XS.iloadN X200.here hx rfl (hb hby dc5_148) rfl ?_
      show Steps p.tables e below (T200.setTop (mkF m 149 #[.val (.ref a1), .val (.int (5 : Int32)), .val (.ref bv), .val (.int (120 : Int32)), .val (.ref bc), .val (.ref bu), .val (.int kk), .val (.int (5 : Int32)), .val (.int it189)] [(.int (5 : Int32)), (.int (5 : Int32))])) _
      refine XS.icmpYes X200.here hx rfl (pc0 := 149) (pc' := 217) rfl (hb hby dc5_149) rfl (by decide) (by decide) (by decide) ?_
      refine XS.iconst X200.here hx rfl (hb hby dc5_217) ?_
      refine XS.istore X200.here hx rfl (hb hby dc5_218) rfl (l' := #[.val (.ref a1), .val (.int (5 : Int32)), .val (.ref bv), .val (.int (120 : Int32)), .val (.ref bc), .val (.ref bu), .val (.int kk), .val (.int (0 : Int32)), .val (.int it189)]) rfl ?_
      refine XS.iload X200.here hx rfl (hb hby dc5_220) rfl ?_
      refine XS.iloadN X200.here hx rfl (hb hby dc5_222) rfl ?_
      refine XS.iconst X200.here hx rfl (hb hby dc5_223) ?_
      show Steps p.tables e below (T200.setTop (mkF m 224 #[.val (.ref a1), .val (.int (5 : Int32)), .val (.ref bv), .val (.int (120 : Int32)), .val (.ref bc), .val (.ref bu), .val (.int kk), .val (.int (0 : Int32)), .val (.int it189)] [(.int (1 : Int32)), (.int (5 : Int32)), (.int (0 : Int32))])) _
      refine XS.isub X200.here hx rfl (hb hby dc5_224) rfl ?_
      show Steps p.tables e below (T200.setTop (mkF m 225 #[.val (.ref a1), .val (.int (5 : Int32)), .val (.ref bv), .val (.int (120 : Int32)), .val (.ref bc), .val (.ref bu), .val (.int kk), .val (.int (0 : Int32)), .val (.int it189)] [(.int (4 : Int32)), (.int (0 : Int32))])) _
      refine XS.icmpNo X200.here hx rfl (hb hby dc5_225) rfl (by decide) ?_
      refine XS.aloadN X200.here hx rfl (hb hby dc5_228) rfl rfl ?_
      refine st202 _ ?_
      refine XS.iload X202.here hx rfl (hb hby dc5_232) rfl ?_
      refine XS.iloadN X202.here hx rfl (hb hby dc5_234) rfl ?_
      refine XS.iconst X202.here hx rfl (hb hby dc5_235) ?_
      refine XS.isub X202.here hx rfl (hb hby dc5_236) rfl ?_
      refine XS.imul X202.here hx rfl (hb hby dc5_237) rfl ?_
      refine XS.iload X202.here hx rfl (hb hby dc5_238) rfl ?_
      refine XS.iadd X202.here hx rfl (hb hby dc5_240) rfl ?_
      refine XS.iload X202.here hx rfl (hb hby dc5_241) rfl ?_
      refine XS.aload X202.here hx rfl (hb hby dc5_243) rfl rfl ?_
      refine XS.aloadN X202.here hx rfl (hb hby dc5_245) rfl rfl ?_
      refine XS.iload X202.here hx rfl (hb hby dc5_246) rfl ?_
      refine st206 _ ?_
      refine st209 _ ?_
      refine XS.iinc X209.here hx rfl (hb hby dc5_252) rfl (l' := #[.val (.ref a1), .val (.int (5 : Int32)), .val (.ref bv), .val (.int (120 : Int32)), .val (.ref bc), .val (.ref bu), .val (.int kk), .val (.int (1 : Int32)), .val (.int it189)]) rfl ?_
      refine XS.goto X209.here hx rfl (pc0 := 255) (pc' := 220) rfl (hb hby dc5_255) (by decide) (by decide) ?_
      refine XS.iload X209.here hx rfl (hb hby dc5_220) rfl ?_
      refine XS.iloadN X209.here hx rfl (hb hby dc5_222) rfl ?_
      refine XS.iconst X209.here hx rfl (hb hby dc5_223) ?_
      refine XS.isub X209.here hx rfl (hb hby dc5_224) rfl ?_
      show Steps p.tables e below (T209.setTop (mkF m 225 #[.val (.ref a1), .val (.int (5 : Int32)), .val (.ref bv), .val (.int (120 : Int32)), .val (.ref bc), .val (.ref bu), .val (.int kk), .val (.int (1 : Int32)), .val (.int it189)] [(.int (4 : Int32)), (.int (1 : Int32))])) _
      refine XS.icmpNo X209.here hx rfl (hb hby dc5_225) rfl (by decide) ?_
      refine XS.aloadN X209.here hx rfl (hb hby dc5_228) rfl rfl ?_
      show Steps p.tables e below (T209.setTop (mkF m 229 #[.val (.ref a1), .val (.int (5 : Int32)), .val (.ref bv), .val (.int (120 : Int32)), .val (.ref bc), .val (.ref bu), .val (.int kk), .val (.int (1 : Int32)), .val (.int it189)] [(.ref a1)])) _
      refine st211 _ ?_
      refine XS.iload X211.here hx rfl (hb hby dc5_232) rfl ?_
      refine XS.iloadN X211.here hx rfl (hb hby dc5_234) rfl ?_
      refine XS.iconst X211.here hx rfl (hb hby dc5_235) ?_
      refine XS.isub X211.here hx rfl (hb hby dc5_236) rfl ?_
      refine XS.imul X211.here hx rfl (hb hby dc5_237) rfl ?_
      refine XS.iload X211.here hx rfl (hb hby dc5_238) rfl ?_
      refine XS.iadd X211.here hx rfl (hb hby dc5_240) rfl ?_
      refine XS.iload X211.here hx rfl (hb hby dc5_241) rfl ?_
      refine XS.aload X211.here hx rfl (hb hby dc5_243) rfl rfl ?_
      refine XS.aloadN X211.here hx rfl (hb hby dc5_245) rfl rfl ?_
      refine XS.iload X211.here hx rfl (hb hby dc5_246) rfl ?_
      refine st215 _ ?_
      refine st217 _ ?_
      refine XS.iinc X217.here hx rfl (hb hby dc5_252) rfl (l' := #[.val (.ref a1), .val (.int (5 : Int32)), .val (.ref bv), .val (.int (120 : Int32)), .val (.ref bc), .val (.ref bu), .val (.int kk), .val (.int (2 : Int32)), .val (.int it189)]) rfl ?_
      refine XS.goto X217.here hx rfl (pc0 := 255) (pc' := 220) rfl (hb hby dc5_255) (by decide) (by decide) ?_
      refine XS.iload X217.here hx rfl (hb hby dc5_220) rfl ?_
      refine XS.iloadN X217.here hx rfl (hb hby dc5_222) rfl ?_
      refine XS.iconst X217.here hx rfl (hb hby dc5_223) ?_
      refine XS.isub X217.here hx rfl (hb hby dc5_224) rfl ?_
      show Steps p.tables e below (T217.setTop (mkF m 225 #[.val (.ref a1), .val (.int (5 : Int32)), .val (.ref bv), .val (.int (120 : Int32)), .val (.ref bc), .val (.ref bu), .val (.int kk), .val (.int (2 : Int32)), .val (.int it189)] [(.int (4 : Int32)), (.int (2 : Int32))])) _
      refine XS.icmpNo X217.here hx rfl (hb hby dc5_225) rfl (by decide) ?_
      refine XS.aloadN X217.here hx rfl (hb hby dc5_228) rfl rfl ?_
      refine st219 _ ?_
      refine XS.iload X219.here hx rfl (hb hby dc5_232) rfl ?_
      refine XS.iloadN X219.here hx rfl (hb hby dc5_234) rfl ?_
      show Steps p.tables e below (T219.setTop (mkF m 235 #[.val (.ref a1), .val (.int (5 : Int32)), .val (.ref bv), .val (.int (120 : Int32)), .val (.ref bc), .val (.ref bu), .val (.int kk), .val (.int (2 : Int32)), .val (.int it189)] [(.int (5 : Int32)), (.int kk), (.ref bs)])) _
      refine XS.iconst X219.here hx rfl (hb hby dc5_235) ?_
      refine XS.isub X219.here hx rfl (hb hby dc5_236) rfl ?_
      refine XS.imul X219.here hx rfl (hb hby dc5_237) rfl ?_
      refine XS.iload X219.here hx rfl (hb hby dc5_238) rfl ?_
      refine XS.iadd X219.here hx rfl (hb hby dc5_240) rfl ?_
      refine XS.iload X219.here hx rfl (hb hby dc5_241) rfl ?_
      refine XS.aload X219.here hx rfl (hb hby dc5_243) rfl rfl ?_
      refine XS.aloadN X219.here hx rfl (hb hby dc5_245) rfl rfl ?_
      refine XS.iload X219.here hx rfl (hb hby dc5_246) rfl ?_
      refine st223 _ ?_
      refine st225 _ ?_
      refine XS.iinc X225.here hx rfl (hb hby dc5_252) rfl (l' := #[.val (.ref a1), .val (.int (5 : Int32)), .val (.ref bv), .val (.int (120 : Int32)), .val (.ref bc), .val (.ref bu), .val (.int kk), .val (.int (3 : Int32)), .val (.int it189)]) rfl ?_
      refine XS.goto X225.here hx rfl (pc0 := 255) (pc' := 220) rfl (hb hby dc5_255) (by decide) (by decide) ?_
      refine XS.iload X225.here hx rfl (hb hby dc5_220) rfl ?_
      refine XS.iloadN X225.here hx rfl (hb hby dc5_222) rfl ?_
      refine XS.iconst X225.here hx rfl (hb hby dc5_223) ?_
      refine XS.isub X225.here hx rfl (hb hby dc5_224) rfl ?_
      show Steps p.tables e below (T225.setTop (mkF m 225 #[.val (.ref a1), .val (.int (5 : Int32)), .val (.ref bv), .val (.int (120 : Int32)), .val (.ref bc), .val (.ref bu), .val (.int kk), .val (.int (3 : Int32)), .val (.int it189)] [(.int (4 : Int32)), (.int (3 : Int32))])) _
      refine XS.icmpNo X225.here hx rfl (hb hby dc5_225) rfl (by decide) ?_
      refine XS.aloadN X225.here hx rfl (hb hby dc5_228) rfl rfl ?_
      refine st227 _ ?_
      refine XS.iload X227.here hx rfl (hb hby dc5_232) rfl ?_
      refine XS.iloadN X227.here hx rfl (hb hby dc5_234) rfl ?_
      refine XS.iconst X227.here hx rfl (hb hby dc5_235) ?_
      refine XS.isub X227.here hx rfl (hb hby dc5_236) rfl ?_
      refine XS.imul X227.here hx rfl (hb hby dc5_237) rfl ?_
      show Steps p.tables e below (T227.setTop (mkF m 238 #[.val (.ref a1), .val (.int (5 : Int32)), .val (.ref bv), .val (.int (120 : Int32)), .val (.ref bc), .val (.ref bu), .val (.int kk), .val (.int (3 : Int32)), .val (.int it189)] [(.int (kk * (4 : Int32))), (.ref bs)])) _
      refine XS.iload X227.here hx rfl (hb hby dc5_238) rfl ?_
      refine XS.iadd X227.here hx rfl (hb hby dc5_240) rfl ?_
      refine XS.iload X227.here hx rfl (hb hby dc5_241) rfl ?_
      refine XS.aload X227.here hx rfl (hb hby dc5_243) rfl rfl ?_
      refine XS.aloadN X227.here hx rfl (hb hby dc5_245) rfl rfl ?_
      refine XS.iload X227.here hx rfl (hb hby dc5_246) rfl ?_
      refine st231 _ ?_
      refine st233 _ ?_
      refine XS.iinc X233.here hx rfl (hb hby dc5_252) rfl (l' := #[.val (.ref a1), .val (.int (5 : Int32)), .val (.ref bv), .val (.int (120 : Int32)), .val (.ref bc), .val (.ref bu), .val (.int kk), .val (.int (4 : Int32)), .val (.int it189)]) rfl ?_
      refine XS.goto X233.here hx rfl (pc0 := 255) (pc' := 220) rfl (hb hby dc5_255) (by decide) (by decide) ?_
      refine XS.iload X233.here hx rfl (hb hby dc5_220) rfl ?_
      refine XS.iloadN X233.here hx rfl (hb hby dc5_222) rfl ?_
      refine XS.iconst X233.here hx rfl (hb hby dc5_223) ?_
      refine XS.isub X233.here hx rfl (hb hby dc5_224) rfl ?_
      show Steps p.tables e below (T233.setTop (mkF m 225 #[.val (.ref a1), .val (.int (5 : Int32)), .val (.ref bv), .val (.int (120 : Int32)), .val (.ref bc), .val (.ref bu), .val (.int kk), .val (.int (4 : Int32)), .val (.int it189)] [(.int (4 : Int32)), (.int (4 : Int32))])) _
      refine XS.icmpYes X233.here hx rfl (pc0 := 225) (pc' := 258) rfl (hb hby dc5_225) rfl (by decide) (by decide) (by decide) ?_
      refine XS.iloadN X233.here hx rfl (hb hby dc5_258) rfl ?_
      refine XS.iconst X233.here hx rfl (hb hby dc5_259) ?_
      refine XS.isub X233.here hx rfl (hb hby dc5_260) rfl ?_
      refine XS.istore X233.here hx rfl (hb hby dc5_261) rfl (l' := #[.val (.ref a1), .val (.int (5 : Int32)), .val (.ref bv), .val (.int (120 : Int32)), .val (.ref bc), .val (.ref bu), .val (.int kk), .val (.int (3 : Int32)), .val (.int it189)]) rfl ?_
      refine XS.iload X233.here hx rfl (hb hby dc5_263) rfl ?_
      show Steps p.tables e below (T233.setTop (mkF m 265 #[.val (.ref a1), .val (.int (5 : Int32)), .val (.ref bv), .val (.int (120 : Int32)), .val (.ref bc), .val (.ref bu), .val (.int kk), .val (.int (3 : Int32)), .val (.int it189)] [(.int (3 : Int32))])) _
      refine XS.ifNo X233.here hx rfl (hb hby dc5_265) rfl (by decide) ?_
      refine XS.aload X233.here hx rfl (hb hby dc5_268) rfl rfl ?_
      refine XS.iload X233.here hx rfl (hb hby dc5_270) rfl ?_
      refine X233.iaload hx (j := (3 : Int32)) (v := (.int c3)) (by rw [e233]; exact Ar235.1) (State.isArrayOf_alike hZ.alike Ar235.2.1) Ar235.2.2 hin235 hat235 (g := (mkF m 272 #[.val (.ref a1), .val (.int (5 : Int32)), .val (.ref bv), .val (.int (120 : Int32)), .val (.ref bc), .val (.ref bu), .val (.int kk), .val (.int (3 : Int32)), .val (.int it189)] [(.int (3 : Int32)), (.ref bc)])) rfl rfl (hb hby dc5_272) _ ?_
      refine XS.iloadN X233.here hx rfl (hb hby dc5_273) rfl ?_
      show Steps p.tables e below (T233.setTop (mkF m 274 #[.val (.ref a1), .val (.int (5 : Int32)), .val (.ref bv), .val (.int (120 : Int32)), .val (.ref bc), .val (.ref bu), .val (.int kk), .val (.int (3 : Int32)), .val (.int it189)] [(.int (5 : Int32)), (.int c3)])) _
      refine XS.iconst X233.here hx rfl (hb hby dc5_274) ?_
      refine XS.isub X233.here hx rfl (hb hby dc5_275) rfl ?_
      refine XS.iload X233.here hx rfl (hb hby dc5_276) rfl ?_
      refine XS.isub X233.here hx rfl (hb hby dc5_278) rfl ?_
      exact kt)
  by_cases hc237 : c3 < (1 : Int32)
  · skip
    obtain ⟨cl238, Ar238, q238, S238, N238_, H238, G238⟩ := id f234
    have hin238 : ¬ ((3 : Int32) < 0 ∨ cl238.slots.size ≤ ((3 : Int32)).toNatClampNeg) := inb_of S238 ⟨by decide, by decide⟩
    have hat238 : cl238.slots[((3 : Int32)).toNatClampNeg]? = some (.int c3) := H238.at hin238 rfl
    obtain ⟨cl239, Ar239, q239, S239, N239_, H239, G239⟩ := id f234
    have hin239 : ¬ ((3 : Int32) < 0 ∨ cl239.slots.size ≤ ((3 : Int32)).toNatClampNeg) := inb_of S239 ⟨by decide, by decide⟩
    obtain ⟨T240, h240, X240, e240, W240, st240⟩ := stI X233 hx hZ e233 Ar239 (j := (3 : Int32)) hin239 (g := (mkF m 290 #[.val (.ref a1), .val (.int (5 : Int32)), .val (.ref bv), .val (.int (120 : Int32)), .val (.ref bc), .val (.ref bu), .val (.int kk), .val (.int (3 : Int32)), .val (.int it189)] [(.int (c3 + (1 : Int32))), (.int (3 : Int32)), (.ref bc)])) rfl rfl (hb hby dc5_290)
    have V240 : Arv Z h240 bc kc .int (5 : Int32) [(.int c0), (.int c1), (.int c2), (.int (c3 + (1 : Int32))), (.int c4)] (.int (0 : Int32)) := Arv.set Ar239 q239 S239 N239_ H239 G239 rfl W240 3 rfl (Nat.le_of_ble_eq_true rfl)
    have N240 := Fr.snoc X240 N233 g_bc
    have pre241 : ∀ t, Steps p.tables e below (T240.setTop (mkF m 112 #[.val (.ref a1), .val (.int (5 : Int32)), .val (.ref bv), .val (.int (120 : Int32)), .val (.ref bc), .val (.ref bu), .val (.int (kk + (1 : Int32))), .val (.int (3 : Int32)), .val (.int it189)] [])) t → Steps p.tables e below (T0.setTop (mkF m 112 #[.val (.ref a1), .val (.int (5 : Int32)), .val (.ref bv), .val (.int (120 : Int32)), .val (.ref bc), .val (.ref bu), .val (.int kk), w7, w8] [])) t := fun t kt => pre236 t (by
        show Steps p.tables e below (T233.setTop (mkF m 279 #[.val (.ref a1), .val (.int (5 : Int32)), .val (.ref bv), .val (.int (120 : Int32)), .val (.ref bc), .val (.ref bu), .val (.int kk), .val (.int (3 : Int32)), .val (.int it189)] [(.int (1 : Int32)), (.int c3)])) _
        refine XS.icmpNo X233.here hx rfl (hb hby dc5_279) rfl (tlt hc237).2.1 ?_
        refine XS.aload X233.here hx rfl (hb hby dc5_282) rfl rfl ?_
        refine XS.iload X233.here hx rfl (hb hby dc5_284) rfl ?_
        jvm_step X233.here [X233.here.top, hx, (hb hby dc5_286), Value.category]
        refine X233.iaload hx (j := (3 : Int32)) (v := (.int c3)) (by rw [e233]; exact Ar238.1) (State.isArrayOf_alike hZ.alike Ar238.2.1) Ar238.2.2 hin238 hat238 (g := (mkF m 287 #[.val (.ref a1), .val (.int (5 : Int32)), .val (.ref bv), .val (.int (120 : Int32)), .val (.ref bc), .val (.ref bu), .val (.int kk), .val (.int (3 : Int32)), .val (.int it189)] [(.int (3 : Int32)), (.ref bc), (.int (3 : Int32)), (.ref bc)])) rfl rfl (hb hby dc5_287) _ ?_
        refine XS.iconst X233.here hx rfl (hb hby dc5_288) ?_
        refine XS.iadd X233.here hx rfl (hb hby dc5_289) rfl ?_
        refine st240 _ ?_
        refine XS.goto X240.here hx rfl (pc0 := 291) (pc' := 306) rfl (hb hby dc5_291) (by decide) (by decide) ?_
        refine XS.iinc X240.here hx rfl (hb hby dc5_306) rfl (l' := #[.val (.ref a1), .val (.int (5 : Int32)), .val (.ref bv), .val (.int (120 : Int32)), .val (.ref bc), .val (.ref bu), .val (.int (kk + (1 : Int32))), .val (.int (3 : Int32)), .val (.int it189)]) rfl ?_
        refine XS.goto X240.here hx rfl (pc0 := 309) (pc' := 112) rfl (hb hby dc5_309) (by decide) (by decide) ?_
        exact kt)
    have K242 : Keep h0 h240 [bp, bs, bc, bu] := (Keep.wr (Keep.wr (Keep.wr (Keep.wr (Keep.wr (Keep.wr (Keep.trans (Keep.wr (Keep.trans (Keep.wr (Keep.trans (Keep.wr (Keep.trans (Keep.wr (Keep.trans (Keep.wr (Keep.wr (Keep.wr (Keep.wr (Keep.wr (Keep.refl h0 [bp, bs, bc, bu]) W103 (Or.inl (List.mem_of_getElem? (i := 3) rfl))) W105 (Or.inl (List.mem_of_getElem? (i := 3) rfl))) W107 (Or.inl (List.mem_of_getElem? (i := 3) rfl))) W109 (Or.inl (List.mem_of_getElem? (i := 3) rfl))) W111 (Or.inl (List.mem_of_getElem? (i := 3) rfl))) K119 (allS (P := fun x => x ∈ [bp, bs, bc, bu] ∨ h0.size ≤ x) (Or.inl (List.mem_of_getElem? (i := 3) rfl)) all0)) W130 (Or.inl (List.mem_of_getElem? (i := 0) rfl))) K139 (allS (P := fun x => x ∈ [bp, bs, bc, bu] ∨ h0.size ≤ x) (Or.inl (List.mem_of_getElem? (i := 3) rfl)) all0)) W149 (Or.inl (List.mem_of_getElem? (i := 0) rfl))) K158 (allS (P := fun x => x ∈ [bp, bs, bc, bu] ∨ h0.size ≤ x) (Or.inl (List.mem_of_getElem? (i := 3) rfl)) all0)) W167 (Or.inl (List.mem_of_getElem? (i := 0) rfl))) K176 (allS (P := fun x => x ∈ [bp, bs, bc, bu] ∨ h0.size ≤ x) (Or.inl (List.mem_of_getElem? (i := 3) rfl)) all0)) W184 (Or.inl (List.mem_of_getElem? (i := 0) rfl))) K193 (allS (P := fun x => x ∈ [bp, bs, bc, bu] ∨ h0.size ≤ x) (Or.inl (List.mem_of_getElem? (i := 3) rfl)) all0)) W200 (Or.inl (List.mem_of_getElem? (i := 0) rfl))) W209 (Or.inl (List.mem_of_getElem? (i := 1) rfl))) W217 (Or.inl (List.mem_of_getElem? (i := 1) rfl))) W225 (Or.inl (List.mem_of_getElem? (i := 1) rfl))) W233 (Or.inl (List.mem_of_getElem? (i := 1) rfl))) W240 (Or.inl (List.mem_of_getElem? (i := 2) rfl)))
    have O243 : Old Z n0 h240 := ((O228.wr W233 g_bs).wr W240 g_bc)
    have f244 := ((((((V193.other W200 (Ne.symm ne_bp_bu)).other W209 (Ne.symm ne_bs_bu)).other W217 (Ne.symm ne_bs_bu)).other W225 (Ne.symm ne_bs_bu)).other W233 (Ne.symm ne_bs_bu)).other W240 (Ne.symm ne_bc_bu))
    have f245 := (((((A200.other W209 ne_bp_bs).other W217 ne_bp_bs).other W225 ne_bp_bs).other W233 ne_bp_bs).other W240 ne_bp_bc)
    have f246 := (A233.other W240 ne_bs_bc)
    have f247 := ((f230.other W233 ne_bv_bs).other W240 ne_bv_bc)
    have f248 := ((((((((((((((((((((Eo.wr W103).wr W105).wr W107).wr W109).wr W111).keep K119).wr W130).keep K139).wr W149).keep K158).wr W167).keep K176).wr W184).keep K193).wr W200).wr W209).wr W217).wr W225).wr W233).wr W240)
    have f249 := ((((((((((((((((((((Fi.other W103 (Or.inl ne_a1_bu)).other W105 (Or.inl ne_a1_bu)).other W107 (Or.inl ne_a1_bu)).other W109 (Or.inl ne_a1_bu)).other W111 (Or.inl ne_a1_bu)).keep K119 (ninS ne_a1_bu nin0)).other W130 (Or.inl ne_a1_bp)).keep K139 (ninS ne_a1_bu nin0)).other W149 (Or.inl ne_a1_bp)).keep K158 (ninS ne_a1_bu nin0)).other W167 (Or.inl ne_a1_bp)).keep K176 (ninS ne_a1_bu nin0)).other W184 (Or.inl ne_a1_bp)).keep K193 (ninS ne_a1_bu nin0)).other W200 (Or.inl ne_a1_bp)).other W209 (Or.inl ne_a1_bs)).other W217 (Or.inl ne_a1_bs)).other W225 (Or.inl ne_a1_bs)).other W233 (Or.inl ne_a1_bs)).other W240 (Or.inl ne_a1_bc))
    have f250 := ((((((f196.other W200 (Or.inl ne_a1_bp)).other W209 (Or.inl ne_a1_bs)).other W217 (Or.inl ne_a1_bs)).other W225 (Or.inl ne_a1_bs)).other W233 (Or.inl ne_a1_bs)).other W240 (Or.inl ne_a1_bc))
    have f251 := ((((((f194.other W200 (Or.inl ne_a1_bp)).other W209 (Or.inl ne_a1_bs)).other W217 (Or.inl ne_a1_bs)).other W225 (Or.inl ne_a1_bs)).other W233 (Or.inl ne_a1_bs)).other W240 (Or.inl ne_a1_bc))
    have f252 := ((f226.other W233 (Or.inl ne_a1_bs)).other W240 (Or.inl ne_a1_bc))
    subst hkk
    subst hc0 hc1 hc2 hc3 hc4
    obtain ⟨r0, r1, r2, r3, r4⟩ := own_in5_0 k hc237
    have Vz : Arv Z h240 bc kc .int (5 : Int32) [(.int (own_d5_0 (k.val + 1))), (.int (own_d5_1 (k.val + 1))), (.int (own_d5_2 (k.val + 1))), (.int (own_d5_3 (k.val + 1))), (.int (own_d5_4 (k.val + 1)))] (.int (0 : Int32)) := by
      rw [← r0, ← r1, ← r2, ← r3, ← r4]; exact V240
    refine ⟨_, _, _, .val (.int (3 : Int32)), .val (.int it189), X240, e240, N240, O243, K242, f248, f249, f250, f251, f252, f247, Vz, ⟨_, _, _, _, _, f244⟩, ?_, ?_, One.val rfl, One.val rfl, ?_⟩
    · subst hit115 hu120 hu121 hu122 hu123 hit135 hu140 hu141 hu142 hit154 hu159 hu160 hit172 hu177 hit189; exact f245
    · subst hit115 hu120 hu121 hu122 hu123 hit135 hu140 hu141 hu142 hit154 hu159 hu160 hit172 hu177 hit189; exact f246
    · intro t kt; refine pre241 t ?_; rw [own_next]; exact kt
  · skip
    obtain ⟨cl253, Ar253, q253, S253, N253_, H253, G253⟩ := id f234
    have hin253 : ¬ ((3 : Int32) < 0 ∨ cl253.slots.size ≤ ((3 : Int32)).toNatClampNeg) := inb_of S253 ⟨by decide, by decide⟩
    obtain ⟨T254, h254, X254, e254, W254, st254⟩ := stI X233 hx hZ e233 Ar253 (j := (3 : Int32)) hin253 (g := (mkF m 299 #[.val (.ref a1), .val (.int (5 : Int32)), .val (.ref bv), .val (.int (120 : Int32)), .val (.ref bc), .val (.ref bu), .val (.int kk), .val (.int (3 : Int32)), .val (.int it189)] [(.int (0 : Int32)), (.int (3 : Int32)), (.ref bc)])) rfl rfl (hb hby dc5_299)
    have V254 : Arv Z h254 bc kc .int (5 : Int32) [(.int c0), (.int c1), (.int c2), (.int (0 : Int32)), (.int c4)] (.int (0 : Int32)) := Arv.set Ar253 q253 S253 N253_ H253 G253 rfl W254 3 rfl (Nat.le_of_ble_eq_true rfl)
    have N254 := Fr.snoc X254 N233 g_bc
    obtain ⟨cl255, Ar255, q255, S255, N255_, H255, G255⟩ := id V254
    have hin255 : ¬ ((2 : Int32) < 0 ∨ cl255.slots.size ≤ ((2 : Int32)).toNatClampNeg) := inb_of S255 ⟨by decide, by decide⟩
    have hat255 : cl255.slots[((2 : Int32)).toNatClampNeg]? = some (.int c2) := H255.at hin255 rfl
    have pre256 : ∀ t, Steps p.tables e below (T254.setTop (mkF m 279 #[.val (.ref a1), .val (.int (5 : Int32)), .val (.ref bv), .val (.int (120 : Int32)), .val (.ref bc), .val (.ref bu), .val (.int kk), .val (.int (2 : Int32)), .val (.int it189)] [(.int (2 : Int32)), (.int c2)])) t → Steps p.tables e below (T0.setTop (mkF m 112 #[.val (.ref a1), .val (.int (5 : Int32)), .val (.ref bv), .val (.int (120 : Int32)), .val (.ref bc), .val (.ref bu), .val (.int kk), w7, w8] [])) t := fun t kt => pre236 t (by
        show Steps p.tables e below (T233.setTop (mkF m 279 #[.val (.ref a1), .val (.int (5 : Int32)), .val (.ref bv), .val (.int (120 : Int32)), .val (.ref bc), .val (.ref bu), .val (.int kk), .val (.int (3 : Int32)), .val (.int it189)] [(.int (1 : Int32)), (.int c3)])) _
        refine XS.icmpYes X233.here hx rfl (pc0 := 279) (pc' := 294) rfl (hb hby dc5_279) rfl (flt hc237).2.1 (by decide) (by decide) ?_
        refine XS.aload X233.here hx rfl (hb hby dc5_294) rfl rfl ?_
        refine XS.iload X233.here hx rfl (hb hby dc5_296) rfl ?_
        refine XS.iconst X233.here hx rfl (hb hby dc5_298) ?_
        refine st254 _ ?_
        refine XS.iinc X254.here hx rfl (hb hby dc5_300) rfl (l' := #[.val (.ref a1), .val (.int (5 : Int32)), .val (.ref bv), .val (.int (120 : Int32)), .val (.ref bc), .val (.ref bu), .val (.int kk), .val (.int (2 : Int32)), .val (.int it189)]) rfl ?_
        refine XS.goto X254.here hx rfl (pc0 := 303) (pc' := 263) rfl (hb hby dc5_303) (by decide) (by decide) ?_
        refine XS.iload X254.here hx rfl (hb hby dc5_263) rfl ?_
        show Steps p.tables e below (T254.setTop (mkF m 265 #[.val (.ref a1), .val (.int (5 : Int32)), .val (.ref bv), .val (.int (120 : Int32)), .val (.ref bc), .val (.ref bu), .val (.int kk), .val (.int (2 : Int32)), .val (.int it189)] [(.int (2 : Int32))])) _
        refine XS.ifNo X254.here hx rfl (hb hby dc5_265) rfl (by decide) ?_
        show Steps p.tables e below (T254.setTop (mkF m 268 #[.val (.ref a1), .val (.int (5 : Int32)), .val (.ref bv), .val (.int (120 : Int32)), .val (.ref bc), .val (.ref bu), .val (.int kk), .val (.int (2 : Int32)), .val (.int it189)] [])) _
        refine XS.aload X254.here hx rfl (hb hby dc5_268) rfl rfl ?_
        refine XS.iload X254.here hx rfl (hb hby dc5_270) rfl ?_
        refine X254.iaload hx (j := (2 : Int32)) (v := (.int c2)) (by rw [e254]; exact Ar255.1) (State.isArrayOf_alike hZ.alike Ar255.2.1) Ar255.2.2 hin255 hat255 (g := (mkF m 272 #[.val (.ref a1), .val (.int (5 : Int32)), .val (.ref bv), .val (.int (120 : Int32)), .val (.ref bc), .val (.ref bu), .val (.int kk), .val (.int (2 : Int32)), .val (.int it189)] [(.int (2 : Int32)), (.ref bc)])) rfl rfl (hb hby dc5_272) _ ?_
        refine XS.iloadN X254.here hx rfl (hb hby dc5_273) rfl ?_
        refine XS.iconst X254.here hx rfl (hb hby dc5_274) ?_
        refine XS.isub X254.here hx rfl (hb hby dc5_275) rfl ?_
        refine XS.iload X254.here hx rfl (hb hby dc5_276) rfl ?_
        refine XS.isub X254.here hx rfl (hb hby dc5_278) rfl ?_
        exact kt)
    by_cases hc257 : c2 < (2 : Int32)
    · skip
      obtain ⟨cl258, Ar258, q258, S258, N258_, H258, G258⟩ := id V254
      have hin258 : ¬ ((2 : Int32) < 0 ∨ cl258.slots.size ≤ ((2 : Int32)).toNatClampNeg) := inb_of S258 ⟨by decide, by decide⟩
      have hat258 : cl258.slots[((2 : Int32)).toNatClampNeg]? = some (.int c2) := H258.at hin258 rfl
      obtain ⟨cl259, Ar259, q259, S259, N259_, H259, G259⟩ := id V254
      have hin259 : ¬ ((2 : Int32) < 0 ∨ cl259.slots.size ≤ ((2 : Int32)).toNatClampNeg) := inb_of S259 ⟨by decide, by decide⟩
      obtain ⟨T260, h260, X260, e260, W260, st260⟩ := stI X254 hx hZ e254 Ar259 (j := (2 : Int32)) hin259 (g := (mkF m 290 #[.val (.ref a1), .val (.int (5 : Int32)), .val (.ref bv), .val (.int (120 : Int32)), .val (.ref bc), .val (.ref bu), .val (.int kk), .val (.int (2 : Int32)), .val (.int it189)] [(.int (c2 + (1 : Int32))), (.int (2 : Int32)), (.ref bc)])) rfl rfl (hb hby dc5_290)
      have V260 : Arv Z h260 bc kc .int (5 : Int32) [(.int c0), (.int c1), (.int (c2 + (1 : Int32))), (.int (0 : Int32)), (.int c4)] (.int (0 : Int32)) := Arv.set Ar259 q259 S259 N259_ H259 G259 rfl W260 2 rfl (Nat.le_of_ble_eq_true rfl)
      have N260 := Fr.snoc X260 N254 g_bc
      have pre261 : ∀ t, Steps p.tables e below (T260.setTop (mkF m 112 #[.val (.ref a1), .val (.int (5 : Int32)), .val (.ref bv), .val (.int (120 : Int32)), .val (.ref bc), .val (.ref bu), .val (.int (kk + (1 : Int32))), .val (.int (2 : Int32)), .val (.int it189)] [])) t → Steps p.tables e below (T0.setTop (mkF m 112 #[.val (.ref a1), .val (.int (5 : Int32)), .val (.ref bv), .val (.int (120 : Int32)), .val (.ref bc), .val (.ref bu), .val (.int kk), w7, w8] [])) t := fun t kt => pre256 t (by
          show Steps p.tables e below (T254.setTop (mkF m 279 #[.val (.ref a1), .val (.int (5 : Int32)), .val (.ref bv), .val (.int (120 : Int32)), .val (.ref bc), .val (.ref bu), .val (.int kk), .val (.int (2 : Int32)), .val (.int it189)] [(.int (2 : Int32)), (.int c2)])) _
          refine XS.icmpNo X254.here hx rfl (hb hby dc5_279) rfl (tlt hc257).2.1 ?_
          refine XS.aload X254.here hx rfl (hb hby dc5_282) rfl rfl ?_
          refine XS.iload X254.here hx rfl (hb hby dc5_284) rfl ?_
          jvm_step X254.here [X254.here.top, hx, (hb hby dc5_286), Value.category]
          refine X254.iaload hx (j := (2 : Int32)) (v := (.int c2)) (by rw [e254]; exact Ar258.1) (State.isArrayOf_alike hZ.alike Ar258.2.1) Ar258.2.2 hin258 hat258 (g := (mkF m 287 #[.val (.ref a1), .val (.int (5 : Int32)), .val (.ref bv), .val (.int (120 : Int32)), .val (.ref bc), .val (.ref bu), .val (.int kk), .val (.int (2 : Int32)), .val (.int it189)] [(.int (2 : Int32)), (.ref bc), (.int (2 : Int32)), (.ref bc)])) rfl rfl (hb hby dc5_287) _ ?_
          refine XS.iconst X254.here hx rfl (hb hby dc5_288) ?_
          refine XS.iadd X254.here hx rfl (hb hby dc5_289) rfl ?_
          refine st260 _ ?_
          refine XS.goto X260.here hx rfl (pc0 := 291) (pc' := 306) rfl (hb hby dc5_291) (by decide) (by decide) ?_
          refine XS.iinc X260.here hx rfl (hb hby dc5_306) rfl (l' := #[.val (.ref a1), .val (.int (5 : Int32)), .val (.ref bv), .val (.int (120 : Int32)), .val (.ref bc), .val (.ref bu), .val (.int (kk + (1 : Int32))), .val (.int (2 : Int32)), .val (.int it189)]) rfl ?_
          refine XS.goto X260.here hx rfl (pc0 := 309) (pc' := 112) rfl (hb hby dc5_309) (by decide) (by decide) ?_
          exact kt)
      have K262 : Keep h0 h260 [bp, bs, bc, bu] := (Keep.wr (Keep.wr (Keep.wr (Keep.wr (Keep.wr (Keep.wr (Keep.wr (Keep.trans (Keep.wr (Keep.trans (Keep.wr (Keep.trans (Keep.wr (Keep.trans (Keep.wr (Keep.trans (Keep.wr (Keep.wr (Keep.wr (Keep.wr (Keep.wr (Keep.refl h0 [bp, bs, bc, bu]) W103 (Or.inl (List.mem_of_getElem? (i := 3) rfl))) W105 (Or.inl (List.mem_of_getElem? (i := 3) rfl))) W107 (Or.inl (List.mem_of_getElem? (i := 3) rfl))) W109 (Or.inl (List.mem_of_getElem? (i := 3) rfl))) W111 (Or.inl (List.mem_of_getElem? (i := 3) rfl))) K119 (allS (P := fun x => x ∈ [bp, bs, bc, bu] ∨ h0.size ≤ x) (Or.inl (List.mem_of_getElem? (i := 3) rfl)) all0)) W130 (Or.inl (List.mem_of_getElem? (i := 0) rfl))) K139 (allS (P := fun x => x ∈ [bp, bs, bc, bu] ∨ h0.size ≤ x) (Or.inl (List.mem_of_getElem? (i := 3) rfl)) all0)) W149 (Or.inl (List.mem_of_getElem? (i := 0) rfl))) K158 (allS (P := fun x => x ∈ [bp, bs, bc, bu] ∨ h0.size ≤ x) (Or.inl (List.mem_of_getElem? (i := 3) rfl)) all0)) W167 (Or.inl (List.mem_of_getElem? (i := 0) rfl))) K176 (allS (P := fun x => x ∈ [bp, bs, bc, bu] ∨ h0.size ≤ x) (Or.inl (List.mem_of_getElem? (i := 3) rfl)) all0)) W184 (Or.inl (List.mem_of_getElem? (i := 0) rfl))) K193 (allS (P := fun x => x ∈ [bp, bs, bc, bu] ∨ h0.size ≤ x) (Or.inl (List.mem_of_getElem? (i := 3) rfl)) all0)) W200 (Or.inl (List.mem_of_getElem? (i := 0) rfl))) W209 (Or.inl (List.mem_of_getElem? (i := 1) rfl))) W217 (Or.inl (List.mem_of_getElem? (i := 1) rfl))) W225 (Or.inl (List.mem_of_getElem? (i := 1) rfl))) W233 (Or.inl (List.mem_of_getElem? (i := 1) rfl))) W254 (Or.inl (List.mem_of_getElem? (i := 2) rfl))) W260 (Or.inl (List.mem_of_getElem? (i := 2) rfl)))
      have O263 : Old Z n0 h260 := (((O228.wr W233 g_bs).wr W254 g_bc).wr W260 g_bc)
      have f264 := (((((((V193.other W200 (Ne.symm ne_bp_bu)).other W209 (Ne.symm ne_bs_bu)).other W217 (Ne.symm ne_bs_bu)).other W225 (Ne.symm ne_bs_bu)).other W233 (Ne.symm ne_bs_bu)).other W254 (Ne.symm ne_bc_bu)).other W260 (Ne.symm ne_bc_bu))
      have f265 := ((((((A200.other W209 ne_bp_bs).other W217 ne_bp_bs).other W225 ne_bp_bs).other W233 ne_bp_bs).other W254 ne_bp_bc).other W260 ne_bp_bc)
      have f266 := ((A233.other W254 ne_bs_bc).other W260 ne_bs_bc)
      have f267 := (((f230.other W233 ne_bv_bs).other W254 ne_bv_bc).other W260 ne_bv_bc)
      have f268 := (((((((((((((((((((((Eo.wr W103).wr W105).wr W107).wr W109).wr W111).keep K119).wr W130).keep K139).wr W149).keep K158).wr W167).keep K176).wr W184).keep K193).wr W200).wr W209).wr W217).wr W225).wr W233).wr W254).wr W260)
      have f269 := (((((((((((((((((((((Fi.other W103 (Or.inl ne_a1_bu)).other W105 (Or.inl ne_a1_bu)).other W107 (Or.inl ne_a1_bu)).other W109 (Or.inl ne_a1_bu)).other W111 (Or.inl ne_a1_bu)).keep K119 (ninS ne_a1_bu nin0)).other W130 (Or.inl ne_a1_bp)).keep K139 (ninS ne_a1_bu nin0)).other W149 (Or.inl ne_a1_bp)).keep K158 (ninS ne_a1_bu nin0)).other W167 (Or.inl ne_a1_bp)).keep K176 (ninS ne_a1_bu nin0)).other W184 (Or.inl ne_a1_bp)).keep K193 (ninS ne_a1_bu nin0)).other W200 (Or.inl ne_a1_bp)).other W209 (Or.inl ne_a1_bs)).other W217 (Or.inl ne_a1_bs)).other W225 (Or.inl ne_a1_bs)).other W233 (Or.inl ne_a1_bs)).other W254 (Or.inl ne_a1_bc)).other W260 (Or.inl ne_a1_bc))
      have f270 := (((((((f196.other W200 (Or.inl ne_a1_bp)).other W209 (Or.inl ne_a1_bs)).other W217 (Or.inl ne_a1_bs)).other W225 (Or.inl ne_a1_bs)).other W233 (Or.inl ne_a1_bs)).other W254 (Or.inl ne_a1_bc)).other W260 (Or.inl ne_a1_bc))
      have f271 := (((((((f194.other W200 (Or.inl ne_a1_bp)).other W209 (Or.inl ne_a1_bs)).other W217 (Or.inl ne_a1_bs)).other W225 (Or.inl ne_a1_bs)).other W233 (Or.inl ne_a1_bs)).other W254 (Or.inl ne_a1_bc)).other W260 (Or.inl ne_a1_bc))
      have f272 := (((f226.other W233 (Or.inl ne_a1_bs)).other W254 (Or.inl ne_a1_bc)).other W260 (Or.inl ne_a1_bc))
      subst hkk
      subst hc0 hc1 hc2 hc3 hc4
      obtain ⟨r0, r1, r2, r3, r4⟩ := own_in5_1 k hc237 hc257
      have Vz : Arv Z h260 bc kc .int (5 : Int32) [(.int (own_d5_0 (k.val + 1))), (.int (own_d5_1 (k.val + 1))), (.int (own_d5_2 (k.val + 1))), (.int (own_d5_3 (k.val + 1))), (.int (own_d5_4 (k.val + 1)))] (.int (0 : Int32)) := by
        rw [← r0, ← r1, ← r2, ← r3, ← r4]; exact V260
      refine ⟨_, _, _, .val (.int (2 : Int32)), .val (.int it189), X260, e260, N260, O263, K262, f268, f269, f270, f271, f272, f267, Vz, ⟨_, _, _, _, _, f264⟩, ?_, ?_, One.val rfl, One.val rfl, ?_⟩
      · subst hit115 hu120 hu121 hu122 hu123 hit135 hu140 hu141 hu142 hit154 hu159 hu160 hit172 hu177 hit189; exact f265
      · subst hit115 hu120 hu121 hu122 hu123 hit135 hu140 hu141 hu142 hit154 hu159 hu160 hit172 hu177 hit189; exact f266
      · intro t kt; refine pre261 t ?_; rw [own_next]; exact kt
    · skip
      obtain ⟨cl273, Ar273, q273, S273, N273_, H273, G273⟩ := id V254
      have hin273 : ¬ ((2 : Int32) < 0 ∨ cl273.slots.size ≤ ((2 : Int32)).toNatClampNeg) := inb_of S273 ⟨by decide, by decide⟩
      obtain ⟨T274, h274, X274, e274, W274, st274⟩ := stI X254 hx hZ e254 Ar273 (j := (2 : Int32)) hin273 (g := (mkF m 299 #[.val (.ref a1), .val (.int (5 : Int32)), .val (.ref bv), .val (.int (120 : Int32)), .val (.ref bc), .val (.ref bu), .val (.int kk), .val (.int (2 : Int32)), .val (.int it189)] [(.int (0 : Int32)), (.int (2 : Int32)), (.ref bc)])) rfl rfl (hb hby dc5_299)
      have V274 : Arv Z h274 bc kc .int (5 : Int32) [(.int c0), (.int c1), (.int (0 : Int32)), (.int (0 : Int32)), (.int c4)] (.int (0 : Int32)) := Arv.set Ar273 q273 S273 N273_ H273 G273 rfl W274 2 rfl (Nat.le_of_ble_eq_true rfl)
      have N274 := Fr.snoc X274 N254 g_bc
      obtain ⟨cl275, Ar275, q275, S275, N275_, H275, G275⟩ := id V274
      have hin275 : ¬ ((1 : Int32) < 0 ∨ cl275.slots.size ≤ ((1 : Int32)).toNatClampNeg) := inb_of S275 ⟨by decide, by decide⟩
      have hat275 : cl275.slots[((1 : Int32)).toNatClampNeg]? = some (.int c1) := H275.at hin275 rfl
      have pre276 : ∀ t, Steps p.tables e below (T274.setTop (mkF m 279 #[.val (.ref a1), .val (.int (5 : Int32)), .val (.ref bv), .val (.int (120 : Int32)), .val (.ref bc), .val (.ref bu), .val (.int kk), .val (.int (1 : Int32)), .val (.int it189)] [(.int (3 : Int32)), (.int c1)])) t → Steps p.tables e below (T0.setTop (mkF m 112 #[.val (.ref a1), .val (.int (5 : Int32)), .val (.ref bv), .val (.int (120 : Int32)), .val (.ref bc), .val (.ref bu), .val (.int kk), w7, w8] [])) t := fun t kt => pre256 t (by
          show Steps p.tables e below (T254.setTop (mkF m 279 #[.val (.ref a1), .val (.int (5 : Int32)), .val (.ref bv), .val (.int (120 : Int32)), .val (.ref bc), .val (.ref bu), .val (.int kk), .val (.int (2 : Int32)), .val (.int it189)] [(.int (2 : Int32)), (.int c2)])) _
          refine XS.icmpYes X254.here hx rfl (pc0 := 279) (pc' := 294) rfl (hb hby dc5_279) rfl (flt hc257).2.1 (by decide) (by decide) ?_
          refine XS.aload X254.here hx rfl (hb hby dc5_294) rfl rfl ?_
          refine XS.iload X254.here hx rfl (hb hby dc5_296) rfl ?_
          refine XS.iconst X254.here hx rfl (hb hby dc5_298) ?_
          refine st274 _ ?_
          show Steps p.tables e below (T274.setTop (mkF m 300 #[.val (.ref a1), .val (.int (5 : Int32)), .val (.ref bv), .val (.int (120 : Int32)), .val (.ref bc), .val (.ref bu), .val (.int kk), .val (.int (2 : Int32)), .val (.int it189)] [])) _
          refine XS.iinc X274.here hx rfl (hb hby dc5_300) rfl (l' := #[.val (.ref a1), .val (.int (5 : Int32)), .val (.ref bv), .val (.int (120 : Int32)), .val (.ref bc), .val (.ref bu), .val (.int kk), .val (.int (1 : Int32)), .val (.int it189)]) rfl ?_
          refine XS.goto X274.here hx rfl (pc0 := 303) (pc' := 263) rfl (hb hby dc5_303) (by decide) (by decide) ?_
          refine XS.iload X274.here hx rfl (hb hby dc5_263) rfl ?_
          show Steps p.tables e below (T274.setTop (mkF m 265 #[.val (.ref a1), .val (.int (5 : Int32)), .val (.ref bv), .val (.int (120 : Int32)), .val (.ref bc), .val (.ref bu), .val (.int kk), .val (.int (1 : Int32)), .val (.int it189)] [(.int (1 : Int32))])) _
          refine XS.ifNo X274.here hx rfl (hb hby dc5_265) rfl (by decide) ?_
          refine XS.aload X274.here hx rfl (hb hby dc5_268) rfl rfl ?_
          refine XS.iload X274.here hx rfl (hb hby dc5_270) rfl ?_
          refine X274.iaload hx (j := (1 : Int32)) (v := (.int c1)) (by rw [e274]; exact Ar275.1) (State.isArrayOf_alike hZ.alike Ar275.2.1) Ar275.2.2 hin275 hat275 (g := (mkF m 272 #[.val (.ref a1), .val (.int (5 : Int32)), .val (.ref bv), .val (.int (120 : Int32)), .val (.ref bc), .val (.ref bu), .val (.int kk), .val (.int (1 : Int32)), .val (.int it189)] [(.int (1 : Int32)), (.ref bc)])) rfl rfl (hb hby dc5_272) _ ?_
          refine XS.iloadN X274.here hx rfl (hb hby dc5_273) rfl ?_
          refine XS.iconst X274.here hx rfl (hb hby dc5_274) ?_
          refine XS.isub X274.here hx rfl (hb hby dc5_275) rfl ?_
          refine XS.iload X274.here hx rfl (hb hby dc5_276) rfl ?_
          refine XS.isub X274.here hx rfl (hb hby dc5_278) rfl ?_
          exact kt)
      by_cases hc277 : c1 < (3 : Int32)
      · skip
        obtain ⟨cl278, Ar278, q278, S278, N278_, H278, G278⟩ := id V274
        have hin278 : ¬ ((1 : Int32) < 0 ∨ cl278.slots.size ≤ ((1 : Int32)).toNatClampNeg) := inb_of S278 ⟨by decide, by decide⟩
        have hat278 : cl278.slots[((1 : Int32)).toNatClampNeg]? = some (.int c1) := H278.at hin278 rfl
        obtain ⟨cl279, Ar279, q279, S279, N279_, H279, G279⟩ := id V274
        have hin279 : ¬ ((1 : Int32) < 0 ∨ cl279.slots.size ≤ ((1 : Int32)).toNatClampNeg) := inb_of S279 ⟨by decide, by decide⟩
        obtain ⟨T280, h280, X280, e280, W280, st280⟩ := stI X274 hx hZ e274 Ar279 (j := (1 : Int32)) hin279 (g := (mkF m 290 #[.val (.ref a1), .val (.int (5 : Int32)), .val (.ref bv), .val (.int (120 : Int32)), .val (.ref bc), .val (.ref bu), .val (.int kk), .val (.int (1 : Int32)), .val (.int it189)] [(.int (c1 + (1 : Int32))), (.int (1 : Int32)), (.ref bc)])) rfl rfl (hb hby dc5_290)
        have V280 : Arv Z h280 bc kc .int (5 : Int32) [(.int c0), (.int (c1 + (1 : Int32))), (.int (0 : Int32)), (.int (0 : Int32)), (.int c4)] (.int (0 : Int32)) := Arv.set Ar279 q279 S279 N279_ H279 G279 rfl W280 1 rfl (Nat.le_of_ble_eq_true rfl)
        have N280 := Fr.snoc X280 N274 g_bc
        have pre281 : ∀ t, Steps p.tables e below (T280.setTop (mkF m 112 #[.val (.ref a1), .val (.int (5 : Int32)), .val (.ref bv), .val (.int (120 : Int32)), .val (.ref bc), .val (.ref bu), .val (.int (kk + (1 : Int32))), .val (.int (1 : Int32)), .val (.int it189)] [])) t → Steps p.tables e below (T0.setTop (mkF m 112 #[.val (.ref a1), .val (.int (5 : Int32)), .val (.ref bv), .val (.int (120 : Int32)), .val (.ref bc), .val (.ref bu), .val (.int kk), w7, w8] [])) t := fun t kt => pre276 t (by
            show Steps p.tables e below (T274.setTop (mkF m 279 #[.val (.ref a1), .val (.int (5 : Int32)), .val (.ref bv), .val (.int (120 : Int32)), .val (.ref bc), .val (.ref bu), .val (.int kk), .val (.int (1 : Int32)), .val (.int it189)] [(.int (3 : Int32)), (.int c1)])) _
            refine XS.icmpNo X274.here hx rfl (hb hby dc5_279) rfl (tlt hc277).2.1 ?_
            refine XS.aload X274.here hx rfl (hb hby dc5_282) rfl rfl ?_
            refine XS.iload X274.here hx rfl (hb hby dc5_284) rfl ?_
            jvm_step X274.here [X274.here.top, hx, (hb hby dc5_286), Value.category]
            refine X274.iaload hx (j := (1 : Int32)) (v := (.int c1)) (by rw [e274]; exact Ar278.1) (State.isArrayOf_alike hZ.alike Ar278.2.1) Ar278.2.2 hin278 hat278 (g := (mkF m 287 #[.val (.ref a1), .val (.int (5 : Int32)), .val (.ref bv), .val (.int (120 : Int32)), .val (.ref bc), .val (.ref bu), .val (.int kk), .val (.int (1 : Int32)), .val (.int it189)] [(.int (1 : Int32)), (.ref bc), (.int (1 : Int32)), (.ref bc)])) rfl rfl (hb hby dc5_287) _ ?_
            refine XS.iconst X274.here hx rfl (hb hby dc5_288) ?_
            refine XS.iadd X274.here hx rfl (hb hby dc5_289) rfl ?_
            refine st280 _ ?_
            refine XS.goto X280.here hx rfl (pc0 := 291) (pc' := 306) rfl (hb hby dc5_291) (by decide) (by decide) ?_
            refine XS.iinc X280.here hx rfl (hb hby dc5_306) rfl (l' := #[.val (.ref a1), .val (.int (5 : Int32)), .val (.ref bv), .val (.int (120 : Int32)), .val (.ref bc), .val (.ref bu), .val (.int (kk + (1 : Int32))), .val (.int (1 : Int32)), .val (.int it189)]) rfl ?_
            refine XS.goto X280.here hx rfl (pc0 := 309) (pc' := 112) rfl (hb hby dc5_309) (by decide) (by decide) ?_
            exact kt)
        have K282 : Keep h0 h280 [bp, bs, bc, bu] := (Keep.wr (Keep.wr (Keep.wr (Keep.wr (Keep.wr (Keep.wr (Keep.wr (Keep.wr (Keep.trans (Keep.wr (Keep.trans (Keep.wr (Keep.trans (Keep.wr (Keep.trans (Keep.wr (Keep.trans (Keep.wr (Keep.wr (Keep.wr (Keep.wr (Keep.wr (Keep.refl h0 [bp, bs, bc, bu]) W103 (Or.inl (List.mem_of_getElem? (i := 3) rfl))) W105 (Or.inl (List.mem_of_getElem? (i := 3) rfl))) W107 (Or.inl (List.mem_of_getElem? (i := 3) rfl))) W109 (Or.inl (List.mem_of_getElem? (i := 3) rfl))) W111 (Or.inl (List.mem_of_getElem? (i := 3) rfl))) K119 (allS (P := fun x => x ∈ [bp, bs, bc, bu] ∨ h0.size ≤ x) (Or.inl (List.mem_of_getElem? (i := 3) rfl)) all0)) W130 (Or.inl (List.mem_of_getElem? (i := 0) rfl))) K139 (allS (P := fun x => x ∈ [bp, bs, bc, bu] ∨ h0.size ≤ x) (Or.inl (List.mem_of_getElem? (i := 3) rfl)) all0)) W149 (Or.inl (List.mem_of_getElem? (i := 0) rfl))) K158 (allS (P := fun x => x ∈ [bp, bs, bc, bu] ∨ h0.size ≤ x) (Or.inl (List.mem_of_getElem? (i := 3) rfl)) all0)) W167 (Or.inl (List.mem_of_getElem? (i := 0) rfl))) K176 (allS (P := fun x => x ∈ [bp, bs, bc, bu] ∨ h0.size ≤ x) (Or.inl (List.mem_of_getElem? (i := 3) rfl)) all0)) W184 (Or.inl (List.mem_of_getElem? (i := 0) rfl))) K193 (allS (P := fun x => x ∈ [bp, bs, bc, bu] ∨ h0.size ≤ x) (Or.inl (List.mem_of_getElem? (i := 3) rfl)) all0)) W200 (Or.inl (List.mem_of_getElem? (i := 0) rfl))) W209 (Or.inl (List.mem_of_getElem? (i := 1) rfl))) W217 (Or.inl (List.mem_of_getElem? (i := 1) rfl))) W225 (Or.inl (List.mem_of_getElem? (i := 1) rfl))) W233 (Or.inl (List.mem_of_getElem? (i := 1) rfl))) W254 (Or.inl (List.mem_of_getElem? (i := 2) rfl))) W274 (Or.inl (List.mem_of_getElem? (i := 2) rfl))) W280 (Or.inl (List.mem_of_getElem? (i := 2) rfl)))
        have O283 : Old Z n0 h280 := ((((O228.wr W233 g_bs).wr W254 g_bc).wr W274 g_bc).wr W280 g_bc)
        have f284 := ((((((((V193.other W200 (Ne.symm ne_bp_bu)).other W209 (Ne.symm ne_bs_bu)).other W217 (Ne.symm ne_bs_bu)).other W225 (Ne.symm ne_bs_bu)).other W233 (Ne.symm ne_bs_bu)).other W254 (Ne.symm ne_bc_bu)).other W274 (Ne.symm ne_bc_bu)).other W280 (Ne.symm ne_bc_bu))
        have f285 := (((((((A200.other W209 ne_bp_bs).other W217 ne_bp_bs).other W225 ne_bp_bs).other W233 ne_bp_bs).other W254 ne_bp_bc).other W274 ne_bp_bc).other W280 ne_bp_bc)
        have f286 := (((A233.other W254 ne_bs_bc).other W274 ne_bs_bc).other W280 ne_bs_bc)
        have f287 := ((((f230.other W233 ne_bv_bs).other W254 ne_bv_bc).other W274 ne_bv_bc).other W280 ne_bv_bc)
        have f288 := ((((((((((((((((((((((Eo.wr W103).wr W105).wr W107).wr W109).wr W111).keep K119).wr W130).keep K139).wr W149).keep K158).wr W167).keep K176).wr W184).keep K193).wr W200).wr W209).wr W217).wr W225).wr W233).wr W254).wr W274).wr W280)
        have f289 := ((((((((((((((((((((((Fi.other W103 (Or.inl ne_a1_bu)).other W105 (Or.inl ne_a1_bu)).other W107 (Or.inl ne_a1_bu)).other W109 (Or.inl ne_a1_bu)).other W111 (Or.inl ne_a1_bu)).keep K119 (ninS ne_a1_bu nin0)).other W130 (Or.inl ne_a1_bp)).keep K139 (ninS ne_a1_bu nin0)).other W149 (Or.inl ne_a1_bp)).keep K158 (ninS ne_a1_bu nin0)).other W167 (Or.inl ne_a1_bp)).keep K176 (ninS ne_a1_bu nin0)).other W184 (Or.inl ne_a1_bp)).keep K193 (ninS ne_a1_bu nin0)).other W200 (Or.inl ne_a1_bp)).other W209 (Or.inl ne_a1_bs)).other W217 (Or.inl ne_a1_bs)).other W225 (Or.inl ne_a1_bs)).other W233 (Or.inl ne_a1_bs)).other W254 (Or.inl ne_a1_bc)).other W274 (Or.inl ne_a1_bc)).other W280 (Or.inl ne_a1_bc))
        have f290 := ((((((((f196.other W200 (Or.inl ne_a1_bp)).other W209 (Or.inl ne_a1_bs)).other W217 (Or.inl ne_a1_bs)).other W225 (Or.inl ne_a1_bs)).other W233 (Or.inl ne_a1_bs)).other W254 (Or.inl ne_a1_bc)).other W274 (Or.inl ne_a1_bc)).other W280 (Or.inl ne_a1_bc))
        have f291 := ((((((((f194.other W200 (Or.inl ne_a1_bp)).other W209 (Or.inl ne_a1_bs)).other W217 (Or.inl ne_a1_bs)).other W225 (Or.inl ne_a1_bs)).other W233 (Or.inl ne_a1_bs)).other W254 (Or.inl ne_a1_bc)).other W274 (Or.inl ne_a1_bc)).other W280 (Or.inl ne_a1_bc))
        have f292 := ((((f226.other W233 (Or.inl ne_a1_bs)).other W254 (Or.inl ne_a1_bc)).other W274 (Or.inl ne_a1_bc)).other W280 (Or.inl ne_a1_bc))
        subst hkk
        subst hc0 hc1 hc2 hc3 hc4
        obtain ⟨r0, r1, r2, r3, r4⟩ := own_in5_2 k hc237 hc257 hc277
        have Vz : Arv Z h280 bc kc .int (5 : Int32) [(.int (own_d5_0 (k.val + 1))), (.int (own_d5_1 (k.val + 1))), (.int (own_d5_2 (k.val + 1))), (.int (own_d5_3 (k.val + 1))), (.int (own_d5_4 (k.val + 1)))] (.int (0 : Int32)) := by
          rw [← r0, ← r1, ← r2, ← r3, ← r4]; exact V280
        refine ⟨_, _, _, .val (.int (1 : Int32)), .val (.int it189), X280, e280, N280, O283, K282, f288, f289, f290, f291, f292, f287, Vz, ⟨_, _, _, _, _, f284⟩, ?_, ?_, One.val rfl, One.val rfl, ?_⟩
        · subst hit115 hu120 hu121 hu122 hu123 hit135 hu140 hu141 hu142 hit154 hu159 hu160 hit172 hu177 hit189; exact f285
        · subst hit115 hu120 hu121 hu122 hu123 hit135 hu140 hu141 hu142 hit154 hu159 hu160 hit172 hu177 hit189; exact f286
        · intro t kt; refine pre281 t ?_; rw [own_next]; exact kt
      · skip
        obtain ⟨cl293, Ar293, q293, S293, N293_, H293, G293⟩ := id V274
        have hin293 : ¬ ((1 : Int32) < 0 ∨ cl293.slots.size ≤ ((1 : Int32)).toNatClampNeg) := inb_of S293 ⟨by decide, by decide⟩
        obtain ⟨T294, h294, X294, e294, W294, st294⟩ := stI X274 hx hZ e274 Ar293 (j := (1 : Int32)) hin293 (g := (mkF m 299 #[.val (.ref a1), .val (.int (5 : Int32)), .val (.ref bv), .val (.int (120 : Int32)), .val (.ref bc), .val (.ref bu), .val (.int kk), .val (.int (1 : Int32)), .val (.int it189)] [(.int (0 : Int32)), (.int (1 : Int32)), (.ref bc)])) rfl rfl (hb hby dc5_299)
        have V294 : Arv Z h294 bc kc .int (5 : Int32) [(.int c0), (.int (0 : Int32)), (.int (0 : Int32)), (.int (0 : Int32)), (.int c4)] (.int (0 : Int32)) := Arv.set Ar293 q293 S293 N293_ H293 G293 rfl W294 1 rfl (Nat.le_of_ble_eq_true rfl)
        have N294 := Fr.snoc X294 N274 g_bc
        obtain ⟨cl295, Ar295, q295, S295, N295_, H295, G295⟩ := id V294
        have hin295 : ¬ ((0 : Int32) < 0 ∨ cl295.slots.size ≤ ((0 : Int32)).toNatClampNeg) := inb_of S295 ⟨by decide, by decide⟩
        have hat295 : cl295.slots[((0 : Int32)).toNatClampNeg]? = some (.int c0) := H295.at hin295 rfl
        have pre296 : ∀ t, Steps p.tables e below (T294.setTop (mkF m 279 #[.val (.ref a1), .val (.int (5 : Int32)), .val (.ref bv), .val (.int (120 : Int32)), .val (.ref bc), .val (.ref bu), .val (.int kk), .val (.int (0 : Int32)), .val (.int it189)] [(.int (4 : Int32)), (.int c0)])) t → Steps p.tables e below (T0.setTop (mkF m 112 #[.val (.ref a1), .val (.int (5 : Int32)), .val (.ref bv), .val (.int (120 : Int32)), .val (.ref bc), .val (.ref bu), .val (.int kk), w7, w8] [])) t := fun t kt => pre276 t (by
            show Steps p.tables e below (T274.setTop (mkF m 279 #[.val (.ref a1), .val (.int (5 : Int32)), .val (.ref bv), .val (.int (120 : Int32)), .val (.ref bc), .val (.ref bu), .val (.int kk), .val (.int (1 : Int32)), .val (.int it189)] [(.int (3 : Int32)), (.int c1)])) _
            refine XS.icmpYes X274.here hx rfl (pc0 := 279) (pc' := 294) rfl (hb hby dc5_279) rfl (flt hc277).2.1 (by decide) (by decide) ?_
            show Steps p.tables e below (T274.setTop (mkF m 294 #[.val (.ref a1), .val (.int (5 : Int32)), .val (.ref bv), .val (.int (120 : Int32)), .val (.ref bc), .val (.ref bu), .val (.int kk), .val (.int (1 : Int32)), .val (.int it189)] [])) _
            refine XS.aload X274.here hx rfl (hb hby dc5_294) rfl rfl ?_
            refine XS.iload X274.here hx rfl (hb hby dc5_296) rfl ?_
            refine XS.iconst X274.here hx rfl (hb hby dc5_298) ?_
            refine st294 _ ?_
            refine XS.iinc X294.here hx rfl (hb hby dc5_300) rfl (l' := #[.val (.ref a1), .val (.int (5 : Int32)), .val (.ref bv), .val (.int (120 : Int32)), .val (.ref bc), .val (.ref bu), .val (.int kk), .val (.int (0 : Int32)), .val (.int it189)]) rfl ?_
            refine XS.goto X294.here hx rfl (pc0 := 303) (pc' := 263) rfl (hb hby dc5_303) (by decide) (by decide) ?_
            refine XS.iload X294.here hx rfl (hb hby dc5_263) rfl ?_
            show Steps p.tables e below (T294.setTop (mkF m 265 #[.val (.ref a1), .val (.int (5 : Int32)), .val (.ref bv), .val (.int (120 : Int32)), .val (.ref bc), .val (.ref bu), .val (.int kk), .val (.int (0 : Int32)), .val (.int it189)] [(.int (0 : Int32))])) _
            refine XS.ifNo X294.here hx rfl (hb hby dc5_265) rfl (by decide) ?_
            refine XS.aload X294.here hx rfl (hb hby dc5_268) rfl rfl ?_
            refine XS.iload X294.here hx rfl (hb hby dc5_270) rfl ?_
            refine X294.iaload hx (j := (0 : Int32)) (v := (.int c0)) (by rw [e294]; exact Ar295.1) (State.isArrayOf_alike hZ.alike Ar295.2.1) Ar295.2.2 hin295 hat295 (g := (mkF m 272 #[.val (.ref a1), .val (.int (5 : Int32)), .val (.ref bv), .val (.int (120 : Int32)), .val (.ref bc), .val (.ref bu), .val (.int kk), .val (.int (0 : Int32)), .val (.int it189)] [(.int (0 : Int32)), (.ref bc)])) rfl rfl (hb hby dc5_272) _ ?_
            refine XS.iloadN X294.here hx rfl (hb hby dc5_273) rfl ?_
            refine XS.iconst X294.here hx rfl (hb hby dc5_274) ?_
            refine XS.isub X294.here hx rfl (hb hby dc5_275) rfl ?_
            refine XS.iload X294.here hx rfl (hb hby dc5_276) rfl ?_
            refine XS.isub X294.here hx rfl (hb hby dc5_278) rfl ?_
            exact kt)
        by_cases hc297 : c0 < (4 : Int32)
        · skip
          obtain ⟨cl298, Ar298, q298, S298, N298_, H298, G298⟩ := id V294
          have hin298 : ¬ ((0 : Int32) < 0 ∨ cl298.slots.size ≤ ((0 : Int32)).toNatClampNeg) := inb_of S298 ⟨by decide, by decide⟩
          have hat298 : cl298.slots[((0 : Int32)).toNatClampNeg]? = some (.int c0) := H298.at hin298 rfl
          obtain ⟨cl299, Ar299, q299, S299, N299_, H299, G299⟩ := id V294
          have hin299 : ¬ ((0 : Int32) < 0 ∨ cl299.slots.size ≤ ((0 : Int32)).toNatClampNeg) := inb_of S299 ⟨by decide, by decide⟩
          obtain ⟨T300, h300, X300, e300, W300, st300⟩ := stI X294 hx hZ e294 Ar299 (j := (0 : Int32)) hin299 (g := (mkF m 290 #[.val (.ref a1), .val (.int (5 : Int32)), .val (.ref bv), .val (.int (120 : Int32)), .val (.ref bc), .val (.ref bu), .val (.int kk), .val (.int (0 : Int32)), .val (.int it189)] [(.int (c0 + (1 : Int32))), (.int (0 : Int32)), (.ref bc)])) rfl rfl (hb hby dc5_290)
          have V300 : Arv Z h300 bc kc .int (5 : Int32) [(.int (c0 + (1 : Int32))), (.int (0 : Int32)), (.int (0 : Int32)), (.int (0 : Int32)), (.int c4)] (.int (0 : Int32)) := Arv.set Ar299 q299 S299 N299_ H299 G299 rfl W300 0 rfl (Nat.le_of_ble_eq_true rfl)
          have N300 := Fr.snoc X300 N294 g_bc
          have pre301 : ∀ t, Steps p.tables e below (T300.setTop (mkF m 112 #[.val (.ref a1), .val (.int (5 : Int32)), .val (.ref bv), .val (.int (120 : Int32)), .val (.ref bc), .val (.ref bu), .val (.int (kk + (1 : Int32))), .val (.int (0 : Int32)), .val (.int it189)] [])) t → Steps p.tables e below (T0.setTop (mkF m 112 #[.val (.ref a1), .val (.int (5 : Int32)), .val (.ref bv), .val (.int (120 : Int32)), .val (.ref bc), .val (.ref bu), .val (.int kk), w7, w8] [])) t := fun t kt => pre296 t (by
              show Steps p.tables e below (T294.setTop (mkF m 279 #[.val (.ref a1), .val (.int (5 : Int32)), .val (.ref bv), .val (.int (120 : Int32)), .val (.ref bc), .val (.ref bu), .val (.int kk), .val (.int (0 : Int32)), .val (.int it189)] [(.int (4 : Int32)), (.int c0)])) _
              refine XS.icmpNo X294.here hx rfl (hb hby dc5_279) rfl (tlt hc297).2.1 ?_
              refine XS.aload X294.here hx rfl (hb hby dc5_282) rfl rfl ?_
              refine XS.iload X294.here hx rfl (hb hby dc5_284) rfl ?_
              jvm_step X294.here [X294.here.top, hx, (hb hby dc5_286), Value.category]
              refine X294.iaload hx (j := (0 : Int32)) (v := (.int c0)) (by rw [e294]; exact Ar298.1) (State.isArrayOf_alike hZ.alike Ar298.2.1) Ar298.2.2 hin298 hat298 (g := (mkF m 287 #[.val (.ref a1), .val (.int (5 : Int32)), .val (.ref bv), .val (.int (120 : Int32)), .val (.ref bc), .val (.ref bu), .val (.int kk), .val (.int (0 : Int32)), .val (.int it189)] [(.int (0 : Int32)), (.ref bc), (.int (0 : Int32)), (.ref bc)])) rfl rfl (hb hby dc5_287) _ ?_
              refine XS.iconst X294.here hx rfl (hb hby dc5_288) ?_
              refine XS.iadd X294.here hx rfl (hb hby dc5_289) rfl ?_
              refine st300 _ ?_
              show Steps p.tables e below (T300.setTop (mkF m 291 #[.val (.ref a1), .val (.int (5 : Int32)), .val (.ref bv), .val (.int (120 : Int32)), .val (.ref bc), .val (.ref bu), .val (.int kk), .val (.int (0 : Int32)), .val (.int it189)] [])) _
              refine XS.goto X300.here hx rfl (pc0 := 291) (pc' := 306) rfl (hb hby dc5_291) (by decide) (by decide) ?_
              refine XS.iinc X300.here hx rfl (hb hby dc5_306) rfl (l' := #[.val (.ref a1), .val (.int (5 : Int32)), .val (.ref bv), .val (.int (120 : Int32)), .val (.ref bc), .val (.ref bu), .val (.int (kk + (1 : Int32))), .val (.int (0 : Int32)), .val (.int it189)]) rfl ?_
              refine XS.goto X300.here hx rfl (pc0 := 309) (pc' := 112) rfl (hb hby dc5_309) (by decide) (by decide) ?_
              exact kt)
          have K302 : Keep h0 h300 [bp, bs, bc, bu] := (Keep.wr (Keep.wr (Keep.wr (Keep.wr (Keep.wr (Keep.wr (Keep.wr (Keep.wr (Keep.wr (Keep.trans (Keep.wr (Keep.trans (Keep.wr (Keep.trans (Keep.wr (Keep.trans (Keep.wr (Keep.trans (Keep.wr (Keep.wr (Keep.wr (Keep.wr (Keep.wr (Keep.refl h0 [bp, bs, bc, bu]) W103 (Or.inl (List.mem_of_getElem? (i := 3) rfl))) W105 (Or.inl (List.mem_of_getElem? (i := 3) rfl))) W107 (Or.inl (List.mem_of_getElem? (i := 3) rfl))) W109 (Or.inl (List.mem_of_getElem? (i := 3) rfl))) W111 (Or.inl (List.mem_of_getElem? (i := 3) rfl))) K119 (allS (P := fun x => x ∈ [bp, bs, bc, bu] ∨ h0.size ≤ x) (Or.inl (List.mem_of_getElem? (i := 3) rfl)) all0)) W130 (Or.inl (List.mem_of_getElem? (i := 0) rfl))) K139 (allS (P := fun x => x ∈ [bp, bs, bc, bu] ∨ h0.size ≤ x) (Or.inl (List.mem_of_getElem? (i := 3) rfl)) all0)) W149 (Or.inl (List.mem_of_getElem? (i := 0) rfl))) K158 (allS (P := fun x => x ∈ [bp, bs, bc, bu] ∨ h0.size ≤ x) (Or.inl (List.mem_of_getElem? (i := 3) rfl)) all0)) W167 (Or.inl (List.mem_of_getElem? (i := 0) rfl))) K176 (allS (P := fun x => x ∈ [bp, bs, bc, bu] ∨ h0.size ≤ x) (Or.inl (List.mem_of_getElem? (i := 3) rfl)) all0)) W184 (Or.inl (List.mem_of_getElem? (i := 0) rfl))) K193 (allS (P := fun x => x ∈ [bp, bs, bc, bu] ∨ h0.size ≤ x) (Or.inl (List.mem_of_getElem? (i := 3) rfl)) all0)) W200 (Or.inl (List.mem_of_getElem? (i := 0) rfl))) W209 (Or.inl (List.mem_of_getElem? (i := 1) rfl))) W217 (Or.inl (List.mem_of_getElem? (i := 1) rfl))) W225 (Or.inl (List.mem_of_getElem? (i := 1) rfl))) W233 (Or.inl (List.mem_of_getElem? (i := 1) rfl))) W254 (Or.inl (List.mem_of_getElem? (i := 2) rfl))) W274 (Or.inl (List.mem_of_getElem? (i := 2) rfl))) W294 (Or.inl (List.mem_of_getElem? (i := 2) rfl))) W300 (Or.inl (List.mem_of_getElem? (i := 2) rfl)))
          have O303 : Old Z n0 h300 := (((((O228.wr W233 g_bs).wr W254 g_bc).wr W274 g_bc).wr W294 g_bc).wr W300 g_bc)
          have f304 := (((((((((V193.other W200 (Ne.symm ne_bp_bu)).other W209 (Ne.symm ne_bs_bu)).other W217 (Ne.symm ne_bs_bu)).other W225 (Ne.symm ne_bs_bu)).other W233 (Ne.symm ne_bs_bu)).other W254 (Ne.symm ne_bc_bu)).other W274 (Ne.symm ne_bc_bu)).other W294 (Ne.symm ne_bc_bu)).other W300 (Ne.symm ne_bc_bu))
          have f305 := ((((((((A200.other W209 ne_bp_bs).other W217 ne_bp_bs).other W225 ne_bp_bs).other W233 ne_bp_bs).other W254 ne_bp_bc).other W274 ne_bp_bc).other W294 ne_bp_bc).other W300 ne_bp_bc)
          have f306 := ((((A233.other W254 ne_bs_bc).other W274 ne_bs_bc).other W294 ne_bs_bc).other W300 ne_bs_bc)
          have f307 := (((((f230.other W233 ne_bv_bs).other W254 ne_bv_bc).other W274 ne_bv_bc).other W294 ne_bv_bc).other W300 ne_bv_bc)
          have f308 := (((((((((((((((((((((((Eo.wr W103).wr W105).wr W107).wr W109).wr W111).keep K119).wr W130).keep K139).wr W149).keep K158).wr W167).keep K176).wr W184).keep K193).wr W200).wr W209).wr W217).wr W225).wr W233).wr W254).wr W274).wr W294).wr W300)
          have f309 := (((((((((((((((((((((((Fi.other W103 (Or.inl ne_a1_bu)).other W105 (Or.inl ne_a1_bu)).other W107 (Or.inl ne_a1_bu)).other W109 (Or.inl ne_a1_bu)).other W111 (Or.inl ne_a1_bu)).keep K119 (ninS ne_a1_bu nin0)).other W130 (Or.inl ne_a1_bp)).keep K139 (ninS ne_a1_bu nin0)).other W149 (Or.inl ne_a1_bp)).keep K158 (ninS ne_a1_bu nin0)).other W167 (Or.inl ne_a1_bp)).keep K176 (ninS ne_a1_bu nin0)).other W184 (Or.inl ne_a1_bp)).keep K193 (ninS ne_a1_bu nin0)).other W200 (Or.inl ne_a1_bp)).other W209 (Or.inl ne_a1_bs)).other W217 (Or.inl ne_a1_bs)).other W225 (Or.inl ne_a1_bs)).other W233 (Or.inl ne_a1_bs)).other W254 (Or.inl ne_a1_bc)).other W274 (Or.inl ne_a1_bc)).other W294 (Or.inl ne_a1_bc)).other W300 (Or.inl ne_a1_bc))
          have f310 := (((((((((f196.other W200 (Or.inl ne_a1_bp)).other W209 (Or.inl ne_a1_bs)).other W217 (Or.inl ne_a1_bs)).other W225 (Or.inl ne_a1_bs)).other W233 (Or.inl ne_a1_bs)).other W254 (Or.inl ne_a1_bc)).other W274 (Or.inl ne_a1_bc)).other W294 (Or.inl ne_a1_bc)).other W300 (Or.inl ne_a1_bc))
          have f311 := (((((((((f194.other W200 (Or.inl ne_a1_bp)).other W209 (Or.inl ne_a1_bs)).other W217 (Or.inl ne_a1_bs)).other W225 (Or.inl ne_a1_bs)).other W233 (Or.inl ne_a1_bs)).other W254 (Or.inl ne_a1_bc)).other W274 (Or.inl ne_a1_bc)).other W294 (Or.inl ne_a1_bc)).other W300 (Or.inl ne_a1_bc))
          have f312 := (((((f226.other W233 (Or.inl ne_a1_bs)).other W254 (Or.inl ne_a1_bc)).other W274 (Or.inl ne_a1_bc)).other W294 (Or.inl ne_a1_bc)).other W300 (Or.inl ne_a1_bc))
          subst hkk
          subst hc0 hc1 hc2 hc3 hc4
          obtain ⟨r0, r1, r2, r3, r4⟩ := own_in5_3 k hc237 hc257 hc277 hc297
          have Vz : Arv Z h300 bc kc .int (5 : Int32) [(.int (own_d5_0 (k.val + 1))), (.int (own_d5_1 (k.val + 1))), (.int (own_d5_2 (k.val + 1))), (.int (own_d5_3 (k.val + 1))), (.int (own_d5_4 (k.val + 1)))] (.int (0 : Int32)) := by
            rw [← r0, ← r1, ← r2, ← r3, ← r4]; exact V300
          refine ⟨_, _, _, .val (.int (0 : Int32)), .val (.int it189), X300, e300, N300, O303, K302, f308, f309, f310, f311, f312, f307, Vz, ⟨_, _, _, _, _, f304⟩, ?_, ?_, One.val rfl, One.val rfl, ?_⟩
          · subst hit115 hu120 hu121 hu122 hu123 hit135 hu140 hu141 hu142 hit154 hu159 hu160 hit172 hu177 hit189; exact f305
          · subst hit115 hu120 hu121 hu122 hu123 hit135 hu140 hu141 hu142 hit154 hu159 hu160 hit172 hu177 hit189; exact f306
          · intro t kt; refine pre301 t ?_; rw [own_next]; exact kt
        · skip
          obtain ⟨cl313, Ar313, q313, S313, N313_, H313, G313⟩ := id V294
          have hin313 : ¬ ((0 : Int32) < 0 ∨ cl313.slots.size ≤ ((0 : Int32)).toNatClampNeg) := inb_of S313 ⟨by decide, by decide⟩
          obtain ⟨T314, h314, X314, e314, W314, st314⟩ := stI X294 hx hZ e294 Ar313 (j := (0 : Int32)) hin313 (g := (mkF m 299 #[.val (.ref a1), .val (.int (5 : Int32)), .val (.ref bv), .val (.int (120 : Int32)), .val (.ref bc), .val (.ref bu), .val (.int kk), .val (.int (0 : Int32)), .val (.int it189)] [(.int (0 : Int32)), (.int (0 : Int32)), (.ref bc)])) rfl rfl (hb hby dc5_299)
          have V314 : Arv Z h314 bc kc .int (5 : Int32) [(.int (0 : Int32)), (.int (0 : Int32)), (.int (0 : Int32)), (.int (0 : Int32)), (.int c4)] (.int (0 : Int32)) := Arv.set Ar313 q313 S313 N313_ H313 G313 rfl W314 0 rfl (Nat.le_of_ble_eq_true rfl)
          have N314 := Fr.snoc X314 N294 g_bc
          have pre315 : ∀ t, Steps p.tables e below (T314.setTop (mkF m 112 #[.val (.ref a1), .val (.int (5 : Int32)), .val (.ref bv), .val (.int (120 : Int32)), .val (.ref bc), .val (.ref bu), .val (.int (kk + (1 : Int32))), .val (.int (-1 : Int32)), .val (.int it189)] [])) t → Steps p.tables e below (T0.setTop (mkF m 112 #[.val (.ref a1), .val (.int (5 : Int32)), .val (.ref bv), .val (.int (120 : Int32)), .val (.ref bc), .val (.ref bu), .val (.int kk), w7, w8] [])) t := fun t kt => pre296 t (by
              show Steps p.tables e below (T294.setTop (mkF m 279 #[.val (.ref a1), .val (.int (5 : Int32)), .val (.ref bv), .val (.int (120 : Int32)), .val (.ref bc), .val (.ref bu), .val (.int kk), .val (.int (0 : Int32)), .val (.int it189)] [(.int (4 : Int32)), (.int c0)])) _
              refine XS.icmpYes X294.here hx rfl (pc0 := 279) (pc' := 294) rfl (hb hby dc5_279) rfl (flt hc297).2.1 (by decide) (by decide) ?_
              refine XS.aload X294.here hx rfl (hb hby dc5_294) rfl rfl ?_
              refine XS.iload X294.here hx rfl (hb hby dc5_296) rfl ?_
              refine XS.iconst X294.here hx rfl (hb hby dc5_298) ?_
              refine st314 _ ?_
              refine XS.iinc X314.here hx rfl (hb hby dc5_300) rfl (l' := #[.val (.ref a1), .val (.int (5 : Int32)), .val (.ref bv), .val (.int (120 : Int32)), .val (.ref bc), .val (.ref bu), .val (.int kk), .val (.int (-1 : Int32)), .val (.int it189)]) rfl ?_
              refine XS.goto X314.here hx rfl (pc0 := 303) (pc' := 263) rfl (hb hby dc5_303) (by decide) (by decide) ?_
              refine XS.iload X314.here hx rfl (hb hby dc5_263) rfl ?_
              show Steps p.tables e below (T314.setTop (mkF m 265 #[.val (.ref a1), .val (.int (5 : Int32)), .val (.ref bv), .val (.int (120 : Int32)), .val (.ref bc), .val (.ref bu), .val (.int kk), .val (.int (-1 : Int32)), .val (.int it189)] [(.int (-1 : Int32))])) _
              refine XS.ifYes X314.here hx rfl (pc0 := 265) (pc' := 306) rfl (hb hby dc5_265) rfl (by decide) (by decide) (by decide) ?_
              refine XS.iinc X314.here hx rfl (hb hby dc5_306) rfl (l' := #[.val (.ref a1), .val (.int (5 : Int32)), .val (.ref bv), .val (.int (120 : Int32)), .val (.ref bc), .val (.ref bu), .val (.int (kk + (1 : Int32))), .val (.int (-1 : Int32)), .val (.int it189)]) rfl ?_
              refine XS.goto X314.here hx rfl (pc0 := 309) (pc' := 112) rfl (hb hby dc5_309) (by decide) (by decide) ?_
              exact kt)
          have K316 : Keep h0 h314 [bp, bs, bc, bu] := (Keep.wr (Keep.wr (Keep.wr (Keep.wr (Keep.wr (Keep.wr (Keep.wr (Keep.wr (Keep.wr (Keep.trans (Keep.wr (Keep.trans (Keep.wr (Keep.trans (Keep.wr (Keep.trans (Keep.wr (Keep.trans (Keep.wr (Keep.wr (Keep.wr (Keep.wr (Keep.wr (Keep.refl h0 [bp, bs, bc, bu]) W103 (Or.inl (List.mem_of_getElem? (i := 3) rfl))) W105 (Or.inl (List.mem_of_getElem? (i := 3) rfl))) W107 (Or.inl (List.mem_of_getElem? (i := 3) rfl))) W109 (Or.inl (List.mem_of_getElem? (i := 3) rfl))) W111 (Or.inl (List.mem_of_getElem? (i := 3) rfl))) K119 (allS (P := fun x => x ∈ [bp, bs, bc, bu] ∨ h0.size ≤ x) (Or.inl (List.mem_of_getElem? (i := 3) rfl)) all0)) W130 (Or.inl (List.mem_of_getElem? (i := 0) rfl))) K139 (allS (P := fun x => x ∈ [bp, bs, bc, bu] ∨ h0.size ≤ x) (Or.inl (List.mem_of_getElem? (i := 3) rfl)) all0)) W149 (Or.inl (List.mem_of_getElem? (i := 0) rfl))) K158 (allS (P := fun x => x ∈ [bp, bs, bc, bu] ∨ h0.size ≤ x) (Or.inl (List.mem_of_getElem? (i := 3) rfl)) all0)) W167 (Or.inl (List.mem_of_getElem? (i := 0) rfl))) K176 (allS (P := fun x => x ∈ [bp, bs, bc, bu] ∨ h0.size ≤ x) (Or.inl (List.mem_of_getElem? (i := 3) rfl)) all0)) W184 (Or.inl (List.mem_of_getElem? (i := 0) rfl))) K193 (allS (P := fun x => x ∈ [bp, bs, bc, bu] ∨ h0.size ≤ x) (Or.inl (List.mem_of_getElem? (i := 3) rfl)) all0)) W200 (Or.inl (List.mem_of_getElem? (i := 0) rfl))) W209 (Or.inl (List.mem_of_getElem? (i := 1) rfl))) W217 (Or.inl (List.mem_of_getElem? (i := 1) rfl))) W225 (Or.inl (List.mem_of_getElem? (i := 1) rfl))) W233 (Or.inl (List.mem_of_getElem? (i := 1) rfl))) W254 (Or.inl (List.mem_of_getElem? (i := 2) rfl))) W274 (Or.inl (List.mem_of_getElem? (i := 2) rfl))) W294 (Or.inl (List.mem_of_getElem? (i := 2) rfl))) W314 (Or.inl (List.mem_of_getElem? (i := 2) rfl)))
          have O317 : Old Z n0 h314 := (((((O228.wr W233 g_bs).wr W254 g_bc).wr W274 g_bc).wr W294 g_bc).wr W314 g_bc)
          have f318 := (((((((((V193.other W200 (Ne.symm ne_bp_bu)).other W209 (Ne.symm ne_bs_bu)).other W217 (Ne.symm ne_bs_bu)).other W225 (Ne.symm ne_bs_bu)).other W233 (Ne.symm ne_bs_bu)).other W254 (Ne.symm ne_bc_bu)).other W274 (Ne.symm ne_bc_bu)).other W294 (Ne.symm ne_bc_bu)).other W314 (Ne.symm ne_bc_bu))
          have f319 := ((((((((A200.other W209 ne_bp_bs).other W217 ne_bp_bs).other W225 ne_bp_bs).other W233 ne_bp_bs).other W254 ne_bp_bc).other W274 ne_bp_bc).other W294 ne_bp_bc).other W314 ne_bp_bc)
          have f320 := ((((A233.other W254 ne_bs_bc).other W274 ne_bs_bc).other W294 ne_bs_bc).other W314 ne_bs_bc)
          have f321 := (((((f230.other W233 ne_bv_bs).other W254 ne_bv_bc).other W274 ne_bv_bc).other W294 ne_bv_bc).other W314 ne_bv_bc)
          have f322 := (((((((((((((((((((((((Eo.wr W103).wr W105).wr W107).wr W109).wr W111).keep K119).wr W130).keep K139).wr W149).keep K158).wr W167).keep K176).wr W184).keep K193).wr W200).wr W209).wr W217).wr W225).wr W233).wr W254).wr W274).wr W294).wr W314)
          have f323 := (((((((((((((((((((((((Fi.other W103 (Or.inl ne_a1_bu)).other W105 (Or.inl ne_a1_bu)).other W107 (Or.inl ne_a1_bu)).other W109 (Or.inl ne_a1_bu)).other W111 (Or.inl ne_a1_bu)).keep K119 (ninS ne_a1_bu nin0)).other W130 (Or.inl ne_a1_bp)).keep K139 (ninS ne_a1_bu nin0)).other W149 (Or.inl ne_a1_bp)).keep K158 (ninS ne_a1_bu nin0)).other W167 (Or.inl ne_a1_bp)).keep K176 (ninS ne_a1_bu nin0)).other W184 (Or.inl ne_a1_bp)).keep K193 (ninS ne_a1_bu nin0)).other W200 (Or.inl ne_a1_bp)).other W209 (Or.inl ne_a1_bs)).other W217 (Or.inl ne_a1_bs)).other W225 (Or.inl ne_a1_bs)).other W233 (Or.inl ne_a1_bs)).other W254 (Or.inl ne_a1_bc)).other W274 (Or.inl ne_a1_bc)).other W294 (Or.inl ne_a1_bc)).other W314 (Or.inl ne_a1_bc))
          have f324 := (((((((((f196.other W200 (Or.inl ne_a1_bp)).other W209 (Or.inl ne_a1_bs)).other W217 (Or.inl ne_a1_bs)).other W225 (Or.inl ne_a1_bs)).other W233 (Or.inl ne_a1_bs)).other W254 (Or.inl ne_a1_bc)).other W274 (Or.inl ne_a1_bc)).other W294 (Or.inl ne_a1_bc)).other W314 (Or.inl ne_a1_bc))
          have f325 := (((((((((f194.other W200 (Or.inl ne_a1_bp)).other W209 (Or.inl ne_a1_bs)).other W217 (Or.inl ne_a1_bs)).other W225 (Or.inl ne_a1_bs)).other W233 (Or.inl ne_a1_bs)).other W254 (Or.inl ne_a1_bc)).other W274 (Or.inl ne_a1_bc)).other W294 (Or.inl ne_a1_bc)).other W314 (Or.inl ne_a1_bc))
          have f326 := (((((f226.other W233 (Or.inl ne_a1_bs)).other W254 (Or.inl ne_a1_bc)).other W274 (Or.inl ne_a1_bc)).other W294 (Or.inl ne_a1_bc)).other W314 (Or.inl ne_a1_bc))
          subst hkk
          subst hc0 hc1 hc2 hc3 hc4
          obtain ⟨r0, r1, r2, r3, r4⟩ := own_in5_4 k hc237 hc257 hc277 hc297
          have Vz : Arv Z h314 bc kc .int (5 : Int32) [(.int (own_d5_0 (k.val + 1))), (.int (own_d5_1 (k.val + 1))), (.int (own_d5_2 (k.val + 1))), (.int (own_d5_3 (k.val + 1))), (.int (own_d5_4 (k.val + 1)))] (.int (0 : Int32)) := by
            rw [← r0, ← r1, ← r2, ← r3, ← r4]; exact V314
          refine ⟨_, _, _, .val (.int (-1 : Int32)), .val (.int it189), X314, e314, N314, O317, K316, f322, f323, f324, f325, f326, f321, Vz, ⟨_, _, _, _, _, f318⟩, ?_, ?_, One.val rfl, One.val rfl, ?_⟩
          · subst hit115 hu120 hu121 hu122 hu123 hit135 hu140 hu141 hu142 hit154 hu159 hu160 hit172 hu177 hit189; exact f319
          · subst hit115 hu120 hu121 hu122 hu123 hit135 hu140 hu141 hu142 hit154 hu159 hu160 hit172 hu177 hit189; exact f320
          · intro t kt; refine pre315 t ?_; rw [own_next]; exact kt
set_option maxRecDepth 65536 in
set_option maxHeartbeats 40000000 in
theorem lv5 {p : Program} {l : Launch} {e : Env} {s : State} {m : MethodId} {args : Array Value} {below : List Frame} {meth : Method} {c : Code} {T0 : State} {locs : List Loc} {Z : State} {a0 : Array Value} {h0 : Heap} {n0 : Nat} (a1 bv bp bs bc bu : Addr) (w7 w8 : Slot)
    (X0 : Stand p l e ({ frames := 2, cells := 5, slots := 1095, locals := 60 } : Room) s m args below meth c T0 locs 5 1095) (hx : p.tables.exec = Jvm.exec) (hZ : Z.Warmed39 s.vm) (hw : ∀ d ∈ tables_1, d.before a0 Z = true) (hby : c.code = prog_26_method_1_code) (hml : c.maxLocals = 9) (hown : s.vm.findClass "com/example/frontward/frontward/offline/Orderings" = some m.cls) (e0 : T0.heap = h0) (N0 : Fr n0 locs) (O0 : Old Z n0 h0) (Fc : Fld Z h0 a1 "com/example/frontward/frontward/offline/Orderings" "count" "I" (.int (120 : Int32))) :
    ∃ (T' : State), Stand p l e ({ frames := 2, cells := 5, slots := 1095, locals := 60 } : Room) s m args below meth c T' locs 5 1095 ∧ T'.heap = h0 ∧ ∀ t, Steps p.tables e below (T'.setTop (mkF m 312 #[.val (.ref a1), .val (.int (5 : Int32)), .val (.ref bv), .val (.int (120 : Int32)), .val (.ref bc), .val (.ref bu), .val (.int (120 : Int32)), w7, w8] [])) t → Steps p.tables e below (T0.setTop (mkF m 112 #[.val (.ref a1), .val (.int (5 : Int32)), .val (.ref bv), .val (.int (120 : Int32)), .val (.ref bc), .val (.ref bu), .val (.int (120 : Int32)), w7, w8] [])) t := by
  have pre0 : ∀ t, Steps p.tables e below (T0.setTop (mkF m 112 #[.val (.ref a1), .val (.int (5 : Int32)), .val (.ref bv), .val (.int (120 : Int32)), .val (.ref bc), .val (.ref bu), .val (.int (120 : Int32)), w7, w8] [])) t → Steps p.tables e below (T0.setTop (mkF m 112 #[.val (.ref a1), .val (.int (5 : Int32)), .val (.ref bv), .val (.int (120 : Int32)), .val (.ref bc), .val (.ref bu), .val (.int (120 : Int32)), w7, w8] [])) t := fun _ k => k
  obtain ⟨T101, X101, e101, st101⟩ := getF X0 hx hZ hown (host := "") (Or.inl (hw _ (List.mem_of_getElem? (i := 12) rfl))) Via.refl e0 Fc (g := (mkF m 115 #[.val (.ref a1), .val (.int (5 : Int32)), .val (.ref bv), .val (.int (120 : Int32)), .val (.ref bc), .val (.ref bu), .val (.int (120 : Int32)), w7, w8] [(.ref a1), (.int (120 : Int32))])) rfl rfl (hb hby dc5_115)
  have pre102 : ∀ t, Steps p.tables e below (T101.setTop (mkF m 312 #[.val (.ref a1), .val (.int (5 : Int32)), .val (.ref bv), .val (.int (120 : Int32)), .val (.ref bc), .val (.ref bu), .val (.int (120 : Int32)), w7, w8] [])) t → Steps p.tables e below (T0.setTop (mkF m 112 #[.val (.ref a1), .val (.int (5 : Int32)), .val (.ref bv), .val (.int (120 : Int32)), .val (.ref bc), .val (.ref bu), .val (.int (120 : Int32)), w7, w8] [])) t := fun t kt => pre0 t (by
      show Steps p.tables e below (T0.setTop (mkF m 112 #[.val (.ref a1), .val (.int (5 : Int32)), .val (.ref bv), .val (.int (120 : Int32)), .val (.ref bc), .val (.ref bu), .val (.int (120 : Int32)), w7, w8] [])) _
      refine XS.iload X0.here hx rfl (hb hby dc5_112) rfl ?_
      refine XS.aloadN X0.here hx rfl (hb hby dc5_114) rfl rfl ?_
      refine st101 _ ?_
      show Steps p.tables e below (T101.setTop (mkF m 118 #[.val (.ref a1), .val (.int (5 : Int32)), .val (.ref bv), .val (.int (120 : Int32)), .val (.ref bc), .val (.ref bu), .val (.int (120 : Int32)), w7, w8] [(.int (120 : Int32)), (.int (120 : Int32))])) _
      refine XS.icmpYes X101.here hx rfl (pc0 := 118) (pc' := 312) rfl (hb hby dc5_118) rfl (by decide) (by decide) (by decide) ?_
      exact kt)
  exact ⟨_, X101, e101, pre102⟩
theorem lp5 {p : Program} {l : Launch} {e : Env} {s : State} {m : MethodId} {args : Array Value} {below : List Frame} {meth : Method} {c : Code} {Z : State} {a0 : Array Value} {n0 : Nat} (a1 bv bp bs bc bu : Addr) (kv kc ku : ClassId) (hx : p.tables.exec = Jvm.exec) (hZ : Z.Warmed39 s.vm) (hw : ∀ d ∈ tables_1, d.before a0 Z = true) (hby : c.code = prog_26_method_1_code) (hml : c.maxLocals = 9) (hown : s.vm.findClass "com/example/frontward/frontward/offline/Orderings" = some m.cls) (ne_a1_bv : a1 ≠ bv) (ne_a1_bp : a1 ≠ bp) (ne_a1_bs : a1 ≠ bs) (ne_a1_bc : a1 ≠ bc) (ne_a1_bu : a1 ≠ bu) (ne_bv_bp : bv ≠ bp) (ne_bv_bs : bv ≠ bs) (ne_bv_bc : bv ≠ bc) (ne_bv_bu : bv ≠ bu) (ne_bp_bs : bp ≠ bs) (ne_bp_bc : bp ≠ bc) (ne_bp_bu : bp ≠ bu) (ne_bs_bc : bs ≠ bc) (ne_bs_bu : bs ≠ bu) (ne_bc_bu : bc ≠ bu) (g_bp : n0 ≤ bp) (g_bs : n0 ≤ bs) (g_bc : n0 ≤ bc) (g_bu : n0 ≤ bu) :
    ∀ (j k : Nat) (T0 : State) (h0 : Heap) (locs : List Loc) (w7 w8 : Slot), k + j = 120 → Stand p l e ({ frames := 2, cells := 5, slots := 1095, locals := 60 } : Room) s m args below meth c T0 locs 5 1095 → T0.heap = h0 → Fr n0 locs → Old Z n0 h0 → (One w7) → (One w8) → (Exa Z h0 a1 "com/example/frontward/frontward/offline/Orderings") → (Fld Z h0 a1 "com/example/frontward/frontward/offline/Orderings" "items" "I" (.int (5 : Int32))) → (Fld Z h0 a1 "com/example/frontward/frontward/offline/Orderings" "count" "I" (.int (120 : Int32))) → (Fld Z h0 a1 "com/example/frontward/frontward/offline/Orderings" "positions" "[B" (.ref bp)) → (Fld Z h0 a1 "com/example/frontward/frontward/offline/Orderings" "swaps" "[I" (.ref bs)) → (Arv Z h0 bv kv .int (5 : Int32) [(.int (24 : Int32)), (.int (6 : Int32)), (.int (2 : Int32)), (.int (1 : Int32)), (.int (1 : Int32))] (.int (0 : Int32))) → (Arv Z h0 bc kc .int (5 : Int32) [(.int (own_d5_0 k)), (.int (own_d5_1 k)), (.int (own_d5_2 k)), (.int (own_d5_3 k)), (.int (own_d5_4 k))] (.int (0 : Int32))) → (∃ q0 q1 q2 q3 q4 : Int32, Arv Z h0 bu ku .int (5 : Int32) [(.int q0), (.int q1), (.int q2), (.int q3), (.int q4)] (.int (0 : Int32))) → (La Z h0 bp .byte (600 : Int32) (own_P5 k)) → (La Z h0 bs .int (480 : Int32) (own_S5 k)) →
    ∃ (T' : State) (h' : Heap) (L' : List Loc) (w7' w8' : Slot), Stand p l e ({ frames := 2, cells := 5, slots := 1095, locals := 60 } : Room) s m args below meth c T' L' 5 1095 ∧ T'.heap = h' ∧ Fr n0 L' ∧ Old Z n0 h' ∧ Keep h0 h' [bp, bs, bc, bu] ∧ Exa Z h' a1 "com/example/frontward/frontward/offline/Orderings" ∧ Fld Z h' a1 "com/example/frontward/frontward/offline/Orderings" "items" "I" (.int (5 : Int32)) ∧ Fld Z h' a1 "com/example/frontward/frontward/offline/Orderings" "count" "I" (.int (120 : Int32)) ∧ Fld Z h' a1 "com/example/frontward/frontward/offline/Orderings" "positions" "[B" (.ref bp) ∧ Fld Z h' a1 "com/example/frontward/frontward/offline/Orderings" "swaps" "[I" (.ref bs) ∧ La Z h' bp .byte (600 : Int32) (own_P5 120) ∧ La Z h' bs .int (480 : Int32) (own_S5 120) ∧ ∀ t, Steps p.tables e below (T'.setTop (mkF m 312 #[.val (.ref a1), .val (.int (5 : Int32)), .val (.ref bv), .val (.int (120 : Int32)), .val (.ref bc), .val (.ref bu), .val (.int (120 : Int32)), w7', w8'] [])) t → Steps p.tables e below (T0.setTop (mkF m 112 #[.val (.ref a1), .val (.int (5 : Int32)), .val (.ref bv), .val (.int (120 : Int32)), .val (.ref bc), .val (.ref bu), .val (.int (Int32.ofNat k)), w7, w8] [])) t := by
  intro j
  induction j with
  | zero =>
    intro k T0 h0 locs w7 w8 hk X0 e0 N0 O0 hw7 hw8 Eo Fi Fc Fp Fs Vv Vc Vu Lp Ls
    have hk' : k = 120 := by omega
    subst hk'
    obtain ⟨T', X', e', st⟩ := lv5 a1 bv bp bs bc bu w7 w8 X0 hx hZ hw hby hml hown e0 N0 O0 Fc
    exact ⟨T', h0, locs, w7, w8, X', e', N0, O0, Keep.refl _ _, Eo, Fi, Fc, Fp, Fs, Lp, Ls, st⟩
  | succ j ih =>
    intro k T0 h0 locs w7 w8 hk X0 e0 N0 O0 hw7 hw8 Eo Fi Fc Fp Fs Vv Vc Vu Lp Ls
    obtain ⟨q0, q1, q2, q3, q4, Vu⟩ := Vu
    obtain ⟨T1, h1, L1, x7, x8, X1, e1, N1, O1, K1, Eo1, Fi1, Fc1, Fp1, Fs1, Vv1, Vc1, Vu1, Lp1, Ls1, o7, o8, st1⟩ := tn5 a1 bv bp bs bc bu kv kc ku w7 w8 ⟨k, by omega⟩ (Int32.ofNat k) (own_d5_0 k) (own_d5_1 k) (own_d5_2 k) (own_d5_3 k) (own_d5_4 k) q0 q1 q2 q3 q4 (own_P5 k) (own_S5 k) X0 hx hZ hw hby hml hown e0 N0 O0 hw7 hw8 Eo Fi Fc Fp Fs Vv Vc Vu Lp Ls ne_a1_bv ne_a1_bp ne_a1_bs ne_a1_bc ne_a1_bu ne_bv_bp ne_bv_bs ne_bv_bc ne_bv_bu ne_bp_bs ne_bp_bc ne_bp_bu ne_bs_bc ne_bs_bu ne_bc_bu g_bp g_bs g_bc g_bu rfl rfl rfl rfl rfl rfl
    obtain ⟨T2, h2, L2, y7, y8, X2, e2, N2, O2, K2, Eo2, Fi2, Fc2, Fp2, Fs2, Lp2, Ls2, st2⟩ := ih (k + 1) T1 h1 L1 x7 x8 (by omega) X1 e1 N1 O1 o7 o8 Eo1 Fi1 Fc1 Fp1 Fs1 Vv1 Vc1 Vu1 Lp1 Ls1
    exact ⟨T2, h2, L2, y7, y8, X2, e2, N2, O2, Keep.trans K1 K2 (fun x hx => Or.inl hx), Eo2, Fi2, Fc2, Fp2, Fs2, Lp2, Ls2, fun t kt => st1 t (st2 t kt)⟩
def QC5 (Z : State) (a1 : Addr) (h0 : Heap) (n0 : Nat) (v : Option Value) (h : Heap) (L : List Loc) : Prop := v = none ∧ Fr n0 L ∧ Keep h0 h [a1] ∧ ∃ bp bs : Addr, Exa Z h a1 "com/example/frontward/frontward/offline/Orderings" ∧ Fld Z h a1 "com/example/frontward/frontward/offline/Orderings" "items" "I" (.int (5 : Int32)) ∧ Fld Z h a1 "com/example/frontward/frontward/offline/Orderings" "count" "I" (.int (120 : Int32)) ∧ Fld Z h a1 "com/example/frontward/frontward/offline/Orderings" "positions" "[B" (.ref bp) ∧ Fld Z h a1 "com/example/frontward/frontward/offline/Orderings" "swaps" "[I" (.ref bs) ∧ La Z h bp .byte (600 : Int32) own_PL5 ∧ La Z h bs .int (480 : Int32) own_SL5
set_option maxRecDepth 65536 in
set_option maxHeartbeats 40000000 in
theorem rmC5 (l : Launch) (Z : State) (a0 : Array Value) (hw : ∀ d ∈ tables_1, d.before a0 Z = true) (ws : List Jvm.Cond) (a1 : Addr) (h0 : Heap) (n0 : Nat) (O0 : Old Z n0 h0) (E1 : Exa Z h0 a1 "com/example/frontward/frontward/offline/Orderings") (F_items : Fld Z h0 a1 "com/example/frontward/frontward/offline/Orderings" "items" "I" (.int (0 : Int32))) (F_count : Fld Z h0 a1 "com/example/frontward/frontward/offline/Orderings" "count" "I" (.int (0 : Int32))) (F_positions : Fld Z h0 a1 "com/example/frontward/frontward/offline/Orderings" "positions" "[B" .null) (F_swaps : Fld Z h0 a1 "com/example/frontward/frontward/offline/Orderings" "swaps" "[I" .null) (g1 : n0 ≤ a1) :
    MetFree l (⟨"com/example/frontward/frontward/offline/Orderings", "<init>", "(I)V"⟩ : MethodName) (head1 (Jvm.Cond.code (⟨"com/example/frontward/frontward/offline/Orderings", "<init>", "(I)V"⟩ : MethodName) prog_26_method_1_code 9 none :: ws) ({ frames := 2, cells := 5, slots := 1095, locals := 60 } : Room)) (fun a U => a = #[(.ref a1), (.int (5 : Int32))] ∧ Z.Warmed39 U.vm ∧ U.heap = h0) (fun _ _ _ _ _ => True) (fun _ U o U' => ∃ v L, o = .returned v ∧ QC5 Z a1 h0 n0 v U'.heap L ∧ FrameEnd U o U' L ({ frames := 2, cells := 5, slots := 1095, locals := 60 } : Room).cells ({ frames := 2, cells := 5, slots := 1095, locals := 60 } : Room).slots) := by
  refine MetFree.of_bodySF (plainFor_of_name pn_0) hisR ?_
  intro p e s m args below meth c s₁ Bd hml0 hP hK
  obtain ⟨rfl, hZ, hh⟩ := hP
  have hx := Bd.exec
  have hby := Bd.bytes
  have hml : c.maxLocals = 9 := hml0
  have hown : s.vm.findClass "com/example/frontward/frontward/offline/Orderings" = some m.cls := findClass_of_methodNamed Bd.named
  have hnm := (name_of_methodNamed Bd.named Bd.method).1
  have X0 : Stand p l e ({ frames := 2, cells := 5, slots := 1095, locals := 60 } : Room) s m #[(.ref a1), (.int (5 : Int32))] below meth c s₁ [] 0 0 := Stand.of_body Bd
  have e0 : s₁.heap = h0 := by rw [← hh, Bd.state]; rfl
  have N0 := Fr.nil n0
  have pre0 : ∀ t, Steps p.tables e below (s₁.setTop (mkF m 0 #[.val (.ref a1), .val (.int (5 : Int32)), .unset, .unset, .unset, .unset, .unset, .unset, .unset] [])) t → Steps p.tables e below (s₁.setTop (entryFrame m #[(.ref a1), (.int (5 : Int32))] 9)) t := fun t k => castTop (ef_4 m a1 (5 : Int32)) k
  obtain ⟨T101, X101, e101, st101⟩ := initO X0 hx hZ hown (hw _ (List.mem_of_getElem? (i := 6) rfl)) (hw _ (List.mem_of_getElem? (i := 7) rfl)) (hw _ (List.mem_of_getElem? (i := 8) rfl)) e0 (g := (mkF m 1 #[.val (.ref a1), .val (.int (5 : Int32)), .unset, .unset, .unset, .unset, .unset, .unset, .unset] [(.ref a1)])) rfl (by rw [hml]; rfl) rfl (hb hby dc5_1) (by decide) (W := 0) (by show 2 * 0 + _ ≤ _; exact Nat.le_of_eq rfl) (by decide)
  obtain ⟨T102, h102, k102, X102, e102, E102, A102, st102⟩ := newP X101 hx hZ (hw _ (List.mem_of_getElem? (i := 9) rfl)) e101 (g := (mkF m 30 #[.val (.ref a1), .val (.int (5 : Int32)), .unset, .unset, .unset, .unset, .unset, .unset, .unset] [(.int (5 : Int32))])) rfl (hb hby dc5_30) rfl (by decide) (cap := 5) (by decide) (by decide) (by decide) (by decide)
  obtain ⟨b102, g102⟩ : ∃ z, z = h0.size := ⟨_, rfl⟩
  rw [← g102] at A102 st102
  have gb102 : n0 ≤ b102 := by rw [g102, ← O0.1]; exact O0.2.1
  have ne102_a1 : a1 ≠ b102 := by rw [g102]; exact Nat.ne_of_lt (E1).lt
  have sz102 : h0.size ≤ b102 := by rw [g102]; exact ((Keep.refl h0 [a1])).1
  have V102 : Arv Z h102 b102 k102 .int (5 : Int32) [(.int (0 : Int32)), (.int (0 : Int32)), (.int (0 : Int32)), (.int (0 : Int32)), (.int (0 : Int32))] (.int (0 : Int32)) := (Arv.new A102 (by decide)).pad (pad_rep [] (.int (0 : Int32)) 5)
  obtain ⟨cl103, Ar103, q103, S103, N103_, H103, G103⟩ := id V102
  have hin103 : ¬ ((4 : Int32) < 0 ∨ cl103.slots.size ≤ ((4 : Int32)).toNatClampNeg) := inb_of S103 ⟨by decide, by decide⟩
  obtain ⟨T104, h104, X104, e104, W104, st104⟩ := stI X102 hx hZ e102 Ar103 (j := (4 : Int32)) hin103 (g := (mkF m 49 #[.val (.ref a1), .val (.int (5 : Int32)), .val (.ref b102), .val (.int (1 : Int32)), .val (.int (4 : Int32)), .unset, .unset, .unset, .unset] [(.int (1 : Int32)), (.int (4 : Int32)), (.ref b102)])) rfl rfl (hb hby dc5_49)
  have V104 : Arv Z h104 b102 k102 .int (5 : Int32) [(.int (0 : Int32)), (.int (0 : Int32)), (.int (0 : Int32)), (.int (0 : Int32)), (.int (1 : Int32))] (.int (0 : Int32)) := Arv.set Ar103 q103 S103 N103_ H103 G103 rfl W104 4 rfl (Nat.le_of_ble_eq_true rfl)
  have N104 := Fr.snoc X104 N0 gb102
  obtain ⟨cl105, Ar105, q105, S105, N105_, H105, G105⟩ := id V104
  have hin105 : ¬ ((3 : Int32) < 0 ∨ cl105.slots.size ≤ ((3 : Int32)).toNatClampNeg) := inb_of S105 ⟨by decide, by decide⟩
  obtain ⟨T106, h106, X106, e106, W106, st106⟩ := stI X104 hx hZ e104 Ar105 (j := (3 : Int32)) hin105 (g := (mkF m 49 #[.val (.ref a1), .val (.int (5 : Int32)), .val (.ref b102), .val (.int (1 : Int32)), .val (.int (3 : Int32)), .unset, .unset, .unset, .unset] [(.int (1 : Int32)), (.int (3 : Int32)), (.ref b102)])) rfl rfl (hb hby dc5_49)
  have V106 : Arv Z h106 b102 k102 .int (5 : Int32) [(.int (0 : Int32)), (.int (0 : Int32)), (.int (0 : Int32)), (.int (1 : Int32)), (.int (1 : Int32))] (.int (0 : Int32)) := Arv.set Ar105 q105 S105 N105_ H105 G105 rfl W106 3 rfl (Nat.le_of_ble_eq_true rfl)
  have N106 := Fr.snoc X106 N104 gb102
  obtain ⟨cl107, Ar107, q107, S107, N107_, H107, G107⟩ := id V106
  have hin107 : ¬ ((2 : Int32) < 0 ∨ cl107.slots.size ≤ ((2 : Int32)).toNatClampNeg) := inb_of S107 ⟨by decide, by decide⟩
  obtain ⟨T108, h108, X108, e108, W108, st108⟩ := stI X106 hx hZ e106 Ar107 (j := (2 : Int32)) hin107 (g := (mkF m 49 #[.val (.ref a1), .val (.int (5 : Int32)), .val (.ref b102), .val (.int (2 : Int32)), .val (.int (2 : Int32)), .unset, .unset, .unset, .unset] [(.int (2 : Int32)), (.int (2 : Int32)), (.ref b102)])) rfl rfl (hb hby dc5_49)
  have V108 : Arv Z h108 b102 k102 .int (5 : Int32) [(.int (0 : Int32)), (.int (0 : Int32)), (.int (2 : Int32)), (.int (1 : Int32)), (.int (1 : Int32))] (.int (0 : Int32)) := Arv.set Ar107 q107 S107 N107_ H107 G107 rfl W108 2 rfl (Nat.le_of_ble_eq_true rfl)
  have N108 := Fr.snoc X108 N106 gb102
  obtain ⟨cl109, Ar109, q109, S109, N109_, H109, G109⟩ := id V108
  have hin109 : ¬ ((1 : Int32) < 0 ∨ cl109.slots.size ≤ ((1 : Int32)).toNatClampNeg) := inb_of S109 ⟨by decide, by decide⟩
  obtain ⟨T110, h110, X110, e110, W110, st110⟩ := stI X108 hx hZ e108 Ar109 (j := (1 : Int32)) hin109 (g := (mkF m 49 #[.val (.ref a1), .val (.int (5 : Int32)), .val (.ref b102), .val (.int (6 : Int32)), .val (.int (1 : Int32)), .unset, .unset, .unset, .unset] [(.int (6 : Int32)), (.int (1 : Int32)), (.ref b102)])) rfl rfl (hb hby dc5_49)
  have V110 : Arv Z h110 b102 k102 .int (5 : Int32) [(.int (0 : Int32)), (.int (6 : Int32)), (.int (2 : Int32)), (.int (1 : Int32)), (.int (1 : Int32))] (.int (0 : Int32)) := Arv.set Ar109 q109 S109 N109_ H109 G109 rfl W110 1 rfl (Nat.le_of_ble_eq_true rfl)
  have N110 := Fr.snoc X110 N108 gb102
  obtain ⟨cl111, Ar111, q111, S111, N111_, H111, G111⟩ := id V110
  have hin111 : ¬ ((0 : Int32) < 0 ∨ cl111.slots.size ≤ ((0 : Int32)).toNatClampNeg) := inb_of S111 ⟨by decide, by decide⟩
  obtain ⟨T112, h112, X112, e112, W112, st112⟩ := stI X110 hx hZ e110 Ar111 (j := (0 : Int32)) hin111 (g := (mkF m 49 #[.val (.ref a1), .val (.int (5 : Int32)), .val (.ref b102), .val (.int (24 : Int32)), .val (.int (0 : Int32)), .unset, .unset, .unset, .unset] [(.int (24 : Int32)), (.int (0 : Int32)), (.ref b102)])) rfl rfl (hb hby dc5_49)
  have V112 : Arv Z h112 b102 k102 .int (5 : Int32) [(.int (24 : Int32)), (.int (6 : Int32)), (.int (2 : Int32)), (.int (1 : Int32)), (.int (1 : Int32))] (.int (0 : Int32)) := Arv.set Ar111 q111 S111 N111_ H111 G111 rfl W112 0 rfl (Nat.le_of_ble_eq_true rfl)
  have N112 := Fr.snoc X112 N110 gb102
  have f113 := ((((((E1.ext E102).wr W104).wr W106).wr W108).wr W110).wr W112)
  have f114 := ((((((F_items.ext E102).other W104 (Or.inl ne102_a1)).other W106 (Or.inl ne102_a1)).other W108 (Or.inl ne102_a1)).other W110 (Or.inl ne102_a1)).other W112 (Or.inl ne102_a1))
  obtain ⟨T115, h115, X115, e115, W115, st115⟩ := putF X112 hx hZ hown (host := "") (Or.inl (hw _ (List.mem_of_getElem? (i := 10) rfl))) Via.refl e112 f114 f113 (Or.inr ⟨(hw _ (List.mem_of_getElem? (i := 11) rfl)), rfl, hnm⟩) (hw _ (List.mem_of_getElem? (i := 1) rfl)) (ty := .int) (by decide) rfl rfl (g := (mkF m 65 #[.val (.ref a1), .val (.int (5 : Int32)), .val (.ref b102), .val (.int (120 : Int32)), .val (.int (-1 : Int32)), .unset, .unset, .unset, .unset] [(.int (5 : Int32)), (.ref a1)])) rfl rfl (hb hby dc5_65)
  have Fw115 : Fld Z h115 a1 "com/example/frontward/frontward/offline/Orderings" "items" "I" (.int (5 : Int32)) := Fld.same W115 f114
  have N115 := Fr.snoc X115 N112 g1
  have f116 := (f113.wr W115)
  have f117 := (((((((F_count.ext E102).other W104 (Or.inl ne102_a1)).other W106 (Or.inl ne102_a1)).other W108 (Or.inl ne102_a1)).other W110 (Or.inl ne102_a1)).other W112 (Or.inl ne102_a1)).other W115 (Or.inr (slot_ne (Or.inr (hw _ (List.mem_of_getElem? (i := 13) rfl))) (Or.inr (hw _ (List.mem_of_getElem? (i := 11) rfl))) (by decide) (t := .int) (t' := .int) (by decide) (by decide))))
  obtain ⟨T118, h118, X118, e118, W118, st118⟩ := putF X115 hx hZ hown (host := "") (Or.inl (hw _ (List.mem_of_getElem? (i := 12) rfl))) Via.refl e115 f117 f116 (Or.inr ⟨(hw _ (List.mem_of_getElem? (i := 13) rfl)), rfl, hnm⟩) (hw _ (List.mem_of_getElem? (i := 1) rfl)) (ty := .int) (by decide) rfl rfl (g := (mkF m 70 #[.val (.ref a1), .val (.int (5 : Int32)), .val (.ref b102), .val (.int (120 : Int32)), .val (.int (-1 : Int32)), .unset, .unset, .unset, .unset] [(.int (120 : Int32)), (.ref a1)])) rfl rfl (hb hby dc5_70)
  have Fw118 : Fld Z h118 a1 "com/example/frontward/frontward/offline/Orderings" "count" "I" (.int (120 : Int32)) := Fld.same W118 f117
  have N118 := Fr.snoc X118 N115 g1
  obtain ⟨T119, X119, e119, st119⟩ := getF X118 hx hZ hown (host := "") (Or.inl (hw _ (List.mem_of_getElem? (i := 12) rfl))) Via.refl e118 Fw118 (g := (mkF m 76 #[.val (.ref a1), .val (.int (5 : Int32)), .val (.ref b102), .val (.int (120 : Int32)), .val (.int (-1 : Int32)), .unset, .unset, .unset, .unset] [(.ref a1), (.int (5 : Int32)), (.ref a1)])) rfl rfl (hb hby dc5_76)
  have O120 : Old Z n0 h118 := ((((((((O0.ext E102).wr W104 gb102).wr W106 gb102).wr W108 gb102).wr W110 gb102).wr W112 gb102).wr W115 g1).wr W118 g1)
  obtain ⟨T121, h121, k121, X121, e121, E121, A121, st121⟩ := newP X119 hx hZ (hw _ (List.mem_of_getElem? (i := 14) rfl)) e119 (g := (mkF m 80 #[.val (.ref a1), .val (.int (5 : Int32)), .val (.ref b102), .val (.int (120 : Int32)), .val (.int (-1 : Int32)), .unset, .unset, .unset, .unset] [(.int (600 : Int32)), (.ref a1)])) rfl (hb hby dc5_80) rfl (by decide) (cap := 600) (by decide) (by decide) (by decide) (by decide)
  obtain ⟨b121, g121⟩ : ∃ z, z = h118.size := ⟨_, rfl⟩
  rw [← g121] at A121 st121
  have gb121 : n0 ≤ b121 := by rw [g121, ← O120.1]; exact O120.2.1
  have f122 := (f116.wr W118)
  have ne121_a1 : a1 ≠ b121 := by rw [g121]; exact Nat.ne_of_lt (f122).lt
  have f123 := ((V112.other W115 (Ne.symm ne102_a1)).other W118 (Ne.symm ne102_a1))
  have ne121_b102 : b102 ≠ b121 := by rw [g121]; exact Nat.ne_of_lt (f123).lt
  have K124 : Keep h0 h118 [a1] := (Keep.wr (Keep.wr (Keep.wr (Keep.wr (Keep.wr (Keep.wr (Keep.wr (Keep.ext (Keep.refl h0 [a1]) E102) W104 (Or.inr sz102)) W106 (Or.inr sz102)) W108 (Or.inr sz102)) W110 (Or.inr sz102)) W112 (Or.inr sz102)) W115 (Or.inl (List.mem_of_getElem? (i := 0) rfl))) W118 (Or.inl (List.mem_of_getElem? (i := 0) rfl)))
  have sz121 : h0.size ≤ b121 := by rw [g121]; exact (K124).1
  have V121 : La Z h121 b121 .byte (600 : Int32) (List.replicate 600 0) := La.zero A121 (by decide) (by decide) rfl
  have f125 := (f122.ext E121)
  have f126 := (((((((((F_positions.ext E102).other W104 (Or.inl ne102_a1)).other W106 (Or.inl ne102_a1)).other W108 (Or.inl ne102_a1)).other W110 (Or.inl ne102_a1)).other W112 (Or.inl ne102_a1)).other W115 (Or.inr (slot_ne (Or.inr (hw _ (List.mem_of_getElem? (i := 16) rfl))) (Or.inr (hw _ (List.mem_of_getElem? (i := 11) rfl))) (by decide) (t := (.array .byte)) (t' := .int) (by decide) (by decide)))).other W118 (Or.inr (slot_ne (Or.inr (hw _ (List.mem_of_getElem? (i := 16) rfl))) (Or.inr (hw _ (List.mem_of_getElem? (i := 13) rfl))) (by decide) (t := (.array .byte)) (t' := .int) (by decide) (by decide)))).ext E121)
  obtain ⟨T127, h127, X127, e127, W127, st127⟩ := putF X121 hx hZ hown (host := "") (Or.inl (hw _ (List.mem_of_getElem? (i := 15) rfl))) Via.refl e121 f126 f125 (Or.inr ⟨(hw _ (List.mem_of_getElem? (i := 16) rfl)), rfl, hnm⟩) (hw _ (List.mem_of_getElem? (i := 1) rfl)) (ty := (.array .byte)) (by decide) rfl rfl (g := (mkF m 82 #[.val (.ref a1), .val (.int (5 : Int32)), .val (.ref b102), .val (.int (120 : Int32)), .val (.int (-1 : Int32)), .unset, .unset, .unset, .unset] [(.ref b121), (.ref a1)])) rfl rfl (hb hby dc5_82)
  have Fw127 : Fld Z h127 a1 "com/example/frontward/frontward/offline/Orderings" "positions" "[B" (.ref b121) := Fld.same W127 f126
  have N127 := Fr.snoc X127 N118 g1
  have f128 := ((Fw118.ext E121).other W127 (Or.inr (slot_ne (Or.inr (hw _ (List.mem_of_getElem? (i := 13) rfl))) (Or.inr (hw _ (List.mem_of_getElem? (i := 16) rfl))) (by decide) (t := .int) (t' := (.array .byte)) (by decide) (by decide))))
  obtain ⟨T129, X129, e129, st129⟩ := getF X127 hx hZ hown (host := "") (Or.inl (hw _ (List.mem_of_getElem? (i := 12) rfl))) Via.refl e127 f128 (g := (mkF m 90 #[.val (.ref a1), .val (.int (5 : Int32)), .val (.ref b102), .val (.int (120 : Int32)), .val (.int (-1 : Int32)), .unset, .unset, .unset, .unset] [(.ref a1), (.int (4 : Int32)), (.ref a1)])) rfl rfl (hb hby dc5_90)
  have O130 : Old Z n0 h127 := ((O120.ext E121).wr W127 g1)
  obtain ⟨T131, h131, k131, X131, e131, E131, A131, st131⟩ := newP X129 hx hZ (hw _ (List.mem_of_getElem? (i := 9) rfl)) e129 (g := (mkF m 94 #[.val (.ref a1), .val (.int (5 : Int32)), .val (.ref b102), .val (.int (120 : Int32)), .val (.int (-1 : Int32)), .unset, .unset, .unset, .unset] [(.int (480 : Int32)), (.ref a1)])) rfl (hb hby dc5_94) rfl (by decide) (cap := 480) (by decide) (by decide) (by decide) (by decide)
  obtain ⟨b131, g131⟩ : ∃ z, z = h127.size := ⟨_, rfl⟩
  rw [← g131] at A131 st131
  have gb131 : n0 ≤ b131 := by rw [g131, ← O130.1]; exact O130.2.1
  have f132 := (f125.wr W127)
  have ne131_a1 : a1 ≠ b131 := by rw [g131]; exact Nat.ne_of_lt (f132).lt
  have f133 := ((f123.ext E121).other W127 (Ne.symm ne102_a1))
  have ne131_b102 : b102 ≠ b131 := by rw [g131]; exact Nat.ne_of_lt (f133).lt
  have f134 := (V121.other W127 (Ne.symm ne121_a1))
  have ne131_b121 : b121 ≠ b131 := by rw [g131]; exact Nat.ne_of_lt (f134).lt
  have K135 : Keep h0 h127 [a1] := (Keep.wr (Keep.ext K124 E121) W127 (Or.inl (List.mem_of_getElem? (i := 0) rfl)))
  have sz131 : h0.size ≤ b131 := by rw [g131]; exact (K135).1
  have V131 : La Z h131 b131 .int (480 : Int32) (List.replicate 480 0) := La.zero A131 (by decide) (by decide) rfl
  have f136 := (f132.ext E131)
  have f137 := (((((((((((F_swaps.ext E102).other W104 (Or.inl ne102_a1)).other W106 (Or.inl ne102_a1)).other W108 (Or.inl ne102_a1)).other W110 (Or.inl ne102_a1)).other W112 (Or.inl ne102_a1)).other W115 (Or.inr (slot_ne (Or.inr (hw _ (List.mem_of_getElem? (i := 18) rfl))) (Or.inr (hw _ (List.mem_of_getElem? (i := 11) rfl))) (by decide) (t := (.array .int)) (t' := .int) (by decide) (by decide)))).other W118 (Or.inr (slot_ne (Or.inr (hw _ (List.mem_of_getElem? (i := 18) rfl))) (Or.inr (hw _ (List.mem_of_getElem? (i := 13) rfl))) (by decide) (t := (.array .int)) (t' := .int) (by decide) (by decide)))).ext E121).other W127 (Or.inr (slot_ne (Or.inr (hw _ (List.mem_of_getElem? (i := 18) rfl))) (Or.inr (hw _ (List.mem_of_getElem? (i := 16) rfl))) (by decide) (t := (.array .int)) (t' := (.array .byte)) (by decide) (by decide)))).ext E131)
  obtain ⟨T138, h138, X138, e138, W138, st138⟩ := putF X131 hx hZ hown (host := "") (Or.inl (hw _ (List.mem_of_getElem? (i := 17) rfl))) Via.refl e131 f137 f136 (Or.inr ⟨(hw _ (List.mem_of_getElem? (i := 18) rfl)), rfl, hnm⟩) (hw _ (List.mem_of_getElem? (i := 1) rfl)) (ty := (.array .int)) (by decide) rfl rfl (g := (mkF m 96 #[.val (.ref a1), .val (.int (5 : Int32)), .val (.ref b102), .val (.int (120 : Int32)), .val (.int (-1 : Int32)), .unset, .unset, .unset, .unset] [(.ref b131), (.ref a1)])) rfl rfl (hb hby dc5_96)
  have Fw138 : Fld Z h138 a1 "com/example/frontward/frontward/offline/Orderings" "swaps" "[I" (.ref b131) := Fld.same W138 f137
  have N138 := Fr.snoc X138 N127 g1
  have O139 : Old Z n0 h138 := ((O130.ext E131).wr W138 g1)
  obtain ⟨T140, h140, k140, X140, e140, E140, A140, st140⟩ := newP X138 hx hZ (hw _ (List.mem_of_getElem? (i := 9) rfl)) e138 (g := (mkF m 100 #[.val (.ref a1), .val (.int (5 : Int32)), .val (.ref b102), .val (.int (120 : Int32)), .val (.int (-1 : Int32)), .unset, .unset, .unset, .unset] [(.int (5 : Int32))])) rfl (hb hby dc5_100) rfl (by decide) (cap := 5) (by decide) (by decide) (by decide) (by decide)
  obtain ⟨b140, g140⟩ : ∃ z, z = h138.size := ⟨_, rfl⟩
  rw [← g140] at A140 st140
  have gb140 : n0 ≤ b140 := by rw [g140, ← O139.1]; exact O139.2.1
  have f141 := (f136.wr W138)
  have ne140_a1 : a1 ≠ b140 := by rw [g140]; exact Nat.ne_of_lt (f141).lt
  have f142 := ((f133.ext E131).other W138 (Ne.symm ne102_a1))
  have ne140_b102 : b102 ≠ b140 := by rw [g140]; exact Nat.ne_of_lt (f142).lt
  have f143 := ((f134.ext E131).other W138 (Ne.symm ne121_a1))
  have ne140_b121 : b121 ≠ b140 := by rw [g140]; exact Nat.ne_of_lt (f143).lt
  have f144 := (V131.other W138 (Ne.symm ne131_a1))
  have ne140_b131 : b131 ≠ b140 := by rw [g140]; exact Nat.ne_of_lt (f144).lt
  have K145 : Keep h0 h138 [a1] := (Keep.wr (Keep.ext K135 E131) W138 (Or.inl (List.mem_of_getElem? (i := 0) rfl)))
  have sz140 : h0.size ≤ b140 := by rw [g140]; exact (K145).1
  have V140 : Arv Z h140 b140 k140 .int (5 : Int32) [(.int (0 : Int32)), (.int (0 : Int32)), (.int (0 : Int32)), (.int (0 : Int32)), (.int (0 : Int32))] (.int (0 : Int32)) := (Arv.new A140 (by decide)).pad (pad_rep [] (.int (0 : Int32)) 5)
  have O146 : Old Z n0 h140 := (O139.ext E140)
  obtain ⟨T147, h147, k147, X147, e147, E147, A147, st147⟩ := newP X140 hx hZ (hw _ (List.mem_of_getElem? (i := 9) rfl)) e140 (g := (mkF m 105 #[.val (.ref a1), .val (.int (5 : Int32)), .val (.ref b102), .val (.int (120 : Int32)), .val (.ref b140), .unset, .unset, .unset, .unset] [(.int (5 : Int32))])) rfl (hb hby dc5_105) rfl (by decide) (cap := 5) (by decide) (by decide) (by decide) (by decide)
  obtain ⟨b147, g147⟩ : ∃ z, z = h140.size := ⟨_, rfl⟩
  rw [← g147] at A147 st147
  have gb147 : n0 ≤ b147 := by rw [g147, ← O146.1]; exact O146.2.1
  have f148 := (f141.ext E140)
  have ne147_a1 : a1 ≠ b147 := by rw [g147]; exact Nat.ne_of_lt (f148).lt
  have f149 := (f142.ext E140)
  have ne147_b102 : b102 ≠ b147 := by rw [g147]; exact Nat.ne_of_lt (f149).lt
  have f150 := (f143.ext E140)
  have ne147_b121 : b121 ≠ b147 := by rw [g147]; exact Nat.ne_of_lt (f150).lt
  have f151 := (f144.ext E140)
  have ne147_b131 : b131 ≠ b147 := by rw [g147]; exact Nat.ne_of_lt (f151).lt
  have ne147_b140 : b140 ≠ b147 := by rw [g147]; exact Nat.ne_of_lt (V140).lt
  have K152 : Keep h0 h140 [a1] := (Keep.ext K145 E140)
  have sz147 : h0.size ≤ b147 := by rw [g147]; exact (K152).1
  have V147 : Arv Z h147 b147 k147 .int (5 : Int32) [(.int (0 : Int32)), (.int (0 : Int32)), (.int (0 : Int32)), (.int (0 : Int32)), (.int (0 : Int32))] (.int (0 : Int32)) := (Arv.new A147 (by decide)).pad (pad_rep [] (.int (0 : Int32)) 5)
  have pre153 : ∀ t, Steps p.tables e below (T147.setTop (mkF m 112 #[.val (.ref a1), .val (.int (5 : Int32)), .val (.ref b102), .val (.int (120 : Int32)), .val (.ref b140), .val (.ref b147), .val (.int (0 : Int32)), .unset, .unset] [])) t → Steps p.tables e below (s₁.setTop (entryFrame m #[(.ref a1), (.int (5 : Int32))] 9)) t := fun t kt => pre0 t (by
      show Steps p.tables e below (s₁.setTop (mkF m 0 #[.val (.ref a1), .val (.int (5 : Int32)), .unset, .unset, .unset, .unset, .unset, .unset, .unset] [])) _
      refine XS.aloadN X0.here hx rfl (hb hby dc5_0) rfl rfl ?_
      refine st101 _ ?_
      refine XS.iloadN X101.here hx rfl (hb hby dc5_4) rfl ?_
      refine XS.iconst X101.here hx rfl (hb hby dc5_5) ?_
      show Steps p.tables e below (T101.setTop (mkF m 6 #[.val (.ref a1), .val (.int (5 : Int32)), .unset, .unset, .unset, .unset, .unset, .unset, .unset] [(.int (1 : Int32)), (.int (5 : Int32))])) _
      refine XS.icmpNo X101.here hx rfl (hb hby dc5_6) rfl (by decide) ?_
      refine XS.iloadN X101.here hx rfl (hb hby dc5_9) rfl ?_
      refine XS.bipush X101.here hx rfl (hb hby dc5_10) ?_
      show Steps p.tables e below (T101.setTop (mkF m 12 #[.val (.ref a1), .val (.int (5 : Int32)), .unset, .unset, .unset, .unset, .unset, .unset, .unset] [(.int (10 : Int32)), (.int (5 : Int32))])) _
      refine XS.icmpYes X101.here hx rfl (pc0 := 12) (pc' := 29) rfl (hb hby dc5_12) rfl (by decide) (by decide) (by decide) ?_
      refine XS.iloadN X101.here hx rfl (hb hby dc5_29) rfl ?_
      refine st102 _ ?_
      refine XS.astoreN X102.here hx rfl (hb hby dc5_32) rfl rfl (l' := #[.val (.ref a1), .val (.int (5 : Int32)), .val (.ref b102), .unset, .unset, .unset, .unset, .unset, .unset]) rfl ?_
      refine XS.iconst X102.here hx rfl (hb hby dc5_33) ?_
      refine XS.istoreN X102.here hx rfl (hb hby dc5_34) rfl (l' := #[.val (.ref a1), .val (.int (5 : Int32)), .val (.ref b102), .val (.int (1 : Int32)), .unset, .unset, .unset, .unset, .unset]) rfl ?_
      refine XS.iloadN X102.here hx rfl (hb hby dc5_35) rfl ?_
      refine XS.iconst X102.here hx rfl (hb hby dc5_36) ?_
      refine XS.isub X102.here hx rfl (hb hby dc5_37) rfl ?_
      refine XS.istore X102.here hx rfl (hb hby dc5_38) rfl (l' := #[.val (.ref a1), .val (.int (5 : Int32)), .val (.ref b102), .val (.int (1 : Int32)), .val (.int (4 : Int32)), .unset, .unset, .unset, .unset]) rfl ?_
      refine XS.iload X102.here hx rfl (hb hby dc5_40) rfl ?_
      show Steps p.tables e below (T102.setTop (mkF m 42 #[.val (.ref a1), .val (.int (5 : Int32)), .val (.ref b102), .val (.int (1 : Int32)), .val (.int (4 : Int32)), .unset, .unset, .unset, .unset] [(.int (4 : Int32))])) _
      refine XS.ifNo X102.here hx rfl (hb hby dc5_42) rfl (by decide) ?_
      refine XS.aloadN X102.here hx rfl (hb hby dc5_45) rfl rfl ?_
      refine XS.iload X102.here hx rfl (hb hby dc5_46) rfl ?_
      refine XS.iloadN X102.here hx rfl (hb hby dc5_48) rfl ?_
      refine st104 _ ?_
      refine XS.iloadN X104.here hx rfl (hb hby dc5_50) rfl ?_
      show Steps p.tables e below (T104.setTop (mkF m 51 #[.val (.ref a1), .val (.int (5 : Int32)), .val (.ref b102), .val (.int (1 : Int32)), .val (.int (4 : Int32)), .unset, .unset, .unset, .unset] [(.int (1 : Int32))])) _
      refine XS.iloadN X104.here hx rfl (hb hby dc5_51) rfl ?_
      refine XS.iload X104.here hx rfl (hb hby dc5_52) rfl ?_
      refine XS.isub X104.here hx rfl (hb hby dc5_54) rfl ?_
      refine XS.imul X104.here hx rfl (hb hby dc5_55) rfl ?_
      refine XS.istoreN X104.here hx rfl (hb hby dc5_56) rfl (l' := #[.val (.ref a1), .val (.int (5 : Int32)), .val (.ref b102), .val (.int (1 : Int32)), .val (.int (4 : Int32)), .unset, .unset, .unset, .unset]) rfl ?_
      refine XS.iinc X104.here hx rfl (hb hby dc5_57) rfl (l' := #[.val (.ref a1), .val (.int (5 : Int32)), .val (.ref b102), .val (.int (1 : Int32)), .val (.int (3 : Int32)), .unset, .unset, .unset, .unset]) rfl ?_
      refine XS.goto X104.here hx rfl (pc0 := 60) (pc' := 40) rfl (hb hby dc5_60) (by decide) (by decide) ?_
      refine XS.iload X104.here hx rfl (hb hby dc5_40) rfl ?_
      show Steps p.tables e below (T104.setTop (mkF m 42 #[.val (.ref a1), .val (.int (5 : Int32)), .val (.ref b102), .val (.int (1 : Int32)), .val (.int (3 : Int32)), .unset, .unset, .unset, .unset] [(.int (3 : Int32))])) _
      refine XS.ifNo X104.here hx rfl (hb hby dc5_42) rfl (by decide) ?_
      refine XS.aloadN X104.here hx rfl (hb hby dc5_45) rfl rfl ?_
      refine XS.iload X104.here hx rfl (hb hby dc5_46) rfl ?_
      refine XS.iloadN X104.here hx rfl (hb hby dc5_48) rfl ?_
      refine st106 _ ?_
      refine XS.iloadN X106.here hx rfl (hb hby dc5_50) rfl ?_
      refine XS.iloadN X106.here hx rfl (hb hby dc5_51) rfl ?_
      refine XS.iload X106.here hx rfl (hb hby dc5_52) rfl ?_
      refine XS.isub X106.here hx rfl (hb hby dc5_54) rfl ?_
      refine XS.imul X106.here hx rfl (hb hby dc5_55) rfl ?_
      refine XS.istoreN X106.here hx rfl (hb hby dc5_56) rfl (l' := #[.val (.ref a1), .val (.int (5 : Int32)), .val (.ref b102), .val (.int (2 : Int32)), .val (.int (3 : Int32)), .unset, .unset, .unset, .unset]) rfl ?_
      refine XS.iinc X106.here hx rfl (hb hby dc5_57) rfl (l' := #[.val (.ref a1), .val (.int (5 : Int32)), .val (.ref b102), .val (.int (2 : Int32)), .val (.int (2 : Int32)), .unset, .unset, .unset, .unset]) rfl ?_
      refine XS.goto X106.here hx rfl (pc0 := 60) (pc' := 40) rfl (hb hby dc5_60) (by decide) (by decide) ?_
      refine XS.iload X106.here hx rfl (hb hby dc5_40) rfl ?_
      show Steps p.tables e below (T106.setTop (mkF m 42 #[.val (.ref a1), .val (.int (5 : Int32)), .val (.ref b102), .val (.int (2 : Int32)), .val (.int (2 : Int32)), .unset, .unset, .unset, .unset] [(.int (2 : Int32))])) _
      refine XS.ifNo X106.here hx rfl (hb hby dc5_42) rfl (by decide) ?_
      refine XS.aloadN X106.here hx rfl (hb hby dc5_45) rfl rfl ?_
      refine XS.iload X106.here hx rfl (hb hby dc5_46) rfl ?_
      show Steps p.tables e below (T106.setTop (mkF m 48 #[.val (.ref a1), .val (.int (5 : Int32)), .val (.ref b102), .val (.int (2 : Int32)), .val (.int (2 : Int32)), .unset, .unset, .unset, .unset] [(.int (2 : Int32)), (.ref b102)])) _
      refine XS.iloadN X106.here hx rfl (hb hby dc5_48) rfl ?_
      refine st108 _ ?_
      refine XS.iloadN X108.here hx rfl (hb hby dc5_50) rfl ?_
      refine XS.iloadN X108.here hx rfl (hb hby dc5_51) rfl ?_
      refine XS.iload X108.here hx rfl (hb hby dc5_52) rfl ?_
      refine XS.isub X108.here hx rfl (hb hby dc5_54) rfl ?_
      refine XS.imul X108.here hx rfl (hb hby dc5_55) rfl ?_
      refine XS.istoreN X108.here hx rfl (hb hby dc5_56) rfl (l' := #[.val (.ref a1), .val (.int (5 : Int32)), .val (.ref b102), .val (.int (6 : Int32)), .val (.int (2 : Int32)), .unset, .unset, .unset, .unset]) rfl ?_
      refine XS.iinc X108.here hx rfl (hb hby dc5_57) rfl (l' := #[.val (.ref a1), .val (.int (5 : Int32)), .val (.ref b102), .val (.int (6 : Int32)), .val (.int (1 : Int32)), .unset, .unset, .unset, .unset]) rfl ?_
      refine XS.goto X108.here hx rfl (pc0 := 60) (pc' := 40) rfl (hb hby dc5_60) (by decide) (by decide) ?_
      refine XS.iload X108.here hx rfl (hb hby dc5_40) rfl ?_
      show Steps p.tables e below (T108.setTop (mkF m 42 #[.val (.ref a1), .val (.int (5 : Int32)), .val (.ref b102), .val (.int (6 : Int32)), .val (.int (1 : Int32)), .unset, .unset, .unset, .unset] [(.int (1 : Int32))])) _
      refine XS.ifNo X108.here hx rfl (hb hby dc5_42) rfl (by decide) ?_
      refine XS.aloadN X108.here hx rfl (hb hby dc5_45) rfl rfl ?_
      refine XS.iload X108.here hx rfl (hb hby dc5_46) rfl ?_
      refine XS.iloadN X108.here hx rfl (hb hby dc5_48) rfl ?_
      refine st110 _ ?_
      refine XS.iloadN X110.here hx rfl (hb hby dc5_50) rfl ?_
      refine XS.iloadN X110.here hx rfl (hb hby dc5_51) rfl ?_
      refine XS.iload X110.here hx rfl (hb hby dc5_52) rfl ?_
      refine XS.isub X110.here hx rfl (hb hby dc5_54) rfl ?_
      refine XS.imul X110.here hx rfl (hb hby dc5_55) rfl ?_
      refine XS.istoreN X110.here hx rfl (hb hby dc5_56) rfl (l' := #[.val (.ref a1), .val (.int (5 : Int32)), .val (.ref b102), .val (.int (24 : Int32)), .val (.int (1 : Int32)), .unset, .unset, .unset, .unset]) rfl ?_
      refine XS.iinc X110.here hx rfl (hb hby dc5_57) rfl (l' := #[.val (.ref a1), .val (.int (5 : Int32)), .val (.ref b102), .val (.int (24 : Int32)), .val (.int (0 : Int32)), .unset, .unset, .unset, .unset]) rfl ?_
      refine XS.goto X110.here hx rfl (pc0 := 60) (pc' := 40) rfl (hb hby dc5_60) (by decide) (by decide) ?_
      refine XS.iload X110.here hx rfl (hb hby dc5_40) rfl ?_
      show Steps p.tables e below (T110.setTop (mkF m 42 #[.val (.ref a1), .val (.int (5 : Int32)), .val (.ref b102), .val (.int (24 : Int32)), .val (.int (0 : Int32)), .unset, .unset, .unset, .unset] [(.int (0 : Int32))])) _
      refine XS.ifNo X110.here hx rfl (hb hby dc5_42) rfl (by decide) ?_
      refine XS.aloadN X110.here hx rfl (hb hby dc5_45) rfl rfl ?_
      refine XS.iload X110.here hx rfl (hb hby dc5_46) rfl ?_
      refine XS.iloadN X110.here hx rfl (hb hby dc5_48) rfl ?_
      refine st112 _ ?_
      refine XS.iloadN X112.here hx rfl (hb hby dc5_50) rfl ?_
      refine XS.iloadN X112.here hx rfl (hb hby dc5_51) rfl ?_
      refine XS.iload X112.here hx rfl (hb hby dc5_52) rfl ?_
      refine XS.isub X112.here hx rfl (hb hby dc5_54) rfl ?_
      refine XS.imul X112.here hx rfl (hb hby dc5_55) rfl ?_
      refine XS.istoreN X112.here hx rfl (hb hby dc5_56) rfl (l' := #[.val (.ref a1), .val (.int (5 : Int32)), .val (.ref b102), .val (.int (120 : Int32)), .val (.int (0 : Int32)), .unset, .unset, .unset, .unset]) rfl ?_
      refine XS.iinc X112.here hx rfl (hb hby dc5_57) rfl (l' := #[.val (.ref a1), .val (.int (5 : Int32)), .val (.ref b102), .val (.int (120 : Int32)), .val (.int (-1 : Int32)), .unset, .unset, .unset, .unset]) rfl ?_
      refine XS.goto X112.here hx rfl (pc0 := 60) (pc' := 40) rfl (hb hby dc5_60) (by decide) (by decide) ?_
      refine XS.iload X112.here hx rfl (hb hby dc5_40) rfl ?_
      show Steps p.tables e below (T112.setTop (mkF m 42 #[.val (.ref a1), .val (.int (5 : Int32)), .val (.ref b102), .val (.int (120 : Int32)), .val (.int (-1 : Int32)), .unset, .unset, .unset, .unset] [(.int (-1 : Int32))])) _
      refine XS.ifYes X112.here hx rfl (pc0 := 42) (pc' := 63) rfl (hb hby dc5_42) rfl (by decide) (by decide) (by decide) ?_
      refine XS.aloadN X112.here hx rfl (hb hby dc5_63) rfl rfl ?_
      refine XS.iloadN X112.here hx rfl (hb hby dc5_64) rfl ?_
      refine st115 _ ?_
      refine XS.aloadN X115.here hx rfl (hb hby dc5_68) rfl rfl ?_
      refine XS.iloadN X115.here hx rfl (hb hby dc5_69) rfl ?_
      refine st118 _ ?_
      refine XS.aloadN X118.here hx rfl (hb hby dc5_73) rfl rfl ?_
      refine XS.iloadN X118.here hx rfl (hb hby dc5_74) rfl ?_
      refine XS.aloadN X118.here hx rfl (hb hby dc5_75) rfl rfl ?_
      refine st119 _ ?_
      show Steps p.tables e below (T119.setTop (mkF m 79 #[.val (.ref a1), .val (.int (5 : Int32)), .val (.ref b102), .val (.int (120 : Int32)), .val (.int (-1 : Int32)), .unset, .unset, .unset, .unset] [(.int (120 : Int32)), (.int (5 : Int32)), (.ref a1)])) _
      refine XS.imul X119.here hx rfl (hb hby dc5_79) rfl ?_
      refine st121 _ ?_
      refine st127 _ ?_
      refine XS.aloadN X127.here hx rfl (hb hby dc5_85) rfl rfl ?_
      refine XS.iloadN X127.here hx rfl (hb hby dc5_86) rfl ?_
      refine XS.iconst X127.here hx rfl (hb hby dc5_87) ?_
      refine XS.isub X127.here hx rfl (hb hby dc5_88) rfl ?_
      refine XS.aloadN X127.here hx rfl (hb hby dc5_89) rfl rfl ?_
      refine st129 _ ?_
      refine XS.imul X129.here hx rfl (hb hby dc5_93) rfl ?_
      refine st131 _ ?_
      refine st138 _ ?_
      refine XS.iloadN X138.here hx rfl (hb hby dc5_99) rfl ?_
      refine st140 _ ?_
      refine XS.astore X140.here hx rfl (hb hby dc5_102) rfl rfl (l' := #[.val (.ref a1), .val (.int (5 : Int32)), .val (.ref b102), .val (.int (120 : Int32)), .val (.ref b140), .unset, .unset, .unset, .unset]) rfl ?_
      refine XS.iloadN X140.here hx rfl (hb hby dc5_104) rfl ?_
      refine st147 _ ?_
      refine XS.astore X147.here hx rfl (hb hby dc5_107) rfl rfl (l' := #[.val (.ref a1), .val (.int (5 : Int32)), .val (.ref b102), .val (.int (120 : Int32)), .val (.ref b140), .val (.ref b147), .unset, .unset, .unset]) rfl ?_
      refine XS.iconst X147.here hx rfl (hb hby dc5_109) ?_
      refine XS.istore X147.here hx rfl (hb hby dc5_110) rfl (l' := #[.val (.ref a1), .val (.int (5 : Int32)), .val (.ref b102), .val (.int (120 : Int32)), .val (.ref b140), .val (.ref b147), .val (.int (0 : Int32)), .unset, .unset]) rfl ?_
      exact kt)
  have f154 := (f148.ext E147)
  have f155 := (((((((Fw115.other W118 (Or.inr (slot_ne (Or.inr (hw _ (List.mem_of_getElem? (i := 11) rfl))) (Or.inr (hw _ (List.mem_of_getElem? (i := 13) rfl))) (by decide) (t := .int) (t' := .int) (by decide) (by decide)))).ext E121).other W127 (Or.inr (slot_ne (Or.inr (hw _ (List.mem_of_getElem? (i := 11) rfl))) (Or.inr (hw _ (List.mem_of_getElem? (i := 16) rfl))) (by decide) (t := .int) (t' := (.array .byte)) (by decide) (by decide)))).ext E131).other W138 (Or.inr (slot_ne (Or.inr (hw _ (List.mem_of_getElem? (i := 11) rfl))) (Or.inr (hw _ (List.mem_of_getElem? (i := 18) rfl))) (by decide) (t := .int) (t' := (.array .int)) (by decide) (by decide)))).ext E140).ext E147)
  have f156 := ((((f128.ext E131).other W138 (Or.inr (slot_ne (Or.inr (hw _ (List.mem_of_getElem? (i := 13) rfl))) (Or.inr (hw _ (List.mem_of_getElem? (i := 18) rfl))) (by decide) (t := .int) (t' := (.array .int)) (by decide) (by decide)))).ext E140).ext E147)
  have f157 := ((((Fw127.ext E131).other W138 (Or.inr (slot_ne (Or.inr (hw _ (List.mem_of_getElem? (i := 16) rfl))) (Or.inr (hw _ (List.mem_of_getElem? (i := 18) rfl))) (by decide) (t := (.array .byte)) (t' := (.array .int)) (by decide) (by decide)))).ext E140).ext E147)
  have f158 := ((Fw138.ext E140).ext E147)
  have f159 := (f149.ext E147)
  have f160 := (V140.ext E147)
  have f161 := (f150.ext E147)
  have f162 := (f151.ext E147)
  have O163 : Old Z n0 h147 := (O146.ext E147)
  have K164 : Keep h0 h147 [a1] := (Keep.ext K152 E147)
  obtain ⟨TL, hL, LL, x7, x8, XL, eL, NL, OL, KL, EoL, FiL, FcL, FpL, FsL, LpL, LsL, stL⟩ := lp5 a1 b102 b121 b131 b140 b147 k102 k140 k147 hx hZ hw hby hml hown ne102_a1 ne121_a1 ne131_a1 ne140_a1 ne147_a1 ne121_b102 ne131_b102 ne140_b102 ne147_b102 ne131_b121 ne140_b121 ne147_b121 ne140_b131 ne147_b131 ne147_b140 gb121 gb131 gb140 gb147 120 0 _ _ _ _ _ rfl X147 e147 N138 O163 One.u One.u f154 f155 f156 f157 f158 f159 f160 ⟨_, _, _, _, _, V147⟩ f161 f162
  rw [own_PE5] at LpL
  rw [own_SE5] at LsL
  obtain ⟨fs, hr, hrun, hended, hW, hsame⟩ := XL.leave (v := none) (fun _ => rfl)
  have K165 : Keep h0 hL [a1] := (Keep.trans K164 KL (allS (P := fun x => x ∈ [a1] ∨ h0.size ≤ x) (Or.inr sz121) (allS (P := fun x => x ∈ [a1] ∨ h0.size ≤ x) (Or.inr sz131) (allS (P := fun x => x ∈ [a1] ∨ h0.size ≤ x) (Or.inr sz140) (allS (P := fun x => x ∈ [a1] ∨ h0.size ≤ x) (Or.inr sz147) all0)))))
  refine ⟨_, _, pre153 _ ?_, hrun, hended, _, _, rfl, ?_, ⟨_, rfl⟩, hW, hsame.mono (by decide) (by decide)⟩
  · skip
    refine stL _ ?_
    show Steps p.tables e below (TL.setTop (mkF m 312 #[.val (.ref a1), .val (.int (5 : Int32)), .val (.ref b102), .val (.int (120 : Int32)), .val (.ref b140), .val (.ref b147), .val (.int (120 : Int32)), x7, x8] [])) _
    exact XL.returnOut hx Bd.returns (hb hby dc5_312) hr
  · show QC5 Z a1 h0 n0 _ TL.heap _
    rw [eL]
    exact ⟨rfl, NL, K165, b121, b131, EoL, FiL, FcL, FpL, FsL, LpL, LsL⟩
def own_W5 (q f : Int32) : Prop := ¬ ((own_SL5.getD ((q * ((5 : Int32) - (1 : Int32))) + f).toNatClampNeg 0) < (0 : Int32)) ∧ (own_SL5.getD ((q * ((5 : Int32) - (1 : Int32))) + f).toNatClampNeg 0) < (120 : Int32) ∧ own_mv (own_PL5.getD ((((0 : Int32) * (120 : Int32)) + q)).toNatClampNeg 0) (own_PL5.getD ((((0 : Int32) * (120 : Int32)) + (own_SL5.getD ((q * ((5 : Int32) - (1 : Int32))) + f).toNatClampNeg 0))).toNatClampNeg 0) f = 1 ∧ own_mv (own_PL5.getD ((((1 : Int32) * (120 : Int32)) + q)).toNatClampNeg 0) (own_PL5.getD ((((1 : Int32) * (120 : Int32)) + (own_SL5.getD ((q * ((5 : Int32) - (1 : Int32))) + f).toNatClampNeg 0))).toNatClampNeg 0) f = 1 ∧ own_mv (own_PL5.getD ((((2 : Int32) * (120 : Int32)) + q)).toNatClampNeg 0) (own_PL5.getD ((((2 : Int32) * (120 : Int32)) + (own_SL5.getD ((q * ((5 : Int32) - (1 : Int32))) + f).toNatClampNeg 0))).toNatClampNeg 0) f = 1 ∧ own_mv (own_PL5.getD ((((3 : Int32) * (120 : Int32)) + q)).toNatClampNeg 0) (own_PL5.getD ((((3 : Int32) * (120 : Int32)) + (own_SL5.getD ((q * ((5 : Int32) - (1 : Int32))) + f).toNatClampNeg 0))).toNatClampNeg 0) f = 1 ∧ own_mv (own_PL5.getD ((((4 : Int32) * (120 : Int32)) + q)).toNatClampNeg 0) (own_PL5.getD ((((4 : Int32) * (120 : Int32)) + (own_SL5.getD ((q * ((5 : Int32) - (1 : Int32))) + f).toNatClampNeg 0))).toNatClampNeg 0) f = 1
instance (q f : Int32) : Decidable (own_W5 q f) := by unfold own_W5; infer_instance
set_option maxRecDepth 65536 in
theorem own_w5 : ∀ k : Fin 120, ∀ f : Fin 4, own_W5 (Int32.ofNat k.val) (Int32.ofNat f.val) := by decide +kernel
theorem own_rem1 (x : Int32) : ∃ k : Fin 1, ((x &&& (2147483647 : Int32)) % (1 : Int32)) = Int32.ofNat k.val := by
  have h1 := c_mask x 2147483647 31 (by decide) (by decide)
  have h2 := (c_irem (x &&& 2147483647) 1 1 (by decide)).1 (by omega)
  refine ⟨⟨((x &&& 2147483647) % (1 : Int32)).toInt.toNat, by omega⟩, ?_⟩
  apply Int32.toInt_inj.mp
  rw [own_ofNat (by show _ < 200; omega)]; show _ = ((((x &&& 2147483647) % (1 : Int32)).toInt.toNat : Nat) : Int); omega
theorem own_rem2 (x : Int32) : ∃ k : Fin 2, ((x &&& (2147483647 : Int32)) % (2 : Int32)) = Int32.ofNat k.val := by
  have h1 := c_mask x 2147483647 31 (by decide) (by decide)
  have h2 := (c_irem (x &&& 2147483647) 2 2 (by decide)).1 (by omega)
  refine ⟨⟨((x &&& 2147483647) % (2 : Int32)).toInt.toNat, by omega⟩, ?_⟩
  apply Int32.toInt_inj.mp
  rw [own_ofNat (by show _ < 200; omega)]; show _ = ((((x &&& 2147483647) % (2 : Int32)).toInt.toNat : Nat) : Int); omega
theorem own_rem3 (x : Int32) : ∃ k : Fin 3, ((x &&& (2147483647 : Int32)) % (3 : Int32)) = Int32.ofNat k.val := by
  have h1 := c_mask x 2147483647 31 (by decide) (by decide)
  have h2 := (c_irem (x &&& 2147483647) 3 3 (by decide)).1 (by omega)
  refine ⟨⟨((x &&& 2147483647) % (3 : Int32)).toInt.toNat, by omega⟩, ?_⟩
  apply Int32.toInt_inj.mp
  rw [own_ofNat (by show _ < 200; omega)]; show _ = ((((x &&& 2147483647) % (3 : Int32)).toInt.toNat : Nat) : Int); omega
theorem own_rem4 (x : Int32) : ∃ k : Fin 4, ((x &&& (2147483647 : Int32)) % (4 : Int32)) = Int32.ofNat k.val := by
  have h1 := c_mask x 2147483647 31 (by decide) (by decide)
  have h2 := (c_irem (x &&& 2147483647) 4 4 (by decide)).1 (by omega)
  refine ⟨⟨((x &&& 2147483647) % (4 : Int32)).toInt.toNat, by omega⟩, ?_⟩
  apply Int32.toInt_inj.mp
  rw [own_ofNat (by show _ < 200; omega)]; show _ = ((((x &&& 2147483647) % (4 : Int32)).toInt.toNat : Nat) : Int); omega
theorem own_rem6 (x : Int32) : ∃ k : Fin 6, ((x &&& (2147483647 : Int32)) % (6 : Int32)) = Int32.ofNat k.val := by
  have h1 := c_mask x 2147483647 31 (by decide) (by decide)
  have h2 := (c_irem (x &&& 2147483647) 6 6 (by decide)).1 (by omega)
  refine ⟨⟨((x &&& 2147483647) % (6 : Int32)).toInt.toNat, by omega⟩, ?_⟩
  apply Int32.toInt_inj.mp
  rw [own_ofNat (by show _ < 200; omega)]; show _ = ((((x &&& 2147483647) % (6 : Int32)).toInt.toNat : Nat) : Int); omega
theorem own_rem24 (x : Int32) : ∃ k : Fin 24, ((x &&& (2147483647 : Int32)) % (24 : Int32)) = Int32.ofNat k.val := by
  have h1 := c_mask x 2147483647 31 (by decide) (by decide)
  have h2 := (c_irem (x &&& 2147483647) 24 24 (by decide)).1 (by omega)
  refine ⟨⟨((x &&& 2147483647) % (24 : Int32)).toInt.toNat, by omega⟩, ?_⟩
  apply Int32.toInt_inj.mp
  rw [own_ofNat (by show _ < 200; omega)]; show _ = ((((x &&& 2147483647) % (24 : Int32)).toInt.toNat : Nat) : Int); omega
theorem own_rem120 (x : Int32) : ∃ k : Fin 120, ((x &&& (2147483647 : Int32)) % (120 : Int32)) = Int32.ofNat k.val := by
  have h1 := c_mask x 2147483647 31 (by decide) (by decide)
  have h2 := (c_irem (x &&& 2147483647) 120 120 (by decide)).1 (by omega)
  refine ⟨⟨((x &&& 2147483647) % (120 : Int32)).toInt.toNat, by omega⟩, ?_⟩
  apply Int32.toInt_inj.mp
  rw [own_ofNat (by show _ < 200; omega)]; show _ = ((((x &&& 2147483647) % (120 : Int32)).toInt.toNat : Nat) : Int); omega
theorem own_k (x : Int32) : ((2 : Int32) + (x &&& (3 : Int32))) = (2 : Int32) ∨ ((2 : Int32) + (x &&& (3 : Int32))) = (3 : Int32) ∨ ((2 : Int32) + (x &&& (3 : Int32))) = (4 : Int32) ∨ ((2 : Int32) + (x &&& (3 : Int32))) = (5 : Int32) := by
  have h1 := c_mask x 3 2 (by decide) (by decide)
  have h2 := c_iadd 2 (x &&& 3)
  have e : (2 : Int32).toInt = 2 := rfl
  have r := rng32 ((2 : Int32) + (x &&& (3 : Int32)))
  simp only [← Int32.toInt_inj]
  have e3 : (3 : Int32).toInt = 3 := rfl
  have e4 : (4 : Int32).toInt = 4 := rfl
  have e5 : (5 : Int32).toInt = 5 := rfl
  omega
theorem own_fb2 (f : Fin 1) : own_bd 1 (Int32.ofNat f.val) := by
  have h := f.isLt; have e := own_ofNat (j := f.val) (by omega); exact ⟨by omega, by omega⟩
theorem own_fb3 (f : Fin 2) : own_bd 2 (Int32.ofNat f.val) := by
  have h := f.isLt; have e := own_ofNat (j := f.val) (by omega); exact ⟨by omega, by omega⟩
theorem own_fb4 (f : Fin 3) : own_bd 3 (Int32.ofNat f.val) := by
  have h := f.isLt; have e := own_ofNat (j := f.val) (by omega); exact ⟨by omega, by omega⟩
theorem own_fb5 (f : Fin 4) : own_bd 4 (Int32.ofNat f.val) := by
  have h := f.isLt; have e := own_ofNat (j := f.val) (by omega); exact ⟨by omega, by omega⟩
theorem own_sb {s c : Int32} {cn : Int} (h0 : ¬ s < (0 : Int32)) (h1 : s < c) (hc : c.toInt = cn) : own_bd cn s := by
  rw [Int32.lt_iff_toInt_lt] at h0 h1; have e : (0 : Int32).toInt = 0 := rfl; exact ⟨by omega, by omega⟩
theorem ef_5 (m : MethodId) (x0 : Int32) (x1 : Int32) (x2 : Int32) : entryFrame m #[(.int x0), (.int x1), (.int x2)] maxLocals = mkF m 0 #[.val (.int x0), .val (.int x1), .val (.int x2), .unset, .unset, .unset, .unset, .unset, .unset, .unset] [] := by first | (simp [entryFrame, mkF, argsToLocals, Value.category, maxLocals]; done) | rfl
theorem pd_2 : parseMethodDescriptor "(I)V" = some ⟨[.int], none⟩ := by decide +kernel
theorem pd_3 : parseMethodDescriptor "()I" = some ⟨[], some .int⟩ := by decide +kernel
theorem pd_4 : parseMethodDescriptor "(Lcom/example/frontward/frontward/offline/Orderings;IIII)Z" = some ⟨[(.object "com/example/frontward/frontward/offline/Orderings"), .int, .int, .int, .int], some .boolean⟩ := by decide +kernel
set_option maxRecDepth 65536 in
set_option maxHeartbeats 40000000 in
theorem rm0 (l : Launch) (Z : State) (a0 : Array Value) (hw : ∀ d ∈ tables_1, d.before a0 Z = true) (ws : List Jvm.Cond) (i0 i1 i2 : Int32) (h0 : Heap) (n0 : Nat) (O0 : Old Z n0 h0) :
    MetFree l x (head1 (Jvm.Cond.code x code maxLocals ret :: ws) room_1) (fun a U => a = #[(.int i0), (.int i1), (.int i2)] ∧ Z.Warmed39 U.vm ∧ U.heap = h0) (fun _ _ _ _ _ => True) (fun _ U o U' => ∃ v L, o = .returned v ∧ QL n0 v U'.heap L ∧ FrameEnd U o U' L room_1.cells room_1.slots) := by
  refine MetFree.of_bodySF (plainFor_of_name pn_1) hisR ?_
  intro p e s m args below meth c s₁ Bd hml0 hP hK
  obtain ⟨rfl, hZ, hh⟩ := hP
  have hx := Bd.exec
  have hby := Bd.bytes
  have hml : c.maxLocals = 10 := hml0
  have hown : s.vm.findClass "com/example/frontward/frontward/offline/OrderingsSwappedPinLaw" = some m.cls := findClass_of_methodNamed Bd.named
  have hnm := (name_of_methodNamed Bd.named Bd.method).1
  have X0 : Stand p l e room_1 s m #[(.int i0), (.int i1), (.int i2)] below meth c s₁ [] 0 0 := Stand.of_body Bd
  have e0 : s₁.heap = h0 := by rw [← hh, Bd.state]; rfl
  have N0 := Fr.nil n0
  have pre0 : ∀ t, Steps p.tables e below (s₁.setTop (mkF m 0 #[.val (.int i0), .val (.int i1), .val (.int i2), .unset, .unset, .unset, .unset, .unset, .unset, .unset] [])) t → Steps p.tables e below (s₁.setTop (entryFrame m #[(.int i0), (.int i1), (.int i2)] maxLocals)) t := fun t k => castTop (ef_5 m i0 i1 i2) k
  have pre101 : ∀ t, Steps p.tables e below (s₁.setTop (mkF m 5 #[.val (.int i0), .val (.int i1), .val (.int i2), .unset, .unset, .unset, .unset, .unset, .unset, .unset] [(.int ((2 : Int32) + (i0 &&& (3 : Int32))))])) t → Steps p.tables e below (s₁.setTop (entryFrame m #[(.int i0), (.int i1), (.int i2)] maxLocals)) t := fun t kt => pre0 t (by
      show Steps p.tables e below (s₁.setTop (mkF m 0 #[.val (.int i0), .val (.int i1), .val (.int i2), .unset, .unset, .unset, .unset, .unset, .unset, .unset] [])) _
      refine XS.iconst X0.here hx rfl (hb hby at_0) ?_
      refine XS.iloadN X0.here hx rfl (hb hby at_1) rfl ?_
      refine XS.iconst X0.here hx rfl (hb hby at_2) ?_
      refine XS.iand X0.here hx rfl (hb hby at_3) rfl ?_
      refine XS.iadd X0.here hx rfl (hb hby at_4) rfl ?_
      exact kt)
  rcases own_k i0 with hk102 | hk102 | hk102 | hk102
  · skip
    obtain ⟨T103, h103, X103, e103, E103, A103, D103, -, st103⟩ := newO X0 hx hZ hown (hw _ (List.mem_of_getElem? (i := 0) rfl)) (hw _ (List.mem_of_getElem? (i := 1) rfl)) (hw _ (List.mem_of_getElem? (i := 2) rfl)) e0 (g := (mkF m 6 #[.val (.int i0), .val (.int i1), .val (.int i2), .val (.int (2 : Int32)), .unset, .unset, .unset, .unset, .unset, .unset] [])) rfl (hb hby at_6) (by decide) (by decide)
    obtain ⟨b103, g103⟩ : ∃ z, z = h0.size := ⟨_, rfl⟩
    rw [← g103] at A103 D103 st103
    have gb103 : n0 ≤ b103 := by rw [g103, ← O0.1]; exact O0.2.1
    have F103_items : Fld Z h103 b103 "com/example/frontward/frontward/offline/Orderings" "items" "I" (.int (0 : Int32)) := D103 (Or.inr (hw _ (List.mem_of_getElem? (i := 11) rfl))) (ty := .int) (by decide)
    have F103_count : Fld Z h103 b103 "com/example/frontward/frontward/offline/Orderings" "count" "I" (.int (0 : Int32)) := D103 (Or.inr (hw _ (List.mem_of_getElem? (i := 13) rfl))) (ty := .int) (by decide)
    have F103_positions : Fld Z h103 b103 "com/example/frontward/frontward/offline/Orderings" "positions" "[B" .null := D103 (Or.inr (hw _ (List.mem_of_getElem? (i := 16) rfl))) (ty := (.array .byte)) (by decide)
    have F103_swaps : Fld Z h103 b103 "com/example/frontward/frontward/offline/Orderings" "swaps" "[I" .null := D103 (Or.inr (hw _ (List.mem_of_getElem? (i := 18) rfl))) (ty := (.array .int)) (by decide)
    have O104 : Old Z n0 h103 := (O0.ext E103)
    obtain ⟨_, _, ⟨T105, L105, k105, n105⟩, -, X105, ⟨Lc105, hQ105, l105, y105, z105⟩, st105⟩ := X103.specialBack hx (y := (⟨"com/example/frontward/frontward/offline/Orderings", "<init>", "(I)V"⟩ : MethodName)) rfl hown (mvT hZ (hw _ (List.mem_of_getElem? (i := 3) rfl))) (mvT hZ (hw _ (List.mem_of_getElem? (i := 4) rfl))) (mvT hZ (hw _ (List.mem_of_getElem? (i := 5) rfl))) (by decide) (backOf (W := 1) (rmC2 l Z a0 hw [] b103 h103 n0 O104 A103 F103_items F103_count F103_positions F103_swaps gb103) hZ (hw _ (List.mem_of_getElem? (i := 5) rfl)) (hw _ (List.mem_of_getElem? (i := 2) rfl)) (by decide) (by decide)) (g := (mkF m 11 #[.val (.int i0), .val (.int i1), .val (.int i2), .val (.int (2 : Int32)), .unset, .unset, .unset, .unset, .unset, .unset] [(.int (2 : Int32)), (.ref b103), (.ref b103)])) rfl (by rw [hml]; rfl) (Steps.refl _) (a := b103) (argsL := [(.int (2 : Int32))]) (rest := [(.ref b103)]) (lenOf pd_2 rfl) rfl (by show 2 * 0 + _ ≤ _; exact Nat.le_of_eq rfl) (hb hby at_11) (fun _ _ => ⟨rfl, e103, (by decide : 1 + 5 ≤ _), (by decide : 4 + 12 ≤ _)⟩)
    dsimp only [Pt.U, Pt.locs, Pt.cells, Pt.slots] at X105 l105 y105 z105 st105 hQ105
    subst l105 y105 z105
    obtain ⟨rfl, N105q, K105, bp105, bs105, Ex105, F105_items, F105_count, F105_positions, F105_swaps, Lp105, Ls105⟩ := hQ105
    have N105 := Fr.app N0 N105q
    have O106 : Old Z n0 T105.heap := (O104.keep K105 (allS gb103 all0))
    obtain ⟨cq107, kq107, q107a, q107b, q107c⟩ := isOf hZ rfl Ex105
    obtain ⟨_, _, ⟨T107, L107, k107, n107⟩, -, X107, ⟨Lc107, hQ107, l107, y107, z107⟩, st107⟩ := X105.virtualBack hx (y := (⟨"com/example/frontward/frontward/offline/Orderings", "count", "()I"⟩ : MethodName)) (z := (⟨"com/example/frontward/frontward/offline/Orderings", "count", "()I"⟩ : MethodName)) hown (mvT hZ (hw _ (List.mem_of_getElem? (i := 26) rfl))) (mvT hZ (hw _ (List.mem_of_getElem? (i := 27) rfl))) (notFace_of_selects (args := #[]) (mvT hZ (hw _ (List.mem_of_getElem? (i := 29) rfl)))) (mvT hZ (hw _ (List.mem_of_getElem? (i := 29) rfl))) (mvT hZ (hw _ (List.mem_of_getElem? (i := 28) rfl))) (by decide) (backOf (W := 0) (rmCnt l Z a0 hw [] b103 (2 : Int32) T105.heap n0 O106 F105_count) hZ (hw _ (List.mem_of_getElem? (i := 30) rfl)) (hw _ (List.mem_of_getElem? (i := 2) rfl)) (by decide) (by decide)) q107a q107c (g := (mkF m 18 #[.val (.int i0), .val (.int i1), .val (.int i2), .val (.int (2 : Int32)), .val (.ref b103), .unset, .unset, .unset, .unset, .unset] [(.ref b103)])) rfl (by rw [hml]; rfl) (Steps.refl _) (argsL := []) (rest := []) (lenOf pd_3 rfl) rfl (by show 2 * 0 + _ ≤ _; exact Nat.le_of_eq rfl) (hb hby at_18) (fun _ _ => ⟨rfl, rfl, (by decide : 6 + 0 ≤ _), (by decide : 16 + 0 ≤ _)⟩)
    dsimp only [Pt.U, Pt.locs, Pt.cells, Pt.slots] at X107 l107 y107 z107 st107 hQ107
    subst l107 y107 z107
    obtain ⟨rfl, N107q, hh107⟩ := hQ107
    have N107 := Fr.app N105 N107q
    have pre108 : ∀ t, Steps p.tables e below (T107.setTop (mkF m 30 #[.val (.int i0), .val (.int i1), .val (.int i2), .val (.int (2 : Int32)), .val (.ref b103), .val (.int (2 : Int32)), .unset, .unset, .unset, .unset] [(.int ((i1 &&& (2147483647 : Int32)) % (2 : Int32)))])) t → Steps p.tables e below (s₁.setTop (entryFrame m #[(.int i0), (.int i1), (.int i2)] maxLocals)) t := fun t kt => pre101 t (by
        show Steps p.tables e below (s₁.setTop (mkF m 5 #[.val (.int i0), .val (.int i1), .val (.int i2), .unset, .unset, .unset, .unset, .unset, .unset, .unset] [(.int ((2 : Int32) + (i0 &&& (3 : Int32))))])) _
        rw [hk102]
        refine XS.istoreN X0.here hx rfl (hb hby at_5) rfl (l' := #[.val (.int i0), .val (.int i1), .val (.int i2), .val (.int (2 : Int32)), .unset, .unset, .unset, .unset, .unset, .unset]) rfl ?_
        refine st103 _ ?_
        refine XS.dup X103.here hx rfl (hb hby at_9) rfl rfl ?_
        refine XS.iloadN X103.here hx rfl (hb hby at_10) rfl ?_
        refine st105.trans ?_
        refine XS.astore X105.here hx rfl (hb hby at_14) rfl rfl (l' := #[.val (.int i0), .val (.int i1), .val (.int i2), .val (.int (2 : Int32)), .val (.ref b103), .unset, .unset, .unset, .unset, .unset]) rfl ?_
        refine XS.aload X105.here hx rfl (hb hby at_16) rfl rfl ?_
        refine st107.trans ?_
        refine XS.istore X107.here hx rfl (hb hby at_21) rfl (l' := #[.val (.int i0), .val (.int i1), .val (.int i2), .val (.int (2 : Int32)), .val (.ref b103), .val (.int (2 : Int32)), .unset, .unset, .unset, .unset]) rfl ?_
        refine XS.iloadN X107.here hx rfl (hb hby at_23) rfl ?_
        refine X107.ldcInt hx hown (mvT hZ (hw _ (List.mem_of_getElem? (i := 31) rfl))) (g := (mkF m 24 #[.val (.int i0), .val (.int i1), .val (.int i2), .val (.int (2 : Int32)), .val (.ref b103), .val (.int (2 : Int32)), .unset, .unset, .unset, .unset] [(.int i1)])) rfl (hb hby at_24) _ ?_
        refine XS.iand X107.here hx rfl (hb hby at_26) rfl ?_
        refine XS.iload X107.here hx rfl (hb hby at_27) rfl ?_
        refine iremM X107 hx rfl (hb hby at_29) rfl (by decide) ?_
        exact kt)
    obtain ⟨kq, hkq⟩ := own_rem2 i1
    have pre109 : ∀ t, Steps p.tables e below (T107.setTop (mkF m 40 #[.val (.int i0), .val (.int i1), .val (.int i2), .val (.int (2 : Int32)), .val (.ref b103), .val (.int (2 : Int32)), .val (.int (Int32.ofNat kq.val)), .unset, .unset, .unset] [(.int ((i2 &&& (2147483647 : Int32)) % (1 : Int32)))])) t → Steps p.tables e below (s₁.setTop (entryFrame m #[(.int i0), (.int i1), (.int i2)] maxLocals)) t := fun t kt => pre108 t (by
        show Steps p.tables e below (T107.setTop (mkF m 30 #[.val (.int i0), .val (.int i1), .val (.int i2), .val (.int (2 : Int32)), .val (.ref b103), .val (.int (2 : Int32)), .unset, .unset, .unset, .unset] [(.int ((i1 &&& (2147483647 : Int32)) % (2 : Int32)))])) _
        rw [hkq]
        refine XS.istore X107.here hx rfl (hb hby at_30) rfl (l' := #[.val (.int i0), .val (.int i1), .val (.int i2), .val (.int (2 : Int32)), .val (.ref b103), .val (.int (2 : Int32)), .val (.int (Int32.ofNat kq.val)), .unset, .unset, .unset]) rfl ?_
        refine XS.iloadN X107.here hx rfl (hb hby at_32) rfl ?_
        refine X107.ldcInt hx hown (mvT hZ (hw _ (List.mem_of_getElem? (i := 31) rfl))) (g := (mkF m 33 #[.val (.int i0), .val (.int i1), .val (.int i2), .val (.int (2 : Int32)), .val (.ref b103), .val (.int (2 : Int32)), .val (.int (Int32.ofNat kq.val)), .unset, .unset, .unset] [(.int i2)])) rfl (hb hby at_33) _ ?_
        show Steps p.tables e below (T107.setTop (mkF m 35 #[.val (.int i0), .val (.int i1), .val (.int i2), .val (.int (2 : Int32)), .val (.ref b103), .val (.int (2 : Int32)), .val (.int (Int32.ofNat kq.val)), .unset, .unset, .unset] [(.int (2147483647 : Int32)), (.int i2)])) _
        refine XS.iand X107.here hx rfl (hb hby at_35) rfl ?_
        refine XS.iloadN X107.here hx rfl (hb hby at_36) rfl ?_
        refine XS.iconst X107.here hx rfl (hb hby at_37) ?_
        refine XS.isub X107.here hx rfl (hb hby at_38) rfl ?_
        refine iremM X107 hx rfl (hb hby at_39) rfl (by decide) ?_
        exact kt)
    obtain ⟨kf, hkf⟩ := own_rem1 i2
    obtain ⟨hs0, hs1, hm0, hm1⟩ := own_w2 kq kf
    obtain ⟨cq110, kq110, q110a, q110b, q110c⟩ := isOf hZ hh107 Ex105
    obtain ⟨_, _, ⟨T110, L110, k110, n110⟩, -, X110, ⟨Lc110, hQ110, l110, y110, z110⟩, st110⟩ := X107.virtualBack hx (y := (⟨"com/example/frontward/frontward/offline/Orderings", "swapped", "(II)I"⟩ : MethodName)) (z := (⟨"com/example/frontward/frontward/offline/Orderings", "swapped", "(II)I"⟩ : MethodName)) hown (mvT hZ (hw _ (List.mem_of_getElem? (i := 32) rfl))) (mvT hZ (hw _ (List.mem_of_getElem? (i := 33) rfl))) (notFace_of_selects (args := #[]) (mvT hZ (hw _ (List.mem_of_getElem? (i := 35) rfl)))) (mvT hZ (hw _ (List.mem_of_getElem? (i := 35) rfl))) (mvT hZ (hw _ (List.mem_of_getElem? (i := 34) rfl))) (by decide) (backOf (W := 0) (rmSwi l Z a0 hw [] b103 bs105 (Int32.ofNat kq.val) (Int32.ofNat kf.val) (2 : Int32) (2 : Int32) own_SL2 T105.heap n0 O106 F105_swaps F105_items Ls105 (own_iy (n := 1) (cn := 2) (own_kb2 kq).1 (own_fb2 kf) (by decide) (by decide) (by decide) (by decide) (by decide))) hZ (hw _ (List.mem_of_getElem? (i := 36) rfl)) (hw _ (List.mem_of_getElem? (i := 2) rfl)) (by decide) (by decide)) q110a q110c (g := (mkF m 48 #[.val (.int i0), .val (.int i1), .val (.int i2), .val (.int (2 : Int32)), .val (.ref b103), .val (.int (2 : Int32)), .val (.int (Int32.ofNat kq.val)), .val (.int (Int32.ofNat kf.val)), .unset, .unset] [(.int (Int32.ofNat kf.val)), (.int (Int32.ofNat kq.val)), (.ref b103)])) rfl (by rw [hml]; rfl) (Steps.refl _) (argsL := [(.int (Int32.ofNat kq.val)), (.int (Int32.ofNat kf.val))]) (rest := []) (lenOf pd_0 rfl) rfl (by show 2 * 0 + _ ≤ _; exact Nat.le_of_eq rfl) (hb hby at_48) (fun _ _ => ⟨rfl, hh107, (by decide : 6 + 0 ≤ _), (by decide : 16 + 0 ≤ _)⟩)
    dsimp only [Pt.U, Pt.locs, Pt.cells, Pt.slots] at X110 l110 y110 z110 st110 hQ110
    subst l110 y110 z110
    obtain ⟨rfl, N110q, hh110⟩ := hQ110
    have N110 := Fr.app N107 N110q
    obtain ⟨_, _, ⟨T111, L111, k111, n111⟩, -, X111, ⟨Lc111, hQ111, l111, y111, z111⟩, st111⟩ := Jvm.LawKit.callS X110 hx (y := (⟨"com/example/frontward/frontward/offline/OrderingsSwappedPinLaw", "moved", "(Lcom/example/frontward/frontward/offline/Orderings;IIII)Z"⟩ : MethodName)) hown (mvT hZ (hw _ (List.mem_of_getElem? (i := 37) rfl))) (mvT hZ (hw _ (List.mem_of_getElem? (i := 38) rfl))) (mvT hZ (hw _ (List.mem_of_getElem? (i := 39) rfl))) (mvT hZ (hw _ (List.mem_of_getElem? (i := 40) rfl))) (by decide) (backOf (W := 0) (rmMov l Z a0 hw [] b103 bp105 (0 : Int32) (Int32.ofNat kq.val) (own_SL2.getD ((((Int32.ofNat kq.val) * ((2 : Int32) - (1 : Int32))) + (Int32.ofNat kf.val))).toNatClampNeg 0) (Int32.ofNat kf.val) (2 : Int32) (4 : Int32) own_PL2 T105.heap n0 O106 Ex105 F105_positions F105_count Lp105 (own_ix (n := 2) (cn := 2) (by decide) (own_kb2 kq).1 (by decide) (by decide) (by decide) (by decide) (by decide)) (own_ix (n := 2) (cn := 2) (by decide) (own_sb hs0 hs1 (by decide)) (by decide) (by decide) (by decide) (by decide) (by decide))) hZ (hw _ (List.mem_of_getElem? (i := 40) rfl)) (hw _ (List.mem_of_getElem? (i := 39) rfl)) (by decide) (by decide)) (g := (mkF m 76 #[.val (.int i0), .val (.int i1), .val (.int i2), .val (.int (2 : Int32)), .val (.ref b103), .val (.int (2 : Int32)), .val (.int (Int32.ofNat kq.val)), .val (.int (Int32.ofNat kf.val)), .val (.int (own_SL2.getD ((((Int32.ofNat kq.val) * ((2 : Int32) - (1 : Int32))) + (Int32.ofNat kf.val))).toNatClampNeg 0)), .unset] [(.int (Int32.ofNat kf.val)), (.int (own_SL2.getD ((((Int32.ofNat kq.val) * ((2 : Int32) - (1 : Int32))) + (Int32.ofNat kf.val))).toNatClampNeg 0)), (.int (Int32.ofNat kq.val)), (.int (0 : Int32)), (.ref b103)])) rfl (by rw [hml]; rfl) (argsL := [(.ref b103), (.int (0 : Int32)), (.int (Int32.ofNat kq.val)), (.int (own_SL2.getD ((((Int32.ofNat kq.val) * ((2 : Int32) - (1 : Int32))) + (Int32.ofNat kf.val))).toNatClampNeg 0)), (.int (Int32.ofNat kf.val))]) (rest := []) (lenOf pd_4 rfl) rfl (by show 2 * 0 + _ ≤ _; exact Nat.le_of_eq rfl) (hb hby at_76) (fun _ _ => ⟨rfl, hh110, (by decide : 6 + 0 ≤ _), (by decide : 16 + 0 ≤ _)⟩)
    dsimp only [Pt.U, Pt.locs, Pt.cells, Pt.slots] at X111 l111 y111 z111 st111 hQ111
    subst l111 y111 z111
    obtain ⟨rfl, N111q, hh111⟩ := hQ111
    have N111 := Fr.app N110 N111q
    obtain ⟨_, _, ⟨T112, L112, k112, n112⟩, -, X112, ⟨Lc112, hQ112, l112, y112, z112⟩, st112⟩ := Jvm.LawKit.callS X111 hx (y := (⟨"com/example/frontward/frontward/offline/OrderingsSwappedPinLaw", "moved", "(Lcom/example/frontward/frontward/offline/Orderings;IIII)Z"⟩ : MethodName)) hown (mvT hZ (hw _ (List.mem_of_getElem? (i := 37) rfl))) (mvT hZ (hw _ (List.mem_of_getElem? (i := 38) rfl))) (mvT hZ (hw _ (List.mem_of_getElem? (i := 39) rfl))) (mvT hZ (hw _ (List.mem_of_getElem? (i := 40) rfl))) (by decide) (backOf (W := 0) (rmMov l Z a0 hw [] b103 bp105 (1 : Int32) (Int32.ofNat kq.val) (own_SL2.getD ((((Int32.ofNat kq.val) * ((2 : Int32) - (1 : Int32))) + (Int32.ofNat kf.val))).toNatClampNeg 0) (Int32.ofNat kf.val) (2 : Int32) (4 : Int32) own_PL2 T105.heap n0 O106 Ex105 F105_positions F105_count Lp105 (own_ix (n := 2) (cn := 2) (by decide) (own_kb2 kq).1 (by decide) (by decide) (by decide) (by decide) (by decide)) (own_ix (n := 2) (cn := 2) (by decide) (own_sb hs0 hs1 (by decide)) (by decide) (by decide) (by decide) (by decide) (by decide))) hZ (hw _ (List.mem_of_getElem? (i := 40) rfl)) (hw _ (List.mem_of_getElem? (i := 39) rfl)) (by decide) (by decide)) (g := (mkF m 95 #[.val (.int i0), .val (.int i1), .val (.int i2), .val (.int (2 : Int32)), .val (.ref b103), .val (.int (2 : Int32)), .val (.int (Int32.ofNat kq.val)), .val (.int (Int32.ofNat kf.val)), .val (.int (own_SL2.getD ((((Int32.ofNat kq.val) * ((2 : Int32) - (1 : Int32))) + (Int32.ofNat kf.val))).toNatClampNeg 0)), .val (.int (1 : Int32))] [(.int (Int32.ofNat kf.val)), (.int (own_SL2.getD ((((Int32.ofNat kq.val) * ((2 : Int32) - (1 : Int32))) + (Int32.ofNat kf.val))).toNatClampNeg 0)), (.int (Int32.ofNat kq.val)), (.int (1 : Int32)), (.ref b103)])) rfl (by rw [hml]; rfl) (argsL := [(.ref b103), (.int (1 : Int32)), (.int (Int32.ofNat kq.val)), (.int (own_SL2.getD ((((Int32.ofNat kq.val) * ((2 : Int32) - (1 : Int32))) + (Int32.ofNat kf.val))).toNatClampNeg 0)), (.int (Int32.ofNat kf.val))]) (rest := []) (lenOf pd_4 rfl) rfl (by show 2 * 0 + _ ≤ _; exact Nat.le_of_eq rfl) (hb hby at_95) (fun _ _ => ⟨rfl, hh111, (by decide : 6 + 0 ≤ _), (by decide : 16 + 0 ≤ _)⟩)
    dsimp only [Pt.U, Pt.locs, Pt.cells, Pt.slots] at X112 l112 y112 z112 st112 hQ112
    subst l112 y112 z112
    obtain ⟨rfl, N112q, hh112⟩ := hQ112
    have N112 := Fr.app N111 N112q
    obtain ⟨fs, hr, hrun, hended, hW, hsame⟩ := X112.leave (v := some (.int (1 : Int32))) (fun h => by rw [Bd.returns] at h; cases h)
    refine ⟨_, _, pre109 _ ?_, hrun, hended, _, _, rfl, ?_, ⟨_, rfl⟩, hW, hsame.mono (by decide) (by decide)⟩
    · skip
      show Steps p.tables e below (T107.setTop (mkF m 40 #[.val (.int i0), .val (.int i1), .val (.int i2), .val (.int (2 : Int32)), .val (.ref b103), .val (.int (2 : Int32)), .val (.int (Int32.ofNat kq.val)), .unset, .unset, .unset] [(.int ((i2 &&& (2147483647 : Int32)) % (1 : Int32)))])) _
      rw [hkf]
      refine XS.istore X107.here hx rfl (hb hby at_40) rfl (l' := #[.val (.int i0), .val (.int i1), .val (.int i2), .val (.int (2 : Int32)), .val (.ref b103), .val (.int (2 : Int32)), .val (.int (Int32.ofNat kq.val)), .val (.int (Int32.ofNat kf.val)), .unset, .unset]) rfl ?_
      refine XS.aload X107.here hx rfl (hb hby at_42) rfl rfl ?_
      refine XS.iload X107.here hx rfl (hb hby at_44) rfl ?_
      refine XS.iload X107.here hx rfl (hb hby at_46) rfl ?_
      refine st110.trans ?_
      refine XS.istore X110.here hx rfl (hb hby at_51) rfl (l' := #[.val (.int i0), .val (.int i1), .val (.int i2), .val (.int (2 : Int32)), .val (.ref b103), .val (.int (2 : Int32)), .val (.int (Int32.ofNat kq.val)), .val (.int (Int32.ofNat kf.val)), .val (.int (own_SL2.getD ((((Int32.ofNat kq.val) * ((2 : Int32) - (1 : Int32))) + (Int32.ofNat kf.val))).toNatClampNeg 0)), .unset]) rfl ?_
      refine XS.iload X110.here hx rfl (hb hby at_53) rfl ?_
      show Steps p.tables e below (T110.setTop (mkF m 55 #[.val (.int i0), .val (.int i1), .val (.int i2), .val (.int (2 : Int32)), .val (.ref b103), .val (.int (2 : Int32)), .val (.int (Int32.ofNat kq.val)), .val (.int (Int32.ofNat kf.val)), .val (.int (own_SL2.getD ((((Int32.ofNat kq.val) * ((2 : Int32) - (1 : Int32))) + (Int32.ofNat kf.val))).toNatClampNeg 0)), .unset] [(.int (own_SL2.getD ((((Int32.ofNat kq.val) * ((2 : Int32) - (1 : Int32))) + (Int32.ofNat kf.val))).toNatClampNeg 0))])) _
      refine XS.ifNo X110.here hx rfl (hb hby at_55) rfl ((if0 _ _).trans (flt hs0).1) ?_
      refine XS.iload X110.here hx rfl (hb hby at_58) rfl ?_
      refine XS.iload X110.here hx rfl (hb hby at_60) rfl ?_
      show Steps p.tables e below (T110.setTop (mkF m 62 #[.val (.int i0), .val (.int i1), .val (.int i2), .val (.int (2 : Int32)), .val (.ref b103), .val (.int (2 : Int32)), .val (.int (Int32.ofNat kq.val)), .val (.int (Int32.ofNat kf.val)), .val (.int (own_SL2.getD ((((Int32.ofNat kq.val) * ((2 : Int32) - (1 : Int32))) + (Int32.ofNat kf.val))).toNatClampNeg 0)), .unset] [(.int (2 : Int32)), (.int (own_SL2.getD ((((Int32.ofNat kq.val) * ((2 : Int32) - (1 : Int32))) + (Int32.ofNat kf.val))).toNatClampNeg 0))])) _
      refine XS.icmpYes X110.here hx rfl (pc0 := 62) (pc' := 67) rfl (hb hby at_62) rfl (tlt hs1).1 (by decide) (by decide) ?_
      refine XS.aload X110.here hx rfl (hb hby at_67) rfl rfl ?_
      refine XS.iconst X110.here hx rfl (hb hby at_69) ?_
      refine XS.iload X110.here hx rfl (hb hby at_70) rfl ?_
      refine XS.iload X110.here hx rfl (hb hby at_72) rfl ?_
      refine XS.iload X110.here hx rfl (hb hby at_74) rfl ?_
      refine st111 _ ?_
      show Steps p.tables e below (T111.setTop (mkF m 79 #[.val (.int i0), .val (.int i1), .val (.int i2), .val (.int (2 : Int32)), .val (.ref b103), .val (.int (2 : Int32)), .val (.int (Int32.ofNat kq.val)), .val (.int (Int32.ofNat kf.val)), .val (.int (own_SL2.getD ((((Int32.ofNat kq.val) * ((2 : Int32) - (1 : Int32))) + (Int32.ofNat kf.val))).toNatClampNeg 0)), .unset] [(.int (own_mv (own_PL2.getD ((((0 : Int32) * (2 : Int32)) + (Int32.ofNat kq.val))).toNatClampNeg 0) (own_PL2.getD ((((0 : Int32) * (2 : Int32)) + (own_SL2.getD ((((Int32.ofNat kq.val) * ((2 : Int32) - (1 : Int32))) + (Int32.ofNat kf.val))).toNatClampNeg 0))).toNatClampNeg 0) (Int32.ofNat kf.val)))])) _
      rw [hm0]
      refine XS.istore X111.here hx rfl (hb hby at_79) rfl (l' := #[.val (.int i0), .val (.int i1), .val (.int i2), .val (.int (2 : Int32)), .val (.ref b103), .val (.int (2 : Int32)), .val (.int (Int32.ofNat kq.val)), .val (.int (Int32.ofNat kf.val)), .val (.int (own_SL2.getD ((((Int32.ofNat kq.val) * ((2 : Int32) - (1 : Int32))) + (Int32.ofNat kf.val))).toNatClampNeg 0)), .val (.int (1 : Int32))]) rfl ?_
      show Steps p.tables e below (T111.setTop (mkF m 81 #[.val (.int i0), .val (.int i1), .val (.int i2), .val (.int (2 : Int32)), .val (.ref b103), .val (.int (2 : Int32)), .val (.int (Int32.ofNat kq.val)), .val (.int (Int32.ofNat kf.val)), .val (.int (own_SL2.getD ((((Int32.ofNat kq.val) * ((2 : Int32) - (1 : Int32))) + (Int32.ofNat kf.val))).toNatClampNeg 0)), .val (.int (1 : Int32))] [])) _
      refine XS.iload X111.here hx rfl (hb hby at_81) rfl ?_
      show Steps p.tables e below (T111.setTop (mkF m 83 #[.val (.int i0), .val (.int i1), .val (.int i2), .val (.int (2 : Int32)), .val (.ref b103), .val (.int (2 : Int32)), .val (.int (Int32.ofNat kq.val)), .val (.int (Int32.ofNat kf.val)), .val (.int (own_SL2.getD ((((Int32.ofNat kq.val) * ((2 : Int32) - (1 : Int32))) + (Int32.ofNat kf.val))).toNatClampNeg 0)), .val (.int (1 : Int32))] [(.int (1 : Int32))])) _
      refine XS.ifNo X111.here hx rfl (hb hby at_83) rfl (by decide) ?_
      refine XS.aload X111.here hx rfl (hb hby at_86) rfl rfl ?_
      refine XS.iconst X111.here hx rfl (hb hby at_88) ?_
      refine XS.iload X111.here hx rfl (hb hby at_89) rfl ?_
      refine XS.iload X111.here hx rfl (hb hby at_91) rfl ?_
      refine XS.iload X111.here hx rfl (hb hby at_93) rfl ?_
      refine st112 _ ?_
      show Steps p.tables e below (T112.setTop (mkF m 98 #[.val (.int i0), .val (.int i1), .val (.int i2), .val (.int (2 : Int32)), .val (.ref b103), .val (.int (2 : Int32)), .val (.int (Int32.ofNat kq.val)), .val (.int (Int32.ofNat kf.val)), .val (.int (own_SL2.getD ((((Int32.ofNat kq.val) * ((2 : Int32) - (1 : Int32))) + (Int32.ofNat kf.val))).toNatClampNeg 0)), .val (.int (1 : Int32))] [(.int (own_mv (own_PL2.getD ((((1 : Int32) * (2 : Int32)) + (Int32.ofNat kq.val))).toNatClampNeg 0) (own_PL2.getD ((((1 : Int32) * (2 : Int32)) + (own_SL2.getD ((((Int32.ofNat kq.val) * ((2 : Int32) - (1 : Int32))) + (Int32.ofNat kf.val))).toNatClampNeg 0))).toNatClampNeg 0) (Int32.ofNat kf.val)))])) _
      rw [hm1]
      show Steps p.tables e below (T112.setTop (mkF m 98 #[.val (.int i0), .val (.int i1), .val (.int i2), .val (.int (2 : Int32)), .val (.ref b103), .val (.int (2 : Int32)), .val (.int (Int32.ofNat kq.val)), .val (.int (Int32.ofNat kf.val)), .val (.int (own_SL2.getD ((((Int32.ofNat kq.val) * ((2 : Int32) - (1 : Int32))) + (Int32.ofNat kf.val))).toNatClampNeg 0)), .val (.int (1 : Int32))] [(.int (1 : Int32))])) _
      refine XS.ifNo X112.here hx rfl (hb hby at_98) rfl (by decide) ?_
      refine XS.iconst X112.here hx rfl (hb hby at_101) ?_
      refine XS.goto X112.here hx rfl (pc0 := 102) (pc' := 106) rfl (hb hby at_102) (by decide) (by decide) ?_
      refine XS.istore X112.here hx rfl (hb hby at_106) rfl (l' := #[.val (.int i0), .val (.int i1), .val (.int i2), .val (.int (2 : Int32)), .val (.ref b103), .val (.int (2 : Int32)), .val (.int (Int32.ofNat kq.val)), .val (.int (Int32.ofNat kf.val)), .val (.int (own_SL2.getD ((((Int32.ofNat kq.val) * ((2 : Int32) - (1 : Int32))) + (Int32.ofNat kf.val))).toNatClampNeg 0)), .val (.int (1 : Int32))]) rfl ?_
      refine XS.iloadN X112.here hx rfl (hb hby at_108) rfl ?_
      refine XS.iconst X112.here hx rfl (hb hby at_109) ?_
      show Steps p.tables e below (T112.setTop (mkF m 110 #[.val (.int i0), .val (.int i1), .val (.int i2), .val (.int (2 : Int32)), .val (.ref b103), .val (.int (2 : Int32)), .val (.int (Int32.ofNat kq.val)), .val (.int (Int32.ofNat kf.val)), .val (.int (own_SL2.getD ((((Int32.ofNat kq.val) * ((2 : Int32) - (1 : Int32))) + (Int32.ofNat kf.val))).toNatClampNeg 0)), .val (.int (1 : Int32))] [(.int (2 : Int32)), (.int (2 : Int32))])) _
      refine XS.icmpYes X112.here hx rfl (pc0 := 110) (pc' := 140) rfl (hb hby at_110) rfl (by decide) (by decide) (by decide) ?_
      refine XS.iloadN X112.here hx rfl (hb hby at_140) rfl ?_
      refine XS.iconst X112.here hx rfl (hb hby at_141) ?_
      show Steps p.tables e below (T112.setTop (mkF m 142 #[.val (.int i0), .val (.int i1), .val (.int i2), .val (.int (2 : Int32)), .val (.ref b103), .val (.int (2 : Int32)), .val (.int (Int32.ofNat kq.val)), .val (.int (Int32.ofNat kf.val)), .val (.int (own_SL2.getD ((((Int32.ofNat kq.val) * ((2 : Int32) - (1 : Int32))) + (Int32.ofNat kf.val))).toNatClampNeg 0)), .val (.int (1 : Int32))] [(.int (3 : Int32)), (.int (2 : Int32))])) _
      refine XS.icmpYes X112.here hx rfl (pc0 := 142) (pc' := 172) rfl (hb hby at_142) rfl (by decide) (by decide) (by decide) ?_
      refine XS.iloadN X112.here hx rfl (hb hby at_172) rfl ?_
      refine XS.iconst X112.here hx rfl (hb hby at_173) ?_
      show Steps p.tables e below (T112.setTop (mkF m 174 #[.val (.int i0), .val (.int i1), .val (.int i2), .val (.int (2 : Int32)), .val (.ref b103), .val (.int (2 : Int32)), .val (.int (Int32.ofNat kq.val)), .val (.int (Int32.ofNat kf.val)), .val (.int (own_SL2.getD ((((Int32.ofNat kq.val) * ((2 : Int32) - (1 : Int32))) + (Int32.ofNat kf.val))).toNatClampNeg 0)), .val (.int (1 : Int32))] [(.int (4 : Int32)), (.int (2 : Int32))])) _
      refine XS.icmpYes X112.here hx rfl (pc0 := 174) (pc' := 204) rfl (hb hby at_174) rfl (by decide) (by decide) (by decide) ?_
      refine XS.iload X112.here hx rfl (hb hby at_204) rfl ?_
      show Steps p.tables e below (T112.setTop (mkF m 206 #[.val (.int i0), .val (.int i1), .val (.int i2), .val (.int (2 : Int32)), .val (.ref b103), .val (.int (2 : Int32)), .val (.int (Int32.ofNat kq.val)), .val (.int (Int32.ofNat kf.val)), .val (.int (own_SL2.getD ((((Int32.ofNat kq.val) * ((2 : Int32) - (1 : Int32))) + (Int32.ofNat kf.val))).toNatClampNeg 0)), .val (.int (1 : Int32))] [(.int (1 : Int32))])) _
      exact retN X112 hx (t := .boolean) Bd.returns (by simp) (hb hby at_206) hr
    · show QL n0 _ T112.heap _
      rw [hh112]
      exact ⟨rfl, N112⟩
  · skip
    obtain ⟨T113, h113, X113, e113, E113, A113, D113, -, st113⟩ := newO X0 hx hZ hown (hw _ (List.mem_of_getElem? (i := 0) rfl)) (hw _ (List.mem_of_getElem? (i := 1) rfl)) (hw _ (List.mem_of_getElem? (i := 2) rfl)) e0 (g := (mkF m 6 #[.val (.int i0), .val (.int i1), .val (.int i2), .val (.int (3 : Int32)), .unset, .unset, .unset, .unset, .unset, .unset] [])) rfl (hb hby at_6) (by decide) (by decide)
    obtain ⟨b113, g113⟩ : ∃ z, z = h0.size := ⟨_, rfl⟩
    rw [← g113] at A113 D113 st113
    have gb113 : n0 ≤ b113 := by rw [g113, ← O0.1]; exact O0.2.1
    have F113_items : Fld Z h113 b113 "com/example/frontward/frontward/offline/Orderings" "items" "I" (.int (0 : Int32)) := D113 (Or.inr (hw _ (List.mem_of_getElem? (i := 11) rfl))) (ty := .int) (by decide)
    have F113_count : Fld Z h113 b113 "com/example/frontward/frontward/offline/Orderings" "count" "I" (.int (0 : Int32)) := D113 (Or.inr (hw _ (List.mem_of_getElem? (i := 13) rfl))) (ty := .int) (by decide)
    have F113_positions : Fld Z h113 b113 "com/example/frontward/frontward/offline/Orderings" "positions" "[B" .null := D113 (Or.inr (hw _ (List.mem_of_getElem? (i := 16) rfl))) (ty := (.array .byte)) (by decide)
    have F113_swaps : Fld Z h113 b113 "com/example/frontward/frontward/offline/Orderings" "swaps" "[I" .null := D113 (Or.inr (hw _ (List.mem_of_getElem? (i := 18) rfl))) (ty := (.array .int)) (by decide)
    have O114 : Old Z n0 h113 := (O0.ext E113)
    obtain ⟨_, _, ⟨T115, L115, k115, n115⟩, -, X115, ⟨Lc115, hQ115, l115, y115, z115⟩, st115⟩ := X113.specialBack hx (y := (⟨"com/example/frontward/frontward/offline/Orderings", "<init>", "(I)V"⟩ : MethodName)) rfl hown (mvT hZ (hw _ (List.mem_of_getElem? (i := 3) rfl))) (mvT hZ (hw _ (List.mem_of_getElem? (i := 4) rfl))) (mvT hZ (hw _ (List.mem_of_getElem? (i := 5) rfl))) (by decide) (backOf (W := 1) (rmC3 l Z a0 hw [] b113 h113 n0 O114 A113 F113_items F113_count F113_positions F113_swaps gb113) hZ (hw _ (List.mem_of_getElem? (i := 5) rfl)) (hw _ (List.mem_of_getElem? (i := 2) rfl)) (by decide) (by decide)) (g := (mkF m 11 #[.val (.int i0), .val (.int i1), .val (.int i2), .val (.int (3 : Int32)), .unset, .unset, .unset, .unset, .unset, .unset] [(.int (3 : Int32)), (.ref b113), (.ref b113)])) rfl (by rw [hml]; rfl) (Steps.refl _) (a := b113) (argsL := [(.int (3 : Int32))]) (rest := [(.ref b113)]) (lenOf pd_2 rfl) rfl (by show 2 * 0 + _ ≤ _; exact Nat.le_of_eq rfl) (hb hby at_11) (fun _ _ => ⟨rfl, e113, (by decide : 1 + 5 ≤ _), (by decide : 4 + 39 ≤ _)⟩)
    dsimp only [Pt.U, Pt.locs, Pt.cells, Pt.slots] at X115 l115 y115 z115 st115 hQ115
    subst l115 y115 z115
    obtain ⟨rfl, N115q, K115, bp115, bs115, Ex115, F115_items, F115_count, F115_positions, F115_swaps, Lp115, Ls115⟩ := hQ115
    have N115 := Fr.app N0 N115q
    have O116 : Old Z n0 T115.heap := (O114.keep K115 (allS gb113 all0))
    obtain ⟨cq117, kq117, q117a, q117b, q117c⟩ := isOf hZ rfl Ex115
    obtain ⟨_, _, ⟨T117, L117, k117, n117⟩, -, X117, ⟨Lc117, hQ117, l117, y117, z117⟩, st117⟩ := X115.virtualBack hx (y := (⟨"com/example/frontward/frontward/offline/Orderings", "count", "()I"⟩ : MethodName)) (z := (⟨"com/example/frontward/frontward/offline/Orderings", "count", "()I"⟩ : MethodName)) hown (mvT hZ (hw _ (List.mem_of_getElem? (i := 26) rfl))) (mvT hZ (hw _ (List.mem_of_getElem? (i := 27) rfl))) (notFace_of_selects (args := #[]) (mvT hZ (hw _ (List.mem_of_getElem? (i := 29) rfl)))) (mvT hZ (hw _ (List.mem_of_getElem? (i := 29) rfl))) (mvT hZ (hw _ (List.mem_of_getElem? (i := 28) rfl))) (by decide) (backOf (W := 0) (rmCnt l Z a0 hw [] b113 (6 : Int32) T115.heap n0 O116 F115_count) hZ (hw _ (List.mem_of_getElem? (i := 30) rfl)) (hw _ (List.mem_of_getElem? (i := 2) rfl)) (by decide) (by decide)) q117a q117c (g := (mkF m 18 #[.val (.int i0), .val (.int i1), .val (.int i2), .val (.int (3 : Int32)), .val (.ref b113), .unset, .unset, .unset, .unset, .unset] [(.ref b113)])) rfl (by rw [hml]; rfl) (Steps.refl _) (argsL := []) (rest := []) (lenOf pd_3 rfl) rfl (by show 2 * 0 + _ ≤ _; exact Nat.le_of_eq rfl) (hb hby at_18) (fun _ _ => ⟨rfl, rfl, (by decide : 6 + 0 ≤ _), (by decide : 43 + 0 ≤ _)⟩)
    dsimp only [Pt.U, Pt.locs, Pt.cells, Pt.slots] at X117 l117 y117 z117 st117 hQ117
    subst l117 y117 z117
    obtain ⟨rfl, N117q, hh117⟩ := hQ117
    have N117 := Fr.app N115 N117q
    have pre118 : ∀ t, Steps p.tables e below (T117.setTop (mkF m 30 #[.val (.int i0), .val (.int i1), .val (.int i2), .val (.int (3 : Int32)), .val (.ref b113), .val (.int (6 : Int32)), .unset, .unset, .unset, .unset] [(.int ((i1 &&& (2147483647 : Int32)) % (6 : Int32)))])) t → Steps p.tables e below (s₁.setTop (entryFrame m #[(.int i0), (.int i1), (.int i2)] maxLocals)) t := fun t kt => pre101 t (by
        show Steps p.tables e below (s₁.setTop (mkF m 5 #[.val (.int i0), .val (.int i1), .val (.int i2), .unset, .unset, .unset, .unset, .unset, .unset, .unset] [(.int ((2 : Int32) + (i0 &&& (3 : Int32))))])) _
        rw [hk102]
        show Steps p.tables e below (s₁.setTop (mkF m 5 #[.val (.int i0), .val (.int i1), .val (.int i2), .unset, .unset, .unset, .unset, .unset, .unset, .unset] [(.int (3 : Int32))])) _
        refine XS.istoreN X0.here hx rfl (hb hby at_5) rfl (l' := #[.val (.int i0), .val (.int i1), .val (.int i2), .val (.int (3 : Int32)), .unset, .unset, .unset, .unset, .unset, .unset]) rfl ?_
        refine st113 _ ?_
        refine XS.dup X113.here hx rfl (hb hby at_9) rfl rfl ?_
        refine XS.iloadN X113.here hx rfl (hb hby at_10) rfl ?_
        refine st115.trans ?_
        refine XS.astore X115.here hx rfl (hb hby at_14) rfl rfl (l' := #[.val (.int i0), .val (.int i1), .val (.int i2), .val (.int (3 : Int32)), .val (.ref b113), .unset, .unset, .unset, .unset, .unset]) rfl ?_
        refine XS.aload X115.here hx rfl (hb hby at_16) rfl rfl ?_
        refine st117.trans ?_
        refine XS.istore X117.here hx rfl (hb hby at_21) rfl (l' := #[.val (.int i0), .val (.int i1), .val (.int i2), .val (.int (3 : Int32)), .val (.ref b113), .val (.int (6 : Int32)), .unset, .unset, .unset, .unset]) rfl ?_
        refine XS.iloadN X117.here hx rfl (hb hby at_23) rfl ?_
        refine X117.ldcInt hx hown (mvT hZ (hw _ (List.mem_of_getElem? (i := 31) rfl))) (g := (mkF m 24 #[.val (.int i0), .val (.int i1), .val (.int i2), .val (.int (3 : Int32)), .val (.ref b113), .val (.int (6 : Int32)), .unset, .unset, .unset, .unset] [(.int i1)])) rfl (hb hby at_24) _ ?_
        refine XS.iand X117.here hx rfl (hb hby at_26) rfl ?_
        refine XS.iload X117.here hx rfl (hb hby at_27) rfl ?_
        refine iremM X117 hx rfl (hb hby at_29) rfl (by decide) ?_
        exact kt)
    obtain ⟨kq, hkq⟩ := own_rem6 i1
    have pre119 : ∀ t, Steps p.tables e below (T117.setTop (mkF m 40 #[.val (.int i0), .val (.int i1), .val (.int i2), .val (.int (3 : Int32)), .val (.ref b113), .val (.int (6 : Int32)), .val (.int (Int32.ofNat kq.val)), .unset, .unset, .unset] [(.int ((i2 &&& (2147483647 : Int32)) % (2 : Int32)))])) t → Steps p.tables e below (s₁.setTop (entryFrame m #[(.int i0), (.int i1), (.int i2)] maxLocals)) t := fun t kt => pre118 t (by
        show Steps p.tables e below (T117.setTop (mkF m 30 #[.val (.int i0), .val (.int i1), .val (.int i2), .val (.int (3 : Int32)), .val (.ref b113), .val (.int (6 : Int32)), .unset, .unset, .unset, .unset] [(.int ((i1 &&& (2147483647 : Int32)) % (6 : Int32)))])) _
        rw [hkq]
        refine XS.istore X117.here hx rfl (hb hby at_30) rfl (l' := #[.val (.int i0), .val (.int i1), .val (.int i2), .val (.int (3 : Int32)), .val (.ref b113), .val (.int (6 : Int32)), .val (.int (Int32.ofNat kq.val)), .unset, .unset, .unset]) rfl ?_
        refine XS.iloadN X117.here hx rfl (hb hby at_32) rfl ?_
        refine X117.ldcInt hx hown (mvT hZ (hw _ (List.mem_of_getElem? (i := 31) rfl))) (g := (mkF m 33 #[.val (.int i0), .val (.int i1), .val (.int i2), .val (.int (3 : Int32)), .val (.ref b113), .val (.int (6 : Int32)), .val (.int (Int32.ofNat kq.val)), .unset, .unset, .unset] [(.int i2)])) rfl (hb hby at_33) _ ?_
        refine XS.iand X117.here hx rfl (hb hby at_35) rfl ?_
        refine XS.iloadN X117.here hx rfl (hb hby at_36) rfl ?_
        refine XS.iconst X117.here hx rfl (hb hby at_37) ?_
        refine XS.isub X117.here hx rfl (hb hby at_38) rfl ?_
        refine iremM X117 hx rfl (hb hby at_39) rfl (by decide) ?_
        exact kt)
    obtain ⟨kf, hkf⟩ := own_rem2 i2
    obtain ⟨hs0, hs1, hm0, hm1, hm2⟩ := own_w3 kq kf
    obtain ⟨cq120, kq120, q120a, q120b, q120c⟩ := isOf hZ hh117 Ex115
    obtain ⟨_, _, ⟨T120, L120, k120, n120⟩, -, X120, ⟨Lc120, hQ120, l120, y120, z120⟩, st120⟩ := X117.virtualBack hx (y := (⟨"com/example/frontward/frontward/offline/Orderings", "swapped", "(II)I"⟩ : MethodName)) (z := (⟨"com/example/frontward/frontward/offline/Orderings", "swapped", "(II)I"⟩ : MethodName)) hown (mvT hZ (hw _ (List.mem_of_getElem? (i := 32) rfl))) (mvT hZ (hw _ (List.mem_of_getElem? (i := 33) rfl))) (notFace_of_selects (args := #[]) (mvT hZ (hw _ (List.mem_of_getElem? (i := 35) rfl)))) (mvT hZ (hw _ (List.mem_of_getElem? (i := 35) rfl))) (mvT hZ (hw _ (List.mem_of_getElem? (i := 34) rfl))) (by decide) (backOf (W := 0) (rmSwi l Z a0 hw [] b113 bs115 (Int32.ofNat kq.val) (Int32.ofNat kf.val) (3 : Int32) (12 : Int32) own_SL3 T115.heap n0 O116 F115_swaps F115_items Ls115 (own_iy (n := 2) (cn := 6) (own_kb3 kq).1 (own_fb3 kf) (by decide) (by decide) (by decide) (by decide) (by decide))) hZ (hw _ (List.mem_of_getElem? (i := 36) rfl)) (hw _ (List.mem_of_getElem? (i := 2) rfl)) (by decide) (by decide)) q120a q120c (g := (mkF m 48 #[.val (.int i0), .val (.int i1), .val (.int i2), .val (.int (3 : Int32)), .val (.ref b113), .val (.int (6 : Int32)), .val (.int (Int32.ofNat kq.val)), .val (.int (Int32.ofNat kf.val)), .unset, .unset] [(.int (Int32.ofNat kf.val)), (.int (Int32.ofNat kq.val)), (.ref b113)])) rfl (by rw [hml]; rfl) (Steps.refl _) (argsL := [(.int (Int32.ofNat kq.val)), (.int (Int32.ofNat kf.val))]) (rest := []) (lenOf pd_0 rfl) rfl (by show 2 * 0 + _ ≤ _; exact Nat.le_of_eq rfl) (hb hby at_48) (fun _ _ => ⟨rfl, hh117, (by decide : 6 + 0 ≤ _), (by decide : 43 + 0 ≤ _)⟩)
    dsimp only [Pt.U, Pt.locs, Pt.cells, Pt.slots] at X120 l120 y120 z120 st120 hQ120
    subst l120 y120 z120
    obtain ⟨rfl, N120q, hh120⟩ := hQ120
    have N120 := Fr.app N117 N120q
    obtain ⟨_, _, ⟨T121, L121, k121, n121⟩, -, X121, ⟨Lc121, hQ121, l121, y121, z121⟩, st121⟩ := Jvm.LawKit.callS X120 hx (y := (⟨"com/example/frontward/frontward/offline/OrderingsSwappedPinLaw", "moved", "(Lcom/example/frontward/frontward/offline/Orderings;IIII)Z"⟩ : MethodName)) hown (mvT hZ (hw _ (List.mem_of_getElem? (i := 37) rfl))) (mvT hZ (hw _ (List.mem_of_getElem? (i := 38) rfl))) (mvT hZ (hw _ (List.mem_of_getElem? (i := 39) rfl))) (mvT hZ (hw _ (List.mem_of_getElem? (i := 40) rfl))) (by decide) (backOf (W := 0) (rmMov l Z a0 hw [] b113 bp115 (0 : Int32) (Int32.ofNat kq.val) (own_SL3.getD ((((Int32.ofNat kq.val) * ((3 : Int32) - (1 : Int32))) + (Int32.ofNat kf.val))).toNatClampNeg 0) (Int32.ofNat kf.val) (6 : Int32) (18 : Int32) own_PL3 T115.heap n0 O116 Ex115 F115_positions F115_count Lp115 (own_ix (n := 3) (cn := 6) (by decide) (own_kb3 kq).1 (by decide) (by decide) (by decide) (by decide) (by decide)) (own_ix (n := 3) (cn := 6) (by decide) (own_sb hs0 hs1 (by decide)) (by decide) (by decide) (by decide) (by decide) (by decide))) hZ (hw _ (List.mem_of_getElem? (i := 40) rfl)) (hw _ (List.mem_of_getElem? (i := 39) rfl)) (by decide) (by decide)) (g := (mkF m 76 #[.val (.int i0), .val (.int i1), .val (.int i2), .val (.int (3 : Int32)), .val (.ref b113), .val (.int (6 : Int32)), .val (.int (Int32.ofNat kq.val)), .val (.int (Int32.ofNat kf.val)), .val (.int (own_SL3.getD ((((Int32.ofNat kq.val) * ((3 : Int32) - (1 : Int32))) + (Int32.ofNat kf.val))).toNatClampNeg 0)), .unset] [(.int (Int32.ofNat kf.val)), (.int (own_SL3.getD ((((Int32.ofNat kq.val) * ((3 : Int32) - (1 : Int32))) + (Int32.ofNat kf.val))).toNatClampNeg 0)), (.int (Int32.ofNat kq.val)), (.int (0 : Int32)), (.ref b113)])) rfl (by rw [hml]; rfl) (argsL := [(.ref b113), (.int (0 : Int32)), (.int (Int32.ofNat kq.val)), (.int (own_SL3.getD ((((Int32.ofNat kq.val) * ((3 : Int32) - (1 : Int32))) + (Int32.ofNat kf.val))).toNatClampNeg 0)), (.int (Int32.ofNat kf.val))]) (rest := []) (lenOf pd_4 rfl) rfl (by show 2 * 0 + _ ≤ _; exact Nat.le_of_eq rfl) (hb hby at_76) (fun _ _ => ⟨rfl, hh120, (by decide : 6 + 0 ≤ _), (by decide : 43 + 0 ≤ _)⟩)
    dsimp only [Pt.U, Pt.locs, Pt.cells, Pt.slots] at X121 l121 y121 z121 st121 hQ121
    subst l121 y121 z121
    obtain ⟨rfl, N121q, hh121⟩ := hQ121
    have N121 := Fr.app N120 N121q
    obtain ⟨_, _, ⟨T122, L122, k122, n122⟩, -, X122, ⟨Lc122, hQ122, l122, y122, z122⟩, st122⟩ := Jvm.LawKit.callS X121 hx (y := (⟨"com/example/frontward/frontward/offline/OrderingsSwappedPinLaw", "moved", "(Lcom/example/frontward/frontward/offline/Orderings;IIII)Z"⟩ : MethodName)) hown (mvT hZ (hw _ (List.mem_of_getElem? (i := 37) rfl))) (mvT hZ (hw _ (List.mem_of_getElem? (i := 38) rfl))) (mvT hZ (hw _ (List.mem_of_getElem? (i := 39) rfl))) (mvT hZ (hw _ (List.mem_of_getElem? (i := 40) rfl))) (by decide) (backOf (W := 0) (rmMov l Z a0 hw [] b113 bp115 (1 : Int32) (Int32.ofNat kq.val) (own_SL3.getD ((((Int32.ofNat kq.val) * ((3 : Int32) - (1 : Int32))) + (Int32.ofNat kf.val))).toNatClampNeg 0) (Int32.ofNat kf.val) (6 : Int32) (18 : Int32) own_PL3 T115.heap n0 O116 Ex115 F115_positions F115_count Lp115 (own_ix (n := 3) (cn := 6) (by decide) (own_kb3 kq).1 (by decide) (by decide) (by decide) (by decide) (by decide)) (own_ix (n := 3) (cn := 6) (by decide) (own_sb hs0 hs1 (by decide)) (by decide) (by decide) (by decide) (by decide) (by decide))) hZ (hw _ (List.mem_of_getElem? (i := 40) rfl)) (hw _ (List.mem_of_getElem? (i := 39) rfl)) (by decide) (by decide)) (g := (mkF m 95 #[.val (.int i0), .val (.int i1), .val (.int i2), .val (.int (3 : Int32)), .val (.ref b113), .val (.int (6 : Int32)), .val (.int (Int32.ofNat kq.val)), .val (.int (Int32.ofNat kf.val)), .val (.int (own_SL3.getD ((((Int32.ofNat kq.val) * ((3 : Int32) - (1 : Int32))) + (Int32.ofNat kf.val))).toNatClampNeg 0)), .val (.int (1 : Int32))] [(.int (Int32.ofNat kf.val)), (.int (own_SL3.getD ((((Int32.ofNat kq.val) * ((3 : Int32) - (1 : Int32))) + (Int32.ofNat kf.val))).toNatClampNeg 0)), (.int (Int32.ofNat kq.val)), (.int (1 : Int32)), (.ref b113)])) rfl (by rw [hml]; rfl) (argsL := [(.ref b113), (.int (1 : Int32)), (.int (Int32.ofNat kq.val)), (.int (own_SL3.getD ((((Int32.ofNat kq.val) * ((3 : Int32) - (1 : Int32))) + (Int32.ofNat kf.val))).toNatClampNeg 0)), (.int (Int32.ofNat kf.val))]) (rest := []) (lenOf pd_4 rfl) rfl (by show 2 * 0 + _ ≤ _; exact Nat.le_of_eq rfl) (hb hby at_95) (fun _ _ => ⟨rfl, hh121, (by decide : 6 + 0 ≤ _), (by decide : 43 + 0 ≤ _)⟩)
    dsimp only [Pt.U, Pt.locs, Pt.cells, Pt.slots] at X122 l122 y122 z122 st122 hQ122
    subst l122 y122 z122
    obtain ⟨rfl, N122q, hh122⟩ := hQ122
    have N122 := Fr.app N121 N122q
    obtain ⟨_, _, ⟨T123, L123, k123, n123⟩, -, X123, ⟨Lc123, hQ123, l123, y123, z123⟩, st123⟩ := Jvm.LawKit.callS X122 hx (y := (⟨"com/example/frontward/frontward/offline/OrderingsSwappedPinLaw", "moved", "(Lcom/example/frontward/frontward/offline/Orderings;IIII)Z"⟩ : MethodName)) hown (mvT hZ (hw _ (List.mem_of_getElem? (i := 37) rfl))) (mvT hZ (hw _ (List.mem_of_getElem? (i := 38) rfl))) (mvT hZ (hw _ (List.mem_of_getElem? (i := 39) rfl))) (mvT hZ (hw _ (List.mem_of_getElem? (i := 40) rfl))) (by decide) (backOf (W := 0) (rmMov l Z a0 hw [] b113 bp115 (2 : Int32) (Int32.ofNat kq.val) (own_SL3.getD ((((Int32.ofNat kq.val) * ((3 : Int32) - (1 : Int32))) + (Int32.ofNat kf.val))).toNatClampNeg 0) (Int32.ofNat kf.val) (6 : Int32) (18 : Int32) own_PL3 T115.heap n0 O116 Ex115 F115_positions F115_count Lp115 (own_ix (n := 3) (cn := 6) (by decide) (own_kb3 kq).1 (by decide) (by decide) (by decide) (by decide) (by decide)) (own_ix (n := 3) (cn := 6) (by decide) (own_sb hs0 hs1 (by decide)) (by decide) (by decide) (by decide) (by decide) (by decide))) hZ (hw _ (List.mem_of_getElem? (i := 40) rfl)) (hw _ (List.mem_of_getElem? (i := 39) rfl)) (by decide) (by decide)) (g := (mkF m 127 #[.val (.int i0), .val (.int i1), .val (.int i2), .val (.int (3 : Int32)), .val (.ref b113), .val (.int (6 : Int32)), .val (.int (Int32.ofNat kq.val)), .val (.int (Int32.ofNat kf.val)), .val (.int (own_SL3.getD ((((Int32.ofNat kq.val) * ((3 : Int32) - (1 : Int32))) + (Int32.ofNat kf.val))).toNatClampNeg 0)), .val (.int (1 : Int32))] [(.int (Int32.ofNat kf.val)), (.int (own_SL3.getD ((((Int32.ofNat kq.val) * ((3 : Int32) - (1 : Int32))) + (Int32.ofNat kf.val))).toNatClampNeg 0)), (.int (Int32.ofNat kq.val)), (.int (2 : Int32)), (.ref b113)])) rfl (by rw [hml]; rfl) (argsL := [(.ref b113), (.int (2 : Int32)), (.int (Int32.ofNat kq.val)), (.int (own_SL3.getD ((((Int32.ofNat kq.val) * ((3 : Int32) - (1 : Int32))) + (Int32.ofNat kf.val))).toNatClampNeg 0)), (.int (Int32.ofNat kf.val))]) (rest := []) (lenOf pd_4 rfl) rfl (by show 2 * 0 + _ ≤ _; exact Nat.le_of_eq rfl) (hb hby at_127) (fun _ _ => ⟨rfl, hh122, (by decide : 6 + 0 ≤ _), (by decide : 43 + 0 ≤ _)⟩)
    dsimp only [Pt.U, Pt.locs, Pt.cells, Pt.slots] at X123 l123 y123 z123 st123 hQ123
    subst l123 y123 z123
    obtain ⟨rfl, N123q, hh123⟩ := hQ123
    have N123 := Fr.app N122 N123q
    obtain ⟨fs, hr, hrun, hended, hW, hsame⟩ := X123.leave (v := some (.int (1 : Int32))) (fun h => by rw [Bd.returns] at h; cases h)
    refine ⟨_, _, pre119 _ ?_, hrun, hended, _, _, rfl, ?_, ⟨_, rfl⟩, hW, hsame.mono (by decide) (by decide)⟩
    · skip
      show Steps p.tables e below (T117.setTop (mkF m 40 #[.val (.int i0), .val (.int i1), .val (.int i2), .val (.int (3 : Int32)), .val (.ref b113), .val (.int (6 : Int32)), .val (.int (Int32.ofNat kq.val)), .unset, .unset, .unset] [(.int ((i2 &&& (2147483647 : Int32)) % (2 : Int32)))])) _
      rw [hkf]
      refine XS.istore X117.here hx rfl (hb hby at_40) rfl (l' := #[.val (.int i0), .val (.int i1), .val (.int i2), .val (.int (3 : Int32)), .val (.ref b113), .val (.int (6 : Int32)), .val (.int (Int32.ofNat kq.val)), .val (.int (Int32.ofNat kf.val)), .unset, .unset]) rfl ?_
      show Steps p.tables e below (T117.setTop (mkF m 42 #[.val (.int i0), .val (.int i1), .val (.int i2), .val (.int (3 : Int32)), .val (.ref b113), .val (.int (6 : Int32)), .val (.int (Int32.ofNat kq.val)), .val (.int (Int32.ofNat kf.val)), .unset, .unset] [])) _
      refine XS.aload X117.here hx rfl (hb hby at_42) rfl rfl ?_
      refine XS.iload X117.here hx rfl (hb hby at_44) rfl ?_
      refine XS.iload X117.here hx rfl (hb hby at_46) rfl ?_
      refine st120.trans ?_
      refine XS.istore X120.here hx rfl (hb hby at_51) rfl (l' := #[.val (.int i0), .val (.int i1), .val (.int i2), .val (.int (3 : Int32)), .val (.ref b113), .val (.int (6 : Int32)), .val (.int (Int32.ofNat kq.val)), .val (.int (Int32.ofNat kf.val)), .val (.int (own_SL3.getD ((((Int32.ofNat kq.val) * ((3 : Int32) - (1 : Int32))) + (Int32.ofNat kf.val))).toNatClampNeg 0)), .unset]) rfl ?_
      refine XS.iload X120.here hx rfl (hb hby at_53) rfl ?_
      show Steps p.tables e below (T120.setTop (mkF m 55 #[.val (.int i0), .val (.int i1), .val (.int i2), .val (.int (3 : Int32)), .val (.ref b113), .val (.int (6 : Int32)), .val (.int (Int32.ofNat kq.val)), .val (.int (Int32.ofNat kf.val)), .val (.int (own_SL3.getD ((((Int32.ofNat kq.val) * ((3 : Int32) - (1 : Int32))) + (Int32.ofNat kf.val))).toNatClampNeg 0)), .unset] [(.int (own_SL3.getD ((((Int32.ofNat kq.val) * ((3 : Int32) - (1 : Int32))) + (Int32.ofNat kf.val))).toNatClampNeg 0))])) _
      refine XS.ifNo X120.here hx rfl (hb hby at_55) rfl ((if0 _ _).trans (flt hs0).1) ?_
      refine XS.iload X120.here hx rfl (hb hby at_58) rfl ?_
      refine XS.iload X120.here hx rfl (hb hby at_60) rfl ?_
      show Steps p.tables e below (T120.setTop (mkF m 62 #[.val (.int i0), .val (.int i1), .val (.int i2), .val (.int (3 : Int32)), .val (.ref b113), .val (.int (6 : Int32)), .val (.int (Int32.ofNat kq.val)), .val (.int (Int32.ofNat kf.val)), .val (.int (own_SL3.getD ((((Int32.ofNat kq.val) * ((3 : Int32) - (1 : Int32))) + (Int32.ofNat kf.val))).toNatClampNeg 0)), .unset] [(.int (6 : Int32)), (.int (own_SL3.getD ((((Int32.ofNat kq.val) * ((3 : Int32) - (1 : Int32))) + (Int32.ofNat kf.val))).toNatClampNeg 0))])) _
      refine XS.icmpYes X120.here hx rfl (pc0 := 62) (pc' := 67) rfl (hb hby at_62) rfl (tlt hs1).1 (by decide) (by decide) ?_
      refine XS.aload X120.here hx rfl (hb hby at_67) rfl rfl ?_
      refine XS.iconst X120.here hx rfl (hb hby at_69) ?_
      refine XS.iload X120.here hx rfl (hb hby at_70) rfl ?_
      refine XS.iload X120.here hx rfl (hb hby at_72) rfl ?_
      refine XS.iload X120.here hx rfl (hb hby at_74) rfl ?_
      refine st121 _ ?_
      show Steps p.tables e below (T121.setTop (mkF m 79 #[.val (.int i0), .val (.int i1), .val (.int i2), .val (.int (3 : Int32)), .val (.ref b113), .val (.int (6 : Int32)), .val (.int (Int32.ofNat kq.val)), .val (.int (Int32.ofNat kf.val)), .val (.int (own_SL3.getD ((((Int32.ofNat kq.val) * ((3 : Int32) - (1 : Int32))) + (Int32.ofNat kf.val))).toNatClampNeg 0)), .unset] [(.int (own_mv (own_PL3.getD ((((0 : Int32) * (6 : Int32)) + (Int32.ofNat kq.val))).toNatClampNeg 0) (own_PL3.getD ((((0 : Int32) * (6 : Int32)) + (own_SL3.getD ((((Int32.ofNat kq.val) * ((3 : Int32) - (1 : Int32))) + (Int32.ofNat kf.val))).toNatClampNeg 0))).toNatClampNeg 0) (Int32.ofNat kf.val)))])) _
      rw [hm0]
      refine XS.istore X121.here hx rfl (hb hby at_79) rfl (l' := #[.val (.int i0), .val (.int i1), .val (.int i2), .val (.int (3 : Int32)), .val (.ref b113), .val (.int (6 : Int32)), .val (.int (Int32.ofNat kq.val)), .val (.int (Int32.ofNat kf.val)), .val (.int (own_SL3.getD ((((Int32.ofNat kq.val) * ((3 : Int32) - (1 : Int32))) + (Int32.ofNat kf.val))).toNatClampNeg 0)), .val (.int (1 : Int32))]) rfl ?_
      refine XS.iload X121.here hx rfl (hb hby at_81) rfl ?_
      show Steps p.tables e below (T121.setTop (mkF m 83 #[.val (.int i0), .val (.int i1), .val (.int i2), .val (.int (3 : Int32)), .val (.ref b113), .val (.int (6 : Int32)), .val (.int (Int32.ofNat kq.val)), .val (.int (Int32.ofNat kf.val)), .val (.int (own_SL3.getD ((((Int32.ofNat kq.val) * ((3 : Int32) - (1 : Int32))) + (Int32.ofNat kf.val))).toNatClampNeg 0)), .val (.int (1 : Int32))] [(.int (1 : Int32))])) _
      refine XS.ifNo X121.here hx rfl (hb hby at_83) rfl (by decide) ?_
      refine XS.aload X121.here hx rfl (hb hby at_86) rfl rfl ?_
      refine XS.iconst X121.here hx rfl (hb hby at_88) ?_
      refine XS.iload X121.here hx rfl (hb hby at_89) rfl ?_
      refine XS.iload X121.here hx rfl (hb hby at_91) rfl ?_
      refine XS.iload X121.here hx rfl (hb hby at_93) rfl ?_
      show Steps p.tables e below (T121.setTop (mkF m 95 #[.val (.int i0), .val (.int i1), .val (.int i2), .val (.int (3 : Int32)), .val (.ref b113), .val (.int (6 : Int32)), .val (.int (Int32.ofNat kq.val)), .val (.int (Int32.ofNat kf.val)), .val (.int (own_SL3.getD ((((Int32.ofNat kq.val) * ((3 : Int32) - (1 : Int32))) + (Int32.ofNat kf.val))).toNatClampNeg 0)), .val (.int (1 : Int32))] [(.int (Int32.ofNat kf.val)), (.int (own_SL3.getD ((((Int32.ofNat kq.val) * ((3 : Int32) - (1 : Int32))) + (Int32.ofNat kf.val))).toNatClampNeg 0)), (.int (Int32.ofNat kq.val)), (.int (1 : Int32)), (.ref b113)])) _
      refine st122 _ ?_
      show Steps p.tables e below (T122.setTop (mkF m 98 #[.val (.int i0), .val (.int i1), .val (.int i2), .val (.int (3 : Int32)), .val (.ref b113), .val (.int (6 : Int32)), .val (.int (Int32.ofNat kq.val)), .val (.int (Int32.ofNat kf.val)), .val (.int (own_SL3.getD ((((Int32.ofNat kq.val) * ((3 : Int32) - (1 : Int32))) + (Int32.ofNat kf.val))).toNatClampNeg 0)), .val (.int (1 : Int32))] [(.int (own_mv (own_PL3.getD ((((1 : Int32) * (6 : Int32)) + (Int32.ofNat kq.val))).toNatClampNeg 0) (own_PL3.getD ((((1 : Int32) * (6 : Int32)) + (own_SL3.getD ((((Int32.ofNat kq.val) * ((3 : Int32) - (1 : Int32))) + (Int32.ofNat kf.val))).toNatClampNeg 0))).toNatClampNeg 0) (Int32.ofNat kf.val)))])) _
      rw [hm1]
      show Steps p.tables e below (T122.setTop (mkF m 98 #[.val (.int i0), .val (.int i1), .val (.int i2), .val (.int (3 : Int32)), .val (.ref b113), .val (.int (6 : Int32)), .val (.int (Int32.ofNat kq.val)), .val (.int (Int32.ofNat kf.val)), .val (.int (own_SL3.getD ((((Int32.ofNat kq.val) * ((3 : Int32) - (1 : Int32))) + (Int32.ofNat kf.val))).toNatClampNeg 0)), .val (.int (1 : Int32))] [(.int (1 : Int32))])) _
      refine XS.ifNo X122.here hx rfl (hb hby at_98) rfl (by decide) ?_
      refine XS.iconst X122.here hx rfl (hb hby at_101) ?_
      refine XS.goto X122.here hx rfl (pc0 := 102) (pc' := 106) rfl (hb hby at_102) (by decide) (by decide) ?_
      refine XS.istore X122.here hx rfl (hb hby at_106) rfl (l' := #[.val (.int i0), .val (.int i1), .val (.int i2), .val (.int (3 : Int32)), .val (.ref b113), .val (.int (6 : Int32)), .val (.int (Int32.ofNat kq.val)), .val (.int (Int32.ofNat kf.val)), .val (.int (own_SL3.getD ((((Int32.ofNat kq.val) * ((3 : Int32) - (1 : Int32))) + (Int32.ofNat kf.val))).toNatClampNeg 0)), .val (.int (1 : Int32))]) rfl ?_
      refine XS.iloadN X122.here hx rfl (hb hby at_108) rfl ?_
      refine XS.iconst X122.here hx rfl (hb hby at_109) ?_
      show Steps p.tables e below (T122.setTop (mkF m 110 #[.val (.int i0), .val (.int i1), .val (.int i2), .val (.int (3 : Int32)), .val (.ref b113), .val (.int (6 : Int32)), .val (.int (Int32.ofNat kq.val)), .val (.int (Int32.ofNat kf.val)), .val (.int (own_SL3.getD ((((Int32.ofNat kq.val) * ((3 : Int32) - (1 : Int32))) + (Int32.ofNat kf.val))).toNatClampNeg 0)), .val (.int (1 : Int32))] [(.int (2 : Int32)), (.int (3 : Int32))])) _
      refine XS.icmpNo X122.here hx rfl (hb hby at_110) rfl (by decide) ?_
      refine XS.iload X122.here hx rfl (hb hby at_113) rfl ?_
      show Steps p.tables e below (T122.setTop (mkF m 115 #[.val (.int i0), .val (.int i1), .val (.int i2), .val (.int (3 : Int32)), .val (.ref b113), .val (.int (6 : Int32)), .val (.int (Int32.ofNat kq.val)), .val (.int (Int32.ofNat kf.val)), .val (.int (own_SL3.getD ((((Int32.ofNat kq.val) * ((3 : Int32) - (1 : Int32))) + (Int32.ofNat kf.val))).toNatClampNeg 0)), .val (.int (1 : Int32))] [(.int (1 : Int32))])) _
      refine XS.ifNo X122.here hx rfl (hb hby at_115) rfl (by decide) ?_
      refine XS.aload X122.here hx rfl (hb hby at_118) rfl rfl ?_
      refine XS.iconst X122.here hx rfl (hb hby at_120) ?_
      refine XS.iload X122.here hx rfl (hb hby at_121) rfl ?_
      refine XS.iload X122.here hx rfl (hb hby at_123) rfl ?_
      refine XS.iload X122.here hx rfl (hb hby at_125) rfl ?_
      refine st123 _ ?_
      show Steps p.tables e below (T123.setTop (mkF m 130 #[.val (.int i0), .val (.int i1), .val (.int i2), .val (.int (3 : Int32)), .val (.ref b113), .val (.int (6 : Int32)), .val (.int (Int32.ofNat kq.val)), .val (.int (Int32.ofNat kf.val)), .val (.int (own_SL3.getD ((((Int32.ofNat kq.val) * ((3 : Int32) - (1 : Int32))) + (Int32.ofNat kf.val))).toNatClampNeg 0)), .val (.int (1 : Int32))] [(.int (own_mv (own_PL3.getD ((((2 : Int32) * (6 : Int32)) + (Int32.ofNat kq.val))).toNatClampNeg 0) (own_PL3.getD ((((2 : Int32) * (6 : Int32)) + (own_SL3.getD ((((Int32.ofNat kq.val) * ((3 : Int32) - (1 : Int32))) + (Int32.ofNat kf.val))).toNatClampNeg 0))).toNatClampNeg 0) (Int32.ofNat kf.val)))])) _
      rw [hm2]
      show Steps p.tables e below (T123.setTop (mkF m 130 #[.val (.int i0), .val (.int i1), .val (.int i2), .val (.int (3 : Int32)), .val (.ref b113), .val (.int (6 : Int32)), .val (.int (Int32.ofNat kq.val)), .val (.int (Int32.ofNat kf.val)), .val (.int (own_SL3.getD ((((Int32.ofNat kq.val) * ((3 : Int32) - (1 : Int32))) + (Int32.ofNat kf.val))).toNatClampNeg 0)), .val (.int (1 : Int32))] [(.int (1 : Int32))])) _
      refine XS.ifNo X123.here hx rfl (hb hby at_130) rfl (by decide) ?_
      refine XS.iconst X123.here hx rfl (hb hby at_133) ?_
      refine XS.goto X123.here hx rfl (pc0 := 134) (pc' := 138) rfl (hb hby at_134) (by decide) (by decide) ?_
      refine XS.istore X123.here hx rfl (hb hby at_138) rfl (l' := #[.val (.int i0), .val (.int i1), .val (.int i2), .val (.int (3 : Int32)), .val (.ref b113), .val (.int (6 : Int32)), .val (.int (Int32.ofNat kq.val)), .val (.int (Int32.ofNat kf.val)), .val (.int (own_SL3.getD ((((Int32.ofNat kq.val) * ((3 : Int32) - (1 : Int32))) + (Int32.ofNat kf.val))).toNatClampNeg 0)), .val (.int (1 : Int32))]) rfl ?_
      refine XS.iloadN X123.here hx rfl (hb hby at_140) rfl ?_
      refine XS.iconst X123.here hx rfl (hb hby at_141) ?_
      show Steps p.tables e below (T123.setTop (mkF m 142 #[.val (.int i0), .val (.int i1), .val (.int i2), .val (.int (3 : Int32)), .val (.ref b113), .val (.int (6 : Int32)), .val (.int (Int32.ofNat kq.val)), .val (.int (Int32.ofNat kf.val)), .val (.int (own_SL3.getD ((((Int32.ofNat kq.val) * ((3 : Int32) - (1 : Int32))) + (Int32.ofNat kf.val))).toNatClampNeg 0)), .val (.int (1 : Int32))] [(.int (3 : Int32)), (.int (3 : Int32))])) _
      refine XS.icmpYes X123.here hx rfl (pc0 := 142) (pc' := 172) rfl (hb hby at_142) rfl (by decide) (by decide) (by decide) ?_
      show Steps p.tables e below (T123.setTop (mkF m 172 #[.val (.int i0), .val (.int i1), .val (.int i2), .val (.int (3 : Int32)), .val (.ref b113), .val (.int (6 : Int32)), .val (.int (Int32.ofNat kq.val)), .val (.int (Int32.ofNat kf.val)), .val (.int (own_SL3.getD ((((Int32.ofNat kq.val) * ((3 : Int32) - (1 : Int32))) + (Int32.ofNat kf.val))).toNatClampNeg 0)), .val (.int (1 : Int32))] [])) _
      refine XS.iloadN X123.here hx rfl (hb hby at_172) rfl ?_
      refine XS.iconst X123.here hx rfl (hb hby at_173) ?_
      show Steps p.tables e below (T123.setTop (mkF m 174 #[.val (.int i0), .val (.int i1), .val (.int i2), .val (.int (3 : Int32)), .val (.ref b113), .val (.int (6 : Int32)), .val (.int (Int32.ofNat kq.val)), .val (.int (Int32.ofNat kf.val)), .val (.int (own_SL3.getD ((((Int32.ofNat kq.val) * ((3 : Int32) - (1 : Int32))) + (Int32.ofNat kf.val))).toNatClampNeg 0)), .val (.int (1 : Int32))] [(.int (4 : Int32)), (.int (3 : Int32))])) _
      refine XS.icmpYes X123.here hx rfl (pc0 := 174) (pc' := 204) rfl (hb hby at_174) rfl (by decide) (by decide) (by decide) ?_
      refine XS.iload X123.here hx rfl (hb hby at_204) rfl ?_
      show Steps p.tables e below (T123.setTop (mkF m 206 #[.val (.int i0), .val (.int i1), .val (.int i2), .val (.int (3 : Int32)), .val (.ref b113), .val (.int (6 : Int32)), .val (.int (Int32.ofNat kq.val)), .val (.int (Int32.ofNat kf.val)), .val (.int (own_SL3.getD ((((Int32.ofNat kq.val) * ((3 : Int32) - (1 : Int32))) + (Int32.ofNat kf.val))).toNatClampNeg 0)), .val (.int (1 : Int32))] [(.int (1 : Int32))])) _
      exact retN X123 hx (t := .boolean) Bd.returns (by simp) (hb hby at_206) hr
    · show QL n0 _ T123.heap _
      rw [hh123]
      exact ⟨rfl, N123⟩
  · skip
    obtain ⟨T124, h124, X124, e124, E124, A124, D124, -, st124⟩ := newO X0 hx hZ hown (hw _ (List.mem_of_getElem? (i := 0) rfl)) (hw _ (List.mem_of_getElem? (i := 1) rfl)) (hw _ (List.mem_of_getElem? (i := 2) rfl)) e0 (g := (mkF m 6 #[.val (.int i0), .val (.int i1), .val (.int i2), .val (.int (4 : Int32)), .unset, .unset, .unset, .unset, .unset, .unset] [])) rfl (hb hby at_6) (by decide) (by decide)
    obtain ⟨b124, g124⟩ : ∃ z, z = h0.size := ⟨_, rfl⟩
    rw [← g124] at A124 D124 st124
    have gb124 : n0 ≤ b124 := by rw [g124, ← O0.1]; exact O0.2.1
    have F124_items : Fld Z h124 b124 "com/example/frontward/frontward/offline/Orderings" "items" "I" (.int (0 : Int32)) := D124 (Or.inr (hw _ (List.mem_of_getElem? (i := 11) rfl))) (ty := .int) (by decide)
    have F124_count : Fld Z h124 b124 "com/example/frontward/frontward/offline/Orderings" "count" "I" (.int (0 : Int32)) := D124 (Or.inr (hw _ (List.mem_of_getElem? (i := 13) rfl))) (ty := .int) (by decide)
    have F124_positions : Fld Z h124 b124 "com/example/frontward/frontward/offline/Orderings" "positions" "[B" .null := D124 (Or.inr (hw _ (List.mem_of_getElem? (i := 16) rfl))) (ty := (.array .byte)) (by decide)
    have F124_swaps : Fld Z h124 b124 "com/example/frontward/frontward/offline/Orderings" "swaps" "[I" .null := D124 (Or.inr (hw _ (List.mem_of_getElem? (i := 18) rfl))) (ty := (.array .int)) (by decide)
    have O125 : Old Z n0 h124 := (O0.ext E124)
    obtain ⟨_, _, ⟨T126, L126, k126, n126⟩, -, X126, ⟨Lc126, hQ126, l126, y126, z126⟩, st126⟩ := X124.specialBack hx (y := (⟨"com/example/frontward/frontward/offline/Orderings", "<init>", "(I)V"⟩ : MethodName)) rfl hown (mvT hZ (hw _ (List.mem_of_getElem? (i := 3) rfl))) (mvT hZ (hw _ (List.mem_of_getElem? (i := 4) rfl))) (mvT hZ (hw _ (List.mem_of_getElem? (i := 5) rfl))) (by decide) (backOf (W := 1) (rmC4 l Z a0 hw [] b124 h124 n0 O125 A124 F124_items F124_count F124_positions F124_swaps gb124) hZ (hw _ (List.mem_of_getElem? (i := 5) rfl)) (hw _ (List.mem_of_getElem? (i := 2) rfl)) (by decide) (by decide)) (g := (mkF m 11 #[.val (.int i0), .val (.int i1), .val (.int i2), .val (.int (4 : Int32)), .unset, .unset, .unset, .unset, .unset, .unset] [(.int (4 : Int32)), (.ref b124), (.ref b124)])) rfl (by rw [hml]; rfl) (Steps.refl _) (a := b124) (argsL := [(.int (4 : Int32))]) (rest := [(.ref b124)]) (lenOf pd_2 rfl) rfl (by show 2 * 0 + _ ≤ _; exact Nat.le_of_eq rfl) (hb hby at_11) (fun _ _ => ⟨rfl, e124, (by decide : 1 + 5 ≤ _), (by decide : 4 + 180 ≤ _)⟩)
    dsimp only [Pt.U, Pt.locs, Pt.cells, Pt.slots] at X126 l126 y126 z126 st126 hQ126
    subst l126 y126 z126
    obtain ⟨rfl, N126q, K126, bp126, bs126, Ex126, F126_items, F126_count, F126_positions, F126_swaps, Lp126, Ls126⟩ := hQ126
    have N126 := Fr.app N0 N126q
    have O127 : Old Z n0 T126.heap := (O125.keep K126 (allS gb124 all0))
    obtain ⟨cq128, kq128, q128a, q128b, q128c⟩ := isOf hZ rfl Ex126
    obtain ⟨_, _, ⟨T128, L128, k128, n128⟩, -, X128, ⟨Lc128, hQ128, l128, y128, z128⟩, st128⟩ := X126.virtualBack hx (y := (⟨"com/example/frontward/frontward/offline/Orderings", "count", "()I"⟩ : MethodName)) (z := (⟨"com/example/frontward/frontward/offline/Orderings", "count", "()I"⟩ : MethodName)) hown (mvT hZ (hw _ (List.mem_of_getElem? (i := 26) rfl))) (mvT hZ (hw _ (List.mem_of_getElem? (i := 27) rfl))) (notFace_of_selects (args := #[]) (mvT hZ (hw _ (List.mem_of_getElem? (i := 29) rfl)))) (mvT hZ (hw _ (List.mem_of_getElem? (i := 29) rfl))) (mvT hZ (hw _ (List.mem_of_getElem? (i := 28) rfl))) (by decide) (backOf (W := 0) (rmCnt l Z a0 hw [] b124 (24 : Int32) T126.heap n0 O127 F126_count) hZ (hw _ (List.mem_of_getElem? (i := 30) rfl)) (hw _ (List.mem_of_getElem? (i := 2) rfl)) (by decide) (by decide)) q128a q128c (g := (mkF m 18 #[.val (.int i0), .val (.int i1), .val (.int i2), .val (.int (4 : Int32)), .val (.ref b124), .unset, .unset, .unset, .unset, .unset] [(.ref b124)])) rfl (by rw [hml]; rfl) (Steps.refl _) (argsL := []) (rest := []) (lenOf pd_3 rfl) rfl (by show 2 * 0 + _ ≤ _; exact Nat.le_of_eq rfl) (hb hby at_18) (fun _ _ => ⟨rfl, rfl, (by decide : 6 + 0 ≤ _), (by decide : 184 + 0 ≤ _)⟩)
    dsimp only [Pt.U, Pt.locs, Pt.cells, Pt.slots] at X128 l128 y128 z128 st128 hQ128
    subst l128 y128 z128
    obtain ⟨rfl, N128q, hh128⟩ := hQ128
    have N128 := Fr.app N126 N128q
    have pre129 : ∀ t, Steps p.tables e below (T128.setTop (mkF m 30 #[.val (.int i0), .val (.int i1), .val (.int i2), .val (.int (4 : Int32)), .val (.ref b124), .val (.int (24 : Int32)), .unset, .unset, .unset, .unset] [(.int ((i1 &&& (2147483647 : Int32)) % (24 : Int32)))])) t → Steps p.tables e below (s₁.setTop (entryFrame m #[(.int i0), (.int i1), (.int i2)] maxLocals)) t := fun t kt => pre101 t (by
        show Steps p.tables e below (s₁.setTop (mkF m 5 #[.val (.int i0), .val (.int i1), .val (.int i2), .unset, .unset, .unset, .unset, .unset, .unset, .unset] [(.int ((2 : Int32) + (i0 &&& (3 : Int32))))])) _
        rw [hk102]
        refine XS.istoreN X0.here hx rfl (hb hby at_5) rfl (l' := #[.val (.int i0), .val (.int i1), .val (.int i2), .val (.int (4 : Int32)), .unset, .unset, .unset, .unset, .unset, .unset]) rfl ?_
        refine st124 _ ?_
        refine XS.dup X124.here hx rfl (hb hby at_9) rfl rfl ?_
        refine XS.iloadN X124.here hx rfl (hb hby at_10) rfl ?_
        refine st126.trans ?_
        refine XS.astore X126.here hx rfl (hb hby at_14) rfl rfl (l' := #[.val (.int i0), .val (.int i1), .val (.int i2), .val (.int (4 : Int32)), .val (.ref b124), .unset, .unset, .unset, .unset, .unset]) rfl ?_
        refine XS.aload X126.here hx rfl (hb hby at_16) rfl rfl ?_
        refine st128.trans ?_
        refine XS.istore X128.here hx rfl (hb hby at_21) rfl (l' := #[.val (.int i0), .val (.int i1), .val (.int i2), .val (.int (4 : Int32)), .val (.ref b124), .val (.int (24 : Int32)), .unset, .unset, .unset, .unset]) rfl ?_
        refine XS.iloadN X128.here hx rfl (hb hby at_23) rfl ?_
        refine X128.ldcInt hx hown (mvT hZ (hw _ (List.mem_of_getElem? (i := 31) rfl))) (g := (mkF m 24 #[.val (.int i0), .val (.int i1), .val (.int i2), .val (.int (4 : Int32)), .val (.ref b124), .val (.int (24 : Int32)), .unset, .unset, .unset, .unset] [(.int i1)])) rfl (hb hby at_24) _ ?_
        refine XS.iand X128.here hx rfl (hb hby at_26) rfl ?_
        refine XS.iload X128.here hx rfl (hb hby at_27) rfl ?_
        refine iremM X128 hx rfl (hb hby at_29) rfl (by decide) ?_
        exact kt)
    obtain ⟨kq, hkq⟩ := own_rem24 i1
    have pre130 : ∀ t, Steps p.tables e below (T128.setTop (mkF m 40 #[.val (.int i0), .val (.int i1), .val (.int i2), .val (.int (4 : Int32)), .val (.ref b124), .val (.int (24 : Int32)), .val (.int (Int32.ofNat kq.val)), .unset, .unset, .unset] [(.int ((i2 &&& (2147483647 : Int32)) % (3 : Int32)))])) t → Steps p.tables e below (s₁.setTop (entryFrame m #[(.int i0), (.int i1), (.int i2)] maxLocals)) t := fun t kt => pre129 t (by
        show Steps p.tables e below (T128.setTop (mkF m 30 #[.val (.int i0), .val (.int i1), .val (.int i2), .val (.int (4 : Int32)), .val (.ref b124), .val (.int (24 : Int32)), .unset, .unset, .unset, .unset] [(.int ((i1 &&& (2147483647 : Int32)) % (24 : Int32)))])) _
        rw [hkq]
        refine XS.istore X128.here hx rfl (hb hby at_30) rfl (l' := #[.val (.int i0), .val (.int i1), .val (.int i2), .val (.int (4 : Int32)), .val (.ref b124), .val (.int (24 : Int32)), .val (.int (Int32.ofNat kq.val)), .unset, .unset, .unset]) rfl ?_
        refine XS.iloadN X128.here hx rfl (hb hby at_32) rfl ?_
        refine X128.ldcInt hx hown (mvT hZ (hw _ (List.mem_of_getElem? (i := 31) rfl))) (g := (mkF m 33 #[.val (.int i0), .val (.int i1), .val (.int i2), .val (.int (4 : Int32)), .val (.ref b124), .val (.int (24 : Int32)), .val (.int (Int32.ofNat kq.val)), .unset, .unset, .unset] [(.int i2)])) rfl (hb hby at_33) _ ?_
        refine XS.iand X128.here hx rfl (hb hby at_35) rfl ?_
        show Steps p.tables e below (T128.setTop (mkF m 36 #[.val (.int i0), .val (.int i1), .val (.int i2), .val (.int (4 : Int32)), .val (.ref b124), .val (.int (24 : Int32)), .val (.int (Int32.ofNat kq.val)), .unset, .unset, .unset] [(.int (i2 &&& (2147483647 : Int32)))])) _
        refine XS.iloadN X128.here hx rfl (hb hby at_36) rfl ?_
        refine XS.iconst X128.here hx rfl (hb hby at_37) ?_
        refine XS.isub X128.here hx rfl (hb hby at_38) rfl ?_
        refine iremM X128 hx rfl (hb hby at_39) rfl (by decide) ?_
        exact kt)
    obtain ⟨kf, hkf⟩ := own_rem3 i2
    obtain ⟨hs0, hs1, hm0, hm1, hm2, hm3⟩ := own_w4 kq kf
    obtain ⟨cq131, kq131, q131a, q131b, q131c⟩ := isOf hZ hh128 Ex126
    obtain ⟨_, _, ⟨T131, L131, k131, n131⟩, -, X131, ⟨Lc131, hQ131, l131, y131, z131⟩, st131⟩ := X128.virtualBack hx (y := (⟨"com/example/frontward/frontward/offline/Orderings", "swapped", "(II)I"⟩ : MethodName)) (z := (⟨"com/example/frontward/frontward/offline/Orderings", "swapped", "(II)I"⟩ : MethodName)) hown (mvT hZ (hw _ (List.mem_of_getElem? (i := 32) rfl))) (mvT hZ (hw _ (List.mem_of_getElem? (i := 33) rfl))) (notFace_of_selects (args := #[]) (mvT hZ (hw _ (List.mem_of_getElem? (i := 35) rfl)))) (mvT hZ (hw _ (List.mem_of_getElem? (i := 35) rfl))) (mvT hZ (hw _ (List.mem_of_getElem? (i := 34) rfl))) (by decide) (backOf (W := 0) (rmSwi l Z a0 hw [] b124 bs126 (Int32.ofNat kq.val) (Int32.ofNat kf.val) (4 : Int32) (72 : Int32) own_SL4 T126.heap n0 O127 F126_swaps F126_items Ls126 (own_iy (n := 3) (cn := 24) (own_kb4 kq).1 (own_fb4 kf) (by decide) (by decide) (by decide) (by decide) (by decide))) hZ (hw _ (List.mem_of_getElem? (i := 36) rfl)) (hw _ (List.mem_of_getElem? (i := 2) rfl)) (by decide) (by decide)) q131a q131c (g := (mkF m 48 #[.val (.int i0), .val (.int i1), .val (.int i2), .val (.int (4 : Int32)), .val (.ref b124), .val (.int (24 : Int32)), .val (.int (Int32.ofNat kq.val)), .val (.int (Int32.ofNat kf.val)), .unset, .unset] [(.int (Int32.ofNat kf.val)), (.int (Int32.ofNat kq.val)), (.ref b124)])) rfl (by rw [hml]; rfl) (Steps.refl _) (argsL := [(.int (Int32.ofNat kq.val)), (.int (Int32.ofNat kf.val))]) (rest := []) (lenOf pd_0 rfl) rfl (by show 2 * 0 + _ ≤ _; exact Nat.le_of_eq rfl) (hb hby at_48) (fun _ _ => ⟨rfl, hh128, (by decide : 6 + 0 ≤ _), (by decide : 184 + 0 ≤ _)⟩)
    dsimp only [Pt.U, Pt.locs, Pt.cells, Pt.slots] at X131 l131 y131 z131 st131 hQ131
    subst l131 y131 z131
    obtain ⟨rfl, N131q, hh131⟩ := hQ131
    have N131 := Fr.app N128 N131q
    obtain ⟨_, _, ⟨T132, L132, k132, n132⟩, -, X132, ⟨Lc132, hQ132, l132, y132, z132⟩, st132⟩ := Jvm.LawKit.callS X131 hx (y := (⟨"com/example/frontward/frontward/offline/OrderingsSwappedPinLaw", "moved", "(Lcom/example/frontward/frontward/offline/Orderings;IIII)Z"⟩ : MethodName)) hown (mvT hZ (hw _ (List.mem_of_getElem? (i := 37) rfl))) (mvT hZ (hw _ (List.mem_of_getElem? (i := 38) rfl))) (mvT hZ (hw _ (List.mem_of_getElem? (i := 39) rfl))) (mvT hZ (hw _ (List.mem_of_getElem? (i := 40) rfl))) (by decide) (backOf (W := 0) (rmMov l Z a0 hw [] b124 bp126 (0 : Int32) (Int32.ofNat kq.val) (own_SL4.getD ((((Int32.ofNat kq.val) * ((4 : Int32) - (1 : Int32))) + (Int32.ofNat kf.val))).toNatClampNeg 0) (Int32.ofNat kf.val) (24 : Int32) (96 : Int32) own_PL4 T126.heap n0 O127 Ex126 F126_positions F126_count Lp126 (own_ix (n := 4) (cn := 24) (by decide) (own_kb4 kq).1 (by decide) (by decide) (by decide) (by decide) (by decide)) (own_ix (n := 4) (cn := 24) (by decide) (own_sb hs0 hs1 (by decide)) (by decide) (by decide) (by decide) (by decide) (by decide))) hZ (hw _ (List.mem_of_getElem? (i := 40) rfl)) (hw _ (List.mem_of_getElem? (i := 39) rfl)) (by decide) (by decide)) (g := (mkF m 76 #[.val (.int i0), .val (.int i1), .val (.int i2), .val (.int (4 : Int32)), .val (.ref b124), .val (.int (24 : Int32)), .val (.int (Int32.ofNat kq.val)), .val (.int (Int32.ofNat kf.val)), .val (.int (own_SL4.getD ((((Int32.ofNat kq.val) * ((4 : Int32) - (1 : Int32))) + (Int32.ofNat kf.val))).toNatClampNeg 0)), .unset] [(.int (Int32.ofNat kf.val)), (.int (own_SL4.getD ((((Int32.ofNat kq.val) * ((4 : Int32) - (1 : Int32))) + (Int32.ofNat kf.val))).toNatClampNeg 0)), (.int (Int32.ofNat kq.val)), (.int (0 : Int32)), (.ref b124)])) rfl (by rw [hml]; rfl) (argsL := [(.ref b124), (.int (0 : Int32)), (.int (Int32.ofNat kq.val)), (.int (own_SL4.getD ((((Int32.ofNat kq.val) * ((4 : Int32) - (1 : Int32))) + (Int32.ofNat kf.val))).toNatClampNeg 0)), (.int (Int32.ofNat kf.val))]) (rest := []) (lenOf pd_4 rfl) rfl (by show 2 * 0 + _ ≤ _; exact Nat.le_of_eq rfl) (hb hby at_76) (fun _ _ => ⟨rfl, hh131, (by decide : 6 + 0 ≤ _), (by decide : 184 + 0 ≤ _)⟩)
    dsimp only [Pt.U, Pt.locs, Pt.cells, Pt.slots] at X132 l132 y132 z132 st132 hQ132
    subst l132 y132 z132
    obtain ⟨rfl, N132q, hh132⟩ := hQ132
    have N132 := Fr.app N131 N132q
    obtain ⟨_, _, ⟨T133, L133, k133, n133⟩, -, X133, ⟨Lc133, hQ133, l133, y133, z133⟩, st133⟩ := Jvm.LawKit.callS X132 hx (y := (⟨"com/example/frontward/frontward/offline/OrderingsSwappedPinLaw", "moved", "(Lcom/example/frontward/frontward/offline/Orderings;IIII)Z"⟩ : MethodName)) hown (mvT hZ (hw _ (List.mem_of_getElem? (i := 37) rfl))) (mvT hZ (hw _ (List.mem_of_getElem? (i := 38) rfl))) (mvT hZ (hw _ (List.mem_of_getElem? (i := 39) rfl))) (mvT hZ (hw _ (List.mem_of_getElem? (i := 40) rfl))) (by decide) (backOf (W := 0) (rmMov l Z a0 hw [] b124 bp126 (1 : Int32) (Int32.ofNat kq.val) (own_SL4.getD ((((Int32.ofNat kq.val) * ((4 : Int32) - (1 : Int32))) + (Int32.ofNat kf.val))).toNatClampNeg 0) (Int32.ofNat kf.val) (24 : Int32) (96 : Int32) own_PL4 T126.heap n0 O127 Ex126 F126_positions F126_count Lp126 (own_ix (n := 4) (cn := 24) (by decide) (own_kb4 kq).1 (by decide) (by decide) (by decide) (by decide) (by decide)) (own_ix (n := 4) (cn := 24) (by decide) (own_sb hs0 hs1 (by decide)) (by decide) (by decide) (by decide) (by decide) (by decide))) hZ (hw _ (List.mem_of_getElem? (i := 40) rfl)) (hw _ (List.mem_of_getElem? (i := 39) rfl)) (by decide) (by decide)) (g := (mkF m 95 #[.val (.int i0), .val (.int i1), .val (.int i2), .val (.int (4 : Int32)), .val (.ref b124), .val (.int (24 : Int32)), .val (.int (Int32.ofNat kq.val)), .val (.int (Int32.ofNat kf.val)), .val (.int (own_SL4.getD ((((Int32.ofNat kq.val) * ((4 : Int32) - (1 : Int32))) + (Int32.ofNat kf.val))).toNatClampNeg 0)), .val (.int (1 : Int32))] [(.int (Int32.ofNat kf.val)), (.int (own_SL4.getD ((((Int32.ofNat kq.val) * ((4 : Int32) - (1 : Int32))) + (Int32.ofNat kf.val))).toNatClampNeg 0)), (.int (Int32.ofNat kq.val)), (.int (1 : Int32)), (.ref b124)])) rfl (by rw [hml]; rfl) (argsL := [(.ref b124), (.int (1 : Int32)), (.int (Int32.ofNat kq.val)), (.int (own_SL4.getD ((((Int32.ofNat kq.val) * ((4 : Int32) - (1 : Int32))) + (Int32.ofNat kf.val))).toNatClampNeg 0)), (.int (Int32.ofNat kf.val))]) (rest := []) (lenOf pd_4 rfl) rfl (by show 2 * 0 + _ ≤ _; exact Nat.le_of_eq rfl) (hb hby at_95) (fun _ _ => ⟨rfl, hh132, (by decide : 6 + 0 ≤ _), (by decide : 184 + 0 ≤ _)⟩)
    dsimp only [Pt.U, Pt.locs, Pt.cells, Pt.slots] at X133 l133 y133 z133 st133 hQ133
    subst l133 y133 z133
    obtain ⟨rfl, N133q, hh133⟩ := hQ133
    have N133 := Fr.app N132 N133q
    obtain ⟨_, _, ⟨T134, L134, k134, n134⟩, -, X134, ⟨Lc134, hQ134, l134, y134, z134⟩, st134⟩ := Jvm.LawKit.callS X133 hx (y := (⟨"com/example/frontward/frontward/offline/OrderingsSwappedPinLaw", "moved", "(Lcom/example/frontward/frontward/offline/Orderings;IIII)Z"⟩ : MethodName)) hown (mvT hZ (hw _ (List.mem_of_getElem? (i := 37) rfl))) (mvT hZ (hw _ (List.mem_of_getElem? (i := 38) rfl))) (mvT hZ (hw _ (List.mem_of_getElem? (i := 39) rfl))) (mvT hZ (hw _ (List.mem_of_getElem? (i := 40) rfl))) (by decide) (backOf (W := 0) (rmMov l Z a0 hw [] b124 bp126 (2 : Int32) (Int32.ofNat kq.val) (own_SL4.getD ((((Int32.ofNat kq.val) * ((4 : Int32) - (1 : Int32))) + (Int32.ofNat kf.val))).toNatClampNeg 0) (Int32.ofNat kf.val) (24 : Int32) (96 : Int32) own_PL4 T126.heap n0 O127 Ex126 F126_positions F126_count Lp126 (own_ix (n := 4) (cn := 24) (by decide) (own_kb4 kq).1 (by decide) (by decide) (by decide) (by decide) (by decide)) (own_ix (n := 4) (cn := 24) (by decide) (own_sb hs0 hs1 (by decide)) (by decide) (by decide) (by decide) (by decide) (by decide))) hZ (hw _ (List.mem_of_getElem? (i := 40) rfl)) (hw _ (List.mem_of_getElem? (i := 39) rfl)) (by decide) (by decide)) (g := (mkF m 127 #[.val (.int i0), .val (.int i1), .val (.int i2), .val (.int (4 : Int32)), .val (.ref b124), .val (.int (24 : Int32)), .val (.int (Int32.ofNat kq.val)), .val (.int (Int32.ofNat kf.val)), .val (.int (own_SL4.getD ((((Int32.ofNat kq.val) * ((4 : Int32) - (1 : Int32))) + (Int32.ofNat kf.val))).toNatClampNeg 0)), .val (.int (1 : Int32))] [(.int (Int32.ofNat kf.val)), (.int (own_SL4.getD ((((Int32.ofNat kq.val) * ((4 : Int32) - (1 : Int32))) + (Int32.ofNat kf.val))).toNatClampNeg 0)), (.int (Int32.ofNat kq.val)), (.int (2 : Int32)), (.ref b124)])) rfl (by rw [hml]; rfl) (argsL := [(.ref b124), (.int (2 : Int32)), (.int (Int32.ofNat kq.val)), (.int (own_SL4.getD ((((Int32.ofNat kq.val) * ((4 : Int32) - (1 : Int32))) + (Int32.ofNat kf.val))).toNatClampNeg 0)), (.int (Int32.ofNat kf.val))]) (rest := []) (lenOf pd_4 rfl) rfl (by show 2 * 0 + _ ≤ _; exact Nat.le_of_eq rfl) (hb hby at_127) (fun _ _ => ⟨rfl, hh133, (by decide : 6 + 0 ≤ _), (by decide : 184 + 0 ≤ _)⟩)
    dsimp only [Pt.U, Pt.locs, Pt.cells, Pt.slots] at X134 l134 y134 z134 st134 hQ134
    subst l134 y134 z134
    obtain ⟨rfl, N134q, hh134⟩ := hQ134
    have N134 := Fr.app N133 N134q
    obtain ⟨_, _, ⟨T135, L135, k135, n135⟩, -, X135, ⟨Lc135, hQ135, l135, y135, z135⟩, st135⟩ := Jvm.LawKit.callS X134 hx (y := (⟨"com/example/frontward/frontward/offline/OrderingsSwappedPinLaw", "moved", "(Lcom/example/frontward/frontward/offline/Orderings;IIII)Z"⟩ : MethodName)) hown (mvT hZ (hw _ (List.mem_of_getElem? (i := 37) rfl))) (mvT hZ (hw _ (List.mem_of_getElem? (i := 38) rfl))) (mvT hZ (hw _ (List.mem_of_getElem? (i := 39) rfl))) (mvT hZ (hw _ (List.mem_of_getElem? (i := 40) rfl))) (by decide) (backOf (W := 0) (rmMov l Z a0 hw [] b124 bp126 (3 : Int32) (Int32.ofNat kq.val) (own_SL4.getD ((((Int32.ofNat kq.val) * ((4 : Int32) - (1 : Int32))) + (Int32.ofNat kf.val))).toNatClampNeg 0) (Int32.ofNat kf.val) (24 : Int32) (96 : Int32) own_PL4 T126.heap n0 O127 Ex126 F126_positions F126_count Lp126 (own_ix (n := 4) (cn := 24) (by decide) (own_kb4 kq).1 (by decide) (by decide) (by decide) (by decide) (by decide)) (own_ix (n := 4) (cn := 24) (by decide) (own_sb hs0 hs1 (by decide)) (by decide) (by decide) (by decide) (by decide) (by decide))) hZ (hw _ (List.mem_of_getElem? (i := 40) rfl)) (hw _ (List.mem_of_getElem? (i := 39) rfl)) (by decide) (by decide)) (g := (mkF m 159 #[.val (.int i0), .val (.int i1), .val (.int i2), .val (.int (4 : Int32)), .val (.ref b124), .val (.int (24 : Int32)), .val (.int (Int32.ofNat kq.val)), .val (.int (Int32.ofNat kf.val)), .val (.int (own_SL4.getD ((((Int32.ofNat kq.val) * ((4 : Int32) - (1 : Int32))) + (Int32.ofNat kf.val))).toNatClampNeg 0)), .val (.int (1 : Int32))] [(.int (Int32.ofNat kf.val)), (.int (own_SL4.getD ((((Int32.ofNat kq.val) * ((4 : Int32) - (1 : Int32))) + (Int32.ofNat kf.val))).toNatClampNeg 0)), (.int (Int32.ofNat kq.val)), (.int (3 : Int32)), (.ref b124)])) rfl (by rw [hml]; rfl) (argsL := [(.ref b124), (.int (3 : Int32)), (.int (Int32.ofNat kq.val)), (.int (own_SL4.getD ((((Int32.ofNat kq.val) * ((4 : Int32) - (1 : Int32))) + (Int32.ofNat kf.val))).toNatClampNeg 0)), (.int (Int32.ofNat kf.val))]) (rest := []) (lenOf pd_4 rfl) rfl (by show 2 * 0 + _ ≤ _; exact Nat.le_of_eq rfl) (hb hby at_159) (fun _ _ => ⟨rfl, hh134, (by decide : 6 + 0 ≤ _), (by decide : 184 + 0 ≤ _)⟩)
    dsimp only [Pt.U, Pt.locs, Pt.cells, Pt.slots] at X135 l135 y135 z135 st135 hQ135
    subst l135 y135 z135
    obtain ⟨rfl, N135q, hh135⟩ := hQ135
    have N135 := Fr.app N134 N135q
    obtain ⟨fs, hr, hrun, hended, hW, hsame⟩ := X135.leave (v := some (.int (1 : Int32))) (fun h => by rw [Bd.returns] at h; cases h)
    refine ⟨_, _, pre130 _ ?_, hrun, hended, _, _, rfl, ?_, ⟨_, rfl⟩, hW, hsame.mono (by decide) (by decide)⟩
    · skip
      show Steps p.tables e below (T128.setTop (mkF m 40 #[.val (.int i0), .val (.int i1), .val (.int i2), .val (.int (4 : Int32)), .val (.ref b124), .val (.int (24 : Int32)), .val (.int (Int32.ofNat kq.val)), .unset, .unset, .unset] [(.int ((i2 &&& (2147483647 : Int32)) % (3 : Int32)))])) _
      rw [hkf]
      refine XS.istore X128.here hx rfl (hb hby at_40) rfl (l' := #[.val (.int i0), .val (.int i1), .val (.int i2), .val (.int (4 : Int32)), .val (.ref b124), .val (.int (24 : Int32)), .val (.int (Int32.ofNat kq.val)), .val (.int (Int32.ofNat kf.val)), .unset, .unset]) rfl ?_
      refine XS.aload X128.here hx rfl (hb hby at_42) rfl rfl ?_
      refine XS.iload X128.here hx rfl (hb hby at_44) rfl ?_
      refine XS.iload X128.here hx rfl (hb hby at_46) rfl ?_
      refine st131.trans ?_
      refine XS.istore X131.here hx rfl (hb hby at_51) rfl (l' := #[.val (.int i0), .val (.int i1), .val (.int i2), .val (.int (4 : Int32)), .val (.ref b124), .val (.int (24 : Int32)), .val (.int (Int32.ofNat kq.val)), .val (.int (Int32.ofNat kf.val)), .val (.int (own_SL4.getD ((((Int32.ofNat kq.val) * ((4 : Int32) - (1 : Int32))) + (Int32.ofNat kf.val))).toNatClampNeg 0)), .unset]) rfl ?_
      refine XS.iload X131.here hx rfl (hb hby at_53) rfl ?_
      show Steps p.tables e below (T131.setTop (mkF m 55 #[.val (.int i0), .val (.int i1), .val (.int i2), .val (.int (4 : Int32)), .val (.ref b124), .val (.int (24 : Int32)), .val (.int (Int32.ofNat kq.val)), .val (.int (Int32.ofNat kf.val)), .val (.int (own_SL4.getD ((((Int32.ofNat kq.val) * ((4 : Int32) - (1 : Int32))) + (Int32.ofNat kf.val))).toNatClampNeg 0)), .unset] [(.int (own_SL4.getD ((((Int32.ofNat kq.val) * ((4 : Int32) - (1 : Int32))) + (Int32.ofNat kf.val))).toNatClampNeg 0))])) _
      refine XS.ifNo X131.here hx rfl (hb hby at_55) rfl ((if0 _ _).trans (flt hs0).1) ?_
      refine XS.iload X131.here hx rfl (hb hby at_58) rfl ?_
      refine XS.iload X131.here hx rfl (hb hby at_60) rfl ?_
      show Steps p.tables e below (T131.setTop (mkF m 62 #[.val (.int i0), .val (.int i1), .val (.int i2), .val (.int (4 : Int32)), .val (.ref b124), .val (.int (24 : Int32)), .val (.int (Int32.ofNat kq.val)), .val (.int (Int32.ofNat kf.val)), .val (.int (own_SL4.getD ((((Int32.ofNat kq.val) * ((4 : Int32) - (1 : Int32))) + (Int32.ofNat kf.val))).toNatClampNeg 0)), .unset] [(.int (24 : Int32)), (.int (own_SL4.getD ((((Int32.ofNat kq.val) * ((4 : Int32) - (1 : Int32))) + (Int32.ofNat kf.val))).toNatClampNeg 0))])) _
      refine XS.icmpYes X131.here hx rfl (pc0 := 62) (pc' := 67) rfl (hb hby at_62) rfl (tlt hs1).1 (by decide) (by decide) ?_
      refine XS.aload X131.here hx rfl (hb hby at_67) rfl rfl ?_
      refine XS.iconst X131.here hx rfl (hb hby at_69) ?_
      refine XS.iload X131.here hx rfl (hb hby at_70) rfl ?_
      refine XS.iload X131.here hx rfl (hb hby at_72) rfl ?_
      refine XS.iload X131.here hx rfl (hb hby at_74) rfl ?_
      refine st132 _ ?_
      show Steps p.tables e below (T132.setTop (mkF m 79 #[.val (.int i0), .val (.int i1), .val (.int i2), .val (.int (4 : Int32)), .val (.ref b124), .val (.int (24 : Int32)), .val (.int (Int32.ofNat kq.val)), .val (.int (Int32.ofNat kf.val)), .val (.int (own_SL4.getD ((((Int32.ofNat kq.val) * ((4 : Int32) - (1 : Int32))) + (Int32.ofNat kf.val))).toNatClampNeg 0)), .unset] [(.int (own_mv (own_PL4.getD ((((0 : Int32) * (24 : Int32)) + (Int32.ofNat kq.val))).toNatClampNeg 0) (own_PL4.getD ((((0 : Int32) * (24 : Int32)) + (own_SL4.getD ((((Int32.ofNat kq.val) * ((4 : Int32) - (1 : Int32))) + (Int32.ofNat kf.val))).toNatClampNeg 0))).toNatClampNeg 0) (Int32.ofNat kf.val)))])) _
      rw [hm0]
      refine XS.istore X132.here hx rfl (hb hby at_79) rfl (l' := #[.val (.int i0), .val (.int i1), .val (.int i2), .val (.int (4 : Int32)), .val (.ref b124), .val (.int (24 : Int32)), .val (.int (Int32.ofNat kq.val)), .val (.int (Int32.ofNat kf.val)), .val (.int (own_SL4.getD ((((Int32.ofNat kq.val) * ((4 : Int32) - (1 : Int32))) + (Int32.ofNat kf.val))).toNatClampNeg 0)), .val (.int (1 : Int32))]) rfl ?_
      refine XS.iload X132.here hx rfl (hb hby at_81) rfl ?_
      show Steps p.tables e below (T132.setTop (mkF m 83 #[.val (.int i0), .val (.int i1), .val (.int i2), .val (.int (4 : Int32)), .val (.ref b124), .val (.int (24 : Int32)), .val (.int (Int32.ofNat kq.val)), .val (.int (Int32.ofNat kf.val)), .val (.int (own_SL4.getD ((((Int32.ofNat kq.val) * ((4 : Int32) - (1 : Int32))) + (Int32.ofNat kf.val))).toNatClampNeg 0)), .val (.int (1 : Int32))] [(.int (1 : Int32))])) _
      refine XS.ifNo X132.here hx rfl (hb hby at_83) rfl (by decide) ?_
      refine XS.aload X132.here hx rfl (hb hby at_86) rfl rfl ?_
      refine XS.iconst X132.here hx rfl (hb hby at_88) ?_
      refine XS.iload X132.here hx rfl (hb hby at_89) rfl ?_
      refine XS.iload X132.here hx rfl (hb hby at_91) rfl ?_
      refine XS.iload X132.here hx rfl (hb hby at_93) rfl ?_
      refine st133 _ ?_
      show Steps p.tables e below (T133.setTop (mkF m 98 #[.val (.int i0), .val (.int i1), .val (.int i2), .val (.int (4 : Int32)), .val (.ref b124), .val (.int (24 : Int32)), .val (.int (Int32.ofNat kq.val)), .val (.int (Int32.ofNat kf.val)), .val (.int (own_SL4.getD ((((Int32.ofNat kq.val) * ((4 : Int32) - (1 : Int32))) + (Int32.ofNat kf.val))).toNatClampNeg 0)), .val (.int (1 : Int32))] [(.int (own_mv (own_PL4.getD ((((1 : Int32) * (24 : Int32)) + (Int32.ofNat kq.val))).toNatClampNeg 0) (own_PL4.getD ((((1 : Int32) * (24 : Int32)) + (own_SL4.getD ((((Int32.ofNat kq.val) * ((4 : Int32) - (1 : Int32))) + (Int32.ofNat kf.val))).toNatClampNeg 0))).toNatClampNeg 0) (Int32.ofNat kf.val)))])) _
      rw [hm1]
      show Steps p.tables e below (T133.setTop (mkF m 98 #[.val (.int i0), .val (.int i1), .val (.int i2), .val (.int (4 : Int32)), .val (.ref b124), .val (.int (24 : Int32)), .val (.int (Int32.ofNat kq.val)), .val (.int (Int32.ofNat kf.val)), .val (.int (own_SL4.getD ((((Int32.ofNat kq.val) * ((4 : Int32) - (1 : Int32))) + (Int32.ofNat kf.val))).toNatClampNeg 0)), .val (.int (1 : Int32))] [(.int (1 : Int32))])) _
      refine XS.ifNo X133.here hx rfl (hb hby at_98) rfl (by decide) ?_
      refine XS.iconst X133.here hx rfl (hb hby at_101) ?_
      refine XS.goto X133.here hx rfl (pc0 := 102) (pc' := 106) rfl (hb hby at_102) (by decide) (by decide) ?_
      refine XS.istore X133.here hx rfl (hb hby at_106) rfl (l' := #[.val (.int i0), .val (.int i1), .val (.int i2), .val (.int (4 : Int32)), .val (.ref b124), .val (.int (24 : Int32)), .val (.int (Int32.ofNat kq.val)), .val (.int (Int32.ofNat kf.val)), .val (.int (own_SL4.getD ((((Int32.ofNat kq.val) * ((4 : Int32) - (1 : Int32))) + (Int32.ofNat kf.val))).toNatClampNeg 0)), .val (.int (1 : Int32))]) rfl ?_
      refine XS.iloadN X133.here hx rfl (hb hby at_108) rfl ?_
      refine XS.iconst X133.here hx rfl (hb hby at_109) ?_
      show Steps p.tables e below (T133.setTop (mkF m 110 #[.val (.int i0), .val (.int i1), .val (.int i2), .val (.int (4 : Int32)), .val (.ref b124), .val (.int (24 : Int32)), .val (.int (Int32.ofNat kq.val)), .val (.int (Int32.ofNat kf.val)), .val (.int (own_SL4.getD ((((Int32.ofNat kq.val) * ((4 : Int32) - (1 : Int32))) + (Int32.ofNat kf.val))).toNatClampNeg 0)), .val (.int (1 : Int32))] [(.int (2 : Int32)), (.int (4 : Int32))])) _
      refine XS.icmpNo X133.here hx rfl (hb hby at_110) rfl (by decide) ?_
      refine XS.iload X133.here hx rfl (hb hby at_113) rfl ?_
      show Steps p.tables e below (T133.setTop (mkF m 115 #[.val (.int i0), .val (.int i1), .val (.int i2), .val (.int (4 : Int32)), .val (.ref b124), .val (.int (24 : Int32)), .val (.int (Int32.ofNat kq.val)), .val (.int (Int32.ofNat kf.val)), .val (.int (own_SL4.getD ((((Int32.ofNat kq.val) * ((4 : Int32) - (1 : Int32))) + (Int32.ofNat kf.val))).toNatClampNeg 0)), .val (.int (1 : Int32))] [(.int (1 : Int32))])) _
      refine XS.ifNo X133.here hx rfl (hb hby at_115) rfl (by decide) ?_
      refine XS.aload X133.here hx rfl (hb hby at_118) rfl rfl ?_
      refine XS.iconst X133.here hx rfl (hb hby at_120) ?_
      refine XS.iload X133.here hx rfl (hb hby at_121) rfl ?_
      refine XS.iload X133.here hx rfl (hb hby at_123) rfl ?_
      refine XS.iload X133.here hx rfl (hb hby at_125) rfl ?_
      refine st134 _ ?_
      show Steps p.tables e below (T134.setTop (mkF m 130 #[.val (.int i0), .val (.int i1), .val (.int i2), .val (.int (4 : Int32)), .val (.ref b124), .val (.int (24 : Int32)), .val (.int (Int32.ofNat kq.val)), .val (.int (Int32.ofNat kf.val)), .val (.int (own_SL4.getD ((((Int32.ofNat kq.val) * ((4 : Int32) - (1 : Int32))) + (Int32.ofNat kf.val))).toNatClampNeg 0)), .val (.int (1 : Int32))] [(.int (own_mv (own_PL4.getD ((((2 : Int32) * (24 : Int32)) + (Int32.ofNat kq.val))).toNatClampNeg 0) (own_PL4.getD ((((2 : Int32) * (24 : Int32)) + (own_SL4.getD ((((Int32.ofNat kq.val) * ((4 : Int32) - (1 : Int32))) + (Int32.ofNat kf.val))).toNatClampNeg 0))).toNatClampNeg 0) (Int32.ofNat kf.val)))])) _
      rw [hm2]
      show Steps p.tables e below (T134.setTop (mkF m 130 #[.val (.int i0), .val (.int i1), .val (.int i2), .val (.int (4 : Int32)), .val (.ref b124), .val (.int (24 : Int32)), .val (.int (Int32.ofNat kq.val)), .val (.int (Int32.ofNat kf.val)), .val (.int (own_SL4.getD ((((Int32.ofNat kq.val) * ((4 : Int32) - (1 : Int32))) + (Int32.ofNat kf.val))).toNatClampNeg 0)), .val (.int (1 : Int32))] [(.int (1 : Int32))])) _
      refine XS.ifNo X134.here hx rfl (hb hby at_130) rfl (by decide) ?_
      show Steps p.tables e below (T134.setTop (mkF m 133 #[.val (.int i0), .val (.int i1), .val (.int i2), .val (.int (4 : Int32)), .val (.ref b124), .val (.int (24 : Int32)), .val (.int (Int32.ofNat kq.val)), .val (.int (Int32.ofNat kf.val)), .val (.int (own_SL4.getD ((((Int32.ofNat kq.val) * ((4 : Int32) - (1 : Int32))) + (Int32.ofNat kf.val))).toNatClampNeg 0)), .val (.int (1 : Int32))] [])) _
      refine XS.iconst X134.here hx rfl (hb hby at_133) ?_
      refine XS.goto X134.here hx rfl (pc0 := 134) (pc' := 138) rfl (hb hby at_134) (by decide) (by decide) ?_
      refine XS.istore X134.here hx rfl (hb hby at_138) rfl (l' := #[.val (.int i0), .val (.int i1), .val (.int i2), .val (.int (4 : Int32)), .val (.ref b124), .val (.int (24 : Int32)), .val (.int (Int32.ofNat kq.val)), .val (.int (Int32.ofNat kf.val)), .val (.int (own_SL4.getD ((((Int32.ofNat kq.val) * ((4 : Int32) - (1 : Int32))) + (Int32.ofNat kf.val))).toNatClampNeg 0)), .val (.int (1 : Int32))]) rfl ?_
      refine XS.iloadN X134.here hx rfl (hb hby at_140) rfl ?_
      refine XS.iconst X134.here hx rfl (hb hby at_141) ?_
      show Steps p.tables e below (T134.setTop (mkF m 142 #[.val (.int i0), .val (.int i1), .val (.int i2), .val (.int (4 : Int32)), .val (.ref b124), .val (.int (24 : Int32)), .val (.int (Int32.ofNat kq.val)), .val (.int (Int32.ofNat kf.val)), .val (.int (own_SL4.getD ((((Int32.ofNat kq.val) * ((4 : Int32) - (1 : Int32))) + (Int32.ofNat kf.val))).toNatClampNeg 0)), .val (.int (1 : Int32))] [(.int (3 : Int32)), (.int (4 : Int32))])) _
      refine XS.icmpNo X134.here hx rfl (hb hby at_142) rfl (by decide) ?_
      refine XS.iload X134.here hx rfl (hb hby at_145) rfl ?_
      show Steps p.tables e below (T134.setTop (mkF m 147 #[.val (.int i0), .val (.int i1), .val (.int i2), .val (.int (4 : Int32)), .val (.ref b124), .val (.int (24 : Int32)), .val (.int (Int32.ofNat kq.val)), .val (.int (Int32.ofNat kf.val)), .val (.int (own_SL4.getD ((((Int32.ofNat kq.val) * ((4 : Int32) - (1 : Int32))) + (Int32.ofNat kf.val))).toNatClampNeg 0)), .val (.int (1 : Int32))] [(.int (1 : Int32))])) _
      refine XS.ifNo X134.here hx rfl (hb hby at_147) rfl (by decide) ?_
      refine XS.aload X134.here hx rfl (hb hby at_150) rfl rfl ?_
      refine XS.iconst X134.here hx rfl (hb hby at_152) ?_
      refine XS.iload X134.here hx rfl (hb hby at_153) rfl ?_
      refine XS.iload X134.here hx rfl (hb hby at_155) rfl ?_
      refine XS.iload X134.here hx rfl (hb hby at_157) rfl ?_
      refine st135 _ ?_
      show Steps p.tables e below (T135.setTop (mkF m 162 #[.val (.int i0), .val (.int i1), .val (.int i2), .val (.int (4 : Int32)), .val (.ref b124), .val (.int (24 : Int32)), .val (.int (Int32.ofNat kq.val)), .val (.int (Int32.ofNat kf.val)), .val (.int (own_SL4.getD ((((Int32.ofNat kq.val) * ((4 : Int32) - (1 : Int32))) + (Int32.ofNat kf.val))).toNatClampNeg 0)), .val (.int (1 : Int32))] [(.int (own_mv (own_PL4.getD ((((3 : Int32) * (24 : Int32)) + (Int32.ofNat kq.val))).toNatClampNeg 0) (own_PL4.getD ((((3 : Int32) * (24 : Int32)) + (own_SL4.getD ((((Int32.ofNat kq.val) * ((4 : Int32) - (1 : Int32))) + (Int32.ofNat kf.val))).toNatClampNeg 0))).toNatClampNeg 0) (Int32.ofNat kf.val)))])) _
      rw [hm3]
      show Steps p.tables e below (T135.setTop (mkF m 162 #[.val (.int i0), .val (.int i1), .val (.int i2), .val (.int (4 : Int32)), .val (.ref b124), .val (.int (24 : Int32)), .val (.int (Int32.ofNat kq.val)), .val (.int (Int32.ofNat kf.val)), .val (.int (own_SL4.getD ((((Int32.ofNat kq.val) * ((4 : Int32) - (1 : Int32))) + (Int32.ofNat kf.val))).toNatClampNeg 0)), .val (.int (1 : Int32))] [(.int (1 : Int32))])) _
      refine XS.ifNo X135.here hx rfl (hb hby at_162) rfl (by decide) ?_
      refine XS.iconst X135.here hx rfl (hb hby at_165) ?_
      refine XS.goto X135.here hx rfl (pc0 := 166) (pc' := 170) rfl (hb hby at_166) (by decide) (by decide) ?_
      refine XS.istore X135.here hx rfl (hb hby at_170) rfl (l' := #[.val (.int i0), .val (.int i1), .val (.int i2), .val (.int (4 : Int32)), .val (.ref b124), .val (.int (24 : Int32)), .val (.int (Int32.ofNat kq.val)), .val (.int (Int32.ofNat kf.val)), .val (.int (own_SL4.getD ((((Int32.ofNat kq.val) * ((4 : Int32) - (1 : Int32))) + (Int32.ofNat kf.val))).toNatClampNeg 0)), .val (.int (1 : Int32))]) rfl ?_
      refine XS.iloadN X135.here hx rfl (hb hby at_172) rfl ?_
      refine XS.iconst X135.here hx rfl (hb hby at_173) ?_
      show Steps p.tables e below (T135.setTop (mkF m 174 #[.val (.int i0), .val (.int i1), .val (.int i2), .val (.int (4 : Int32)), .val (.ref b124), .val (.int (24 : Int32)), .val (.int (Int32.ofNat kq.val)), .val (.int (Int32.ofNat kf.val)), .val (.int (own_SL4.getD ((((Int32.ofNat kq.val) * ((4 : Int32) - (1 : Int32))) + (Int32.ofNat kf.val))).toNatClampNeg 0)), .val (.int (1 : Int32))] [(.int (4 : Int32)), (.int (4 : Int32))])) _
      refine XS.icmpYes X135.here hx rfl (pc0 := 174) (pc' := 204) rfl (hb hby at_174) rfl (by decide) (by decide) (by decide) ?_
      refine XS.iload X135.here hx rfl (hb hby at_204) rfl ?_
      show Steps p.tables e below (T135.setTop (mkF m 206 #[.val (.int i0), .val (.int i1), .val (.int i2), .val (.int (4 : Int32)), .val (.ref b124), .val (.int (24 : Int32)), .val (.int (Int32.ofNat kq.val)), .val (.int (Int32.ofNat kf.val)), .val (.int (own_SL4.getD ((((Int32.ofNat kq.val) * ((4 : Int32) - (1 : Int32))) + (Int32.ofNat kf.val))).toNatClampNeg 0)), .val (.int (1 : Int32))] [(.int (1 : Int32))])) _
      exact retN X135 hx (t := .boolean) Bd.returns (by simp) (hb hby at_206) hr
    · show QL n0 _ T135.heap _
      rw [hh135]
      exact ⟨rfl, N135⟩
  · skip
    obtain ⟨T136, h136, X136, e136, E136, A136, D136, -, st136⟩ := newO X0 hx hZ hown (hw _ (List.mem_of_getElem? (i := 0) rfl)) (hw _ (List.mem_of_getElem? (i := 1) rfl)) (hw _ (List.mem_of_getElem? (i := 2) rfl)) e0 (g := (mkF m 6 #[.val (.int i0), .val (.int i1), .val (.int i2), .val (.int (5 : Int32)), .unset, .unset, .unset, .unset, .unset, .unset] [])) rfl (hb hby at_6) (by decide) (by decide)
    obtain ⟨b136, g136⟩ : ∃ z, z = h0.size := ⟨_, rfl⟩
    rw [← g136] at A136 D136 st136
    have gb136 : n0 ≤ b136 := by rw [g136, ← O0.1]; exact O0.2.1
    have F136_items : Fld Z h136 b136 "com/example/frontward/frontward/offline/Orderings" "items" "I" (.int (0 : Int32)) := D136 (Or.inr (hw _ (List.mem_of_getElem? (i := 11) rfl))) (ty := .int) (by decide)
    have F136_count : Fld Z h136 b136 "com/example/frontward/frontward/offline/Orderings" "count" "I" (.int (0 : Int32)) := D136 (Or.inr (hw _ (List.mem_of_getElem? (i := 13) rfl))) (ty := .int) (by decide)
    have F136_positions : Fld Z h136 b136 "com/example/frontward/frontward/offline/Orderings" "positions" "[B" .null := D136 (Or.inr (hw _ (List.mem_of_getElem? (i := 16) rfl))) (ty := (.array .byte)) (by decide)
    have F136_swaps : Fld Z h136 b136 "com/example/frontward/frontward/offline/Orderings" "swaps" "[I" .null := D136 (Or.inr (hw _ (List.mem_of_getElem? (i := 18) rfl))) (ty := (.array .int)) (by decide)
    have O137 : Old Z n0 h136 := (O0.ext E136)
    obtain ⟨_, _, ⟨T138, L138, k138, n138⟩, -, X138, ⟨Lc138, hQ138, l138, y138, z138⟩, st138⟩ := X136.specialBack hx (y := (⟨"com/example/frontward/frontward/offline/Orderings", "<init>", "(I)V"⟩ : MethodName)) rfl hown (mvT hZ (hw _ (List.mem_of_getElem? (i := 3) rfl))) (mvT hZ (hw _ (List.mem_of_getElem? (i := 4) rfl))) (mvT hZ (hw _ (List.mem_of_getElem? (i := 5) rfl))) (by decide) (backOf (W := 1) (rmC5 l Z a0 hw [] b136 h136 n0 O137 A136 F136_items F136_count F136_positions F136_swaps gb136) hZ (hw _ (List.mem_of_getElem? (i := 5) rfl)) (hw _ (List.mem_of_getElem? (i := 2) rfl)) (by decide) (by decide)) (g := (mkF m 11 #[.val (.int i0), .val (.int i1), .val (.int i2), .val (.int (5 : Int32)), .unset, .unset, .unset, .unset, .unset, .unset] [(.int (5 : Int32)), (.ref b136), (.ref b136)])) rfl (by rw [hml]; rfl) (Steps.refl _) (a := b136) (argsL := [(.int (5 : Int32))]) (rest := [(.ref b136)]) (lenOf pd_2 rfl) rfl (by show 2 * 0 + _ ≤ _; exact Nat.le_of_eq rfl) (hb hby at_11) (fun _ _ => ⟨rfl, e136, (by decide : 1 + 5 ≤ _), (by decide : 4 + 1095 ≤ _)⟩)
    dsimp only [Pt.U, Pt.locs, Pt.cells, Pt.slots] at X138 l138 y138 z138 st138 hQ138
    subst l138 y138 z138
    obtain ⟨rfl, N138q, K138, bp138, bs138, Ex138, F138_items, F138_count, F138_positions, F138_swaps, Lp138, Ls138⟩ := hQ138
    have N138 := Fr.app N0 N138q
    have O139 : Old Z n0 T138.heap := (O137.keep K138 (allS gb136 all0))
    obtain ⟨cq140, kq140, q140a, q140b, q140c⟩ := isOf hZ rfl Ex138
    obtain ⟨_, _, ⟨T140, L140, k140, n140⟩, -, X140, ⟨Lc140, hQ140, l140, y140, z140⟩, st140⟩ := X138.virtualBack hx (y := (⟨"com/example/frontward/frontward/offline/Orderings", "count", "()I"⟩ : MethodName)) (z := (⟨"com/example/frontward/frontward/offline/Orderings", "count", "()I"⟩ : MethodName)) hown (mvT hZ (hw _ (List.mem_of_getElem? (i := 26) rfl))) (mvT hZ (hw _ (List.mem_of_getElem? (i := 27) rfl))) (notFace_of_selects (args := #[]) (mvT hZ (hw _ (List.mem_of_getElem? (i := 29) rfl)))) (mvT hZ (hw _ (List.mem_of_getElem? (i := 29) rfl))) (mvT hZ (hw _ (List.mem_of_getElem? (i := 28) rfl))) (by decide) (backOf (W := 0) (rmCnt l Z a0 hw [] b136 (120 : Int32) T138.heap n0 O139 F138_count) hZ (hw _ (List.mem_of_getElem? (i := 30) rfl)) (hw _ (List.mem_of_getElem? (i := 2) rfl)) (by decide) (by decide)) q140a q140c (g := (mkF m 18 #[.val (.int i0), .val (.int i1), .val (.int i2), .val (.int (5 : Int32)), .val (.ref b136), .unset, .unset, .unset, .unset, .unset] [(.ref b136)])) rfl (by rw [hml]; rfl) (Steps.refl _) (argsL := []) (rest := []) (lenOf pd_3 rfl) rfl (by show 2 * 0 + _ ≤ _; exact Nat.le_of_eq rfl) (hb hby at_18) (fun _ _ => ⟨rfl, rfl, (by decide : 6 + 0 ≤ _), (by decide : 1099 + 0 ≤ _)⟩)
    dsimp only [Pt.U, Pt.locs, Pt.cells, Pt.slots] at X140 l140 y140 z140 st140 hQ140
    subst l140 y140 z140
    obtain ⟨rfl, N140q, hh140⟩ := hQ140
    have N140 := Fr.app N138 N140q
    have pre141 : ∀ t, Steps p.tables e below (T140.setTop (mkF m 30 #[.val (.int i0), .val (.int i1), .val (.int i2), .val (.int (5 : Int32)), .val (.ref b136), .val (.int (120 : Int32)), .unset, .unset, .unset, .unset] [(.int ((i1 &&& (2147483647 : Int32)) % (120 : Int32)))])) t → Steps p.tables e below (s₁.setTop (entryFrame m #[(.int i0), (.int i1), (.int i2)] maxLocals)) t := fun t kt => pre101 t (by
        show Steps p.tables e below (s₁.setTop (mkF m 5 #[.val (.int i0), .val (.int i1), .val (.int i2), .unset, .unset, .unset, .unset, .unset, .unset, .unset] [(.int ((2 : Int32) + (i0 &&& (3 : Int32))))])) _
        rw [hk102]
        show Steps p.tables e below (s₁.setTop (mkF m 5 #[.val (.int i0), .val (.int i1), .val (.int i2), .unset, .unset, .unset, .unset, .unset, .unset, .unset] [(.int (5 : Int32))])) _
        refine XS.istoreN X0.here hx rfl (hb hby at_5) rfl (l' := #[.val (.int i0), .val (.int i1), .val (.int i2), .val (.int (5 : Int32)), .unset, .unset, .unset, .unset, .unset, .unset]) rfl ?_
        refine st136 _ ?_
        refine XS.dup X136.here hx rfl (hb hby at_9) rfl rfl ?_
        refine XS.iloadN X136.here hx rfl (hb hby at_10) rfl ?_
        refine st138.trans ?_
        refine XS.astore X138.here hx rfl (hb hby at_14) rfl rfl (l' := #[.val (.int i0), .val (.int i1), .val (.int i2), .val (.int (5 : Int32)), .val (.ref b136), .unset, .unset, .unset, .unset, .unset]) rfl ?_
        refine XS.aload X138.here hx rfl (hb hby at_16) rfl rfl ?_
        refine st140.trans ?_
        refine XS.istore X140.here hx rfl (hb hby at_21) rfl (l' := #[.val (.int i0), .val (.int i1), .val (.int i2), .val (.int (5 : Int32)), .val (.ref b136), .val (.int (120 : Int32)), .unset, .unset, .unset, .unset]) rfl ?_
        refine XS.iloadN X140.here hx rfl (hb hby at_23) rfl ?_
        refine X140.ldcInt hx hown (mvT hZ (hw _ (List.mem_of_getElem? (i := 31) rfl))) (g := (mkF m 24 #[.val (.int i0), .val (.int i1), .val (.int i2), .val (.int (5 : Int32)), .val (.ref b136), .val (.int (120 : Int32)), .unset, .unset, .unset, .unset] [(.int i1)])) rfl (hb hby at_24) _ ?_
        refine XS.iand X140.here hx rfl (hb hby at_26) rfl ?_
        refine XS.iload X140.here hx rfl (hb hby at_27) rfl ?_
        refine iremM X140 hx rfl (hb hby at_29) rfl (by decide) ?_
        exact kt)
    obtain ⟨kq, hkq⟩ := own_rem120 i1
    have pre142 : ∀ t, Steps p.tables e below (T140.setTop (mkF m 40 #[.val (.int i0), .val (.int i1), .val (.int i2), .val (.int (5 : Int32)), .val (.ref b136), .val (.int (120 : Int32)), .val (.int (Int32.ofNat kq.val)), .unset, .unset, .unset] [(.int ((i2 &&& (2147483647 : Int32)) % (4 : Int32)))])) t → Steps p.tables e below (s₁.setTop (entryFrame m #[(.int i0), (.int i1), (.int i2)] maxLocals)) t := fun t kt => pre141 t (by
        show Steps p.tables e below (T140.setTop (mkF m 30 #[.val (.int i0), .val (.int i1), .val (.int i2), .val (.int (5 : Int32)), .val (.ref b136), .val (.int (120 : Int32)), .unset, .unset, .unset, .unset] [(.int ((i1 &&& (2147483647 : Int32)) % (120 : Int32)))])) _
        rw [hkq]
        refine XS.istore X140.here hx rfl (hb hby at_30) rfl (l' := #[.val (.int i0), .val (.int i1), .val (.int i2), .val (.int (5 : Int32)), .val (.ref b136), .val (.int (120 : Int32)), .val (.int (Int32.ofNat kq.val)), .unset, .unset, .unset]) rfl ?_
        refine XS.iloadN X140.here hx rfl (hb hby at_32) rfl ?_
        refine X140.ldcInt hx hown (mvT hZ (hw _ (List.mem_of_getElem? (i := 31) rfl))) (g := (mkF m 33 #[.val (.int i0), .val (.int i1), .val (.int i2), .val (.int (5 : Int32)), .val (.ref b136), .val (.int (120 : Int32)), .val (.int (Int32.ofNat kq.val)), .unset, .unset, .unset] [(.int i2)])) rfl (hb hby at_33) _ ?_
        refine XS.iand X140.here hx rfl (hb hby at_35) rfl ?_
        refine XS.iloadN X140.here hx rfl (hb hby at_36) rfl ?_
        refine XS.iconst X140.here hx rfl (hb hby at_37) ?_
        refine XS.isub X140.here hx rfl (hb hby at_38) rfl ?_
        refine iremM X140 hx rfl (hb hby at_39) rfl (by decide) ?_
        exact kt)
    obtain ⟨kf, hkf⟩ := own_rem4 i2
    obtain ⟨hs0, hs1, hm0, hm1, hm2, hm3, hm4⟩ := own_w5 kq kf
    obtain ⟨cq143, kq143, q143a, q143b, q143c⟩ := isOf hZ hh140 Ex138
    obtain ⟨_, _, ⟨T143, L143, k143, n143⟩, -, X143, ⟨Lc143, hQ143, l143, y143, z143⟩, st143⟩ := X140.virtualBack hx (y := (⟨"com/example/frontward/frontward/offline/Orderings", "swapped", "(II)I"⟩ : MethodName)) (z := (⟨"com/example/frontward/frontward/offline/Orderings", "swapped", "(II)I"⟩ : MethodName)) hown (mvT hZ (hw _ (List.mem_of_getElem? (i := 32) rfl))) (mvT hZ (hw _ (List.mem_of_getElem? (i := 33) rfl))) (notFace_of_selects (args := #[]) (mvT hZ (hw _ (List.mem_of_getElem? (i := 35) rfl)))) (mvT hZ (hw _ (List.mem_of_getElem? (i := 35) rfl))) (mvT hZ (hw _ (List.mem_of_getElem? (i := 34) rfl))) (by decide) (backOf (W := 0) (rmSwi l Z a0 hw [] b136 bs138 (Int32.ofNat kq.val) (Int32.ofNat kf.val) (5 : Int32) (480 : Int32) own_SL5 T138.heap n0 O139 F138_swaps F138_items Ls138 (own_iy (n := 4) (cn := 120) (own_kb5 kq).1 (own_fb5 kf) (by decide) (by decide) (by decide) (by decide) (by decide))) hZ (hw _ (List.mem_of_getElem? (i := 36) rfl)) (hw _ (List.mem_of_getElem? (i := 2) rfl)) (by decide) (by decide)) q143a q143c (g := (mkF m 48 #[.val (.int i0), .val (.int i1), .val (.int i2), .val (.int (5 : Int32)), .val (.ref b136), .val (.int (120 : Int32)), .val (.int (Int32.ofNat kq.val)), .val (.int (Int32.ofNat kf.val)), .unset, .unset] [(.int (Int32.ofNat kf.val)), (.int (Int32.ofNat kq.val)), (.ref b136)])) rfl (by rw [hml]; rfl) (Steps.refl _) (argsL := [(.int (Int32.ofNat kq.val)), (.int (Int32.ofNat kf.val))]) (rest := []) (lenOf pd_0 rfl) rfl (by show 2 * 0 + _ ≤ _; exact Nat.le_of_eq rfl) (hb hby at_48) (fun _ _ => ⟨rfl, hh140, (by decide : 6 + 0 ≤ _), (by decide : 1099 + 0 ≤ _)⟩)
    dsimp only [Pt.U, Pt.locs, Pt.cells, Pt.slots] at X143 l143 y143 z143 st143 hQ143
    subst l143 y143 z143
    obtain ⟨rfl, N143q, hh143⟩ := hQ143
    have N143 := Fr.app N140 N143q
    obtain ⟨_, _, ⟨T144, L144, k144, n144⟩, -, X144, ⟨Lc144, hQ144, l144, y144, z144⟩, st144⟩ := Jvm.LawKit.callS X143 hx (y := (⟨"com/example/frontward/frontward/offline/OrderingsSwappedPinLaw", "moved", "(Lcom/example/frontward/frontward/offline/Orderings;IIII)Z"⟩ : MethodName)) hown (mvT hZ (hw _ (List.mem_of_getElem? (i := 37) rfl))) (mvT hZ (hw _ (List.mem_of_getElem? (i := 38) rfl))) (mvT hZ (hw _ (List.mem_of_getElem? (i := 39) rfl))) (mvT hZ (hw _ (List.mem_of_getElem? (i := 40) rfl))) (by decide) (backOf (W := 0) (rmMov l Z a0 hw [] b136 bp138 (0 : Int32) (Int32.ofNat kq.val) (own_SL5.getD ((((Int32.ofNat kq.val) * ((5 : Int32) - (1 : Int32))) + (Int32.ofNat kf.val))).toNatClampNeg 0) (Int32.ofNat kf.val) (120 : Int32) (600 : Int32) own_PL5 T138.heap n0 O139 Ex138 F138_positions F138_count Lp138 (own_ix (n := 5) (cn := 120) (by decide) (own_kb5 kq).1 (by decide) (by decide) (by decide) (by decide) (by decide)) (own_ix (n := 5) (cn := 120) (by decide) (own_sb hs0 hs1 (by decide)) (by decide) (by decide) (by decide) (by decide) (by decide))) hZ (hw _ (List.mem_of_getElem? (i := 40) rfl)) (hw _ (List.mem_of_getElem? (i := 39) rfl)) (by decide) (by decide)) (g := (mkF m 76 #[.val (.int i0), .val (.int i1), .val (.int i2), .val (.int (5 : Int32)), .val (.ref b136), .val (.int (120 : Int32)), .val (.int (Int32.ofNat kq.val)), .val (.int (Int32.ofNat kf.val)), .val (.int (own_SL5.getD ((((Int32.ofNat kq.val) * ((5 : Int32) - (1 : Int32))) + (Int32.ofNat kf.val))).toNatClampNeg 0)), .unset] [(.int (Int32.ofNat kf.val)), (.int (own_SL5.getD ((((Int32.ofNat kq.val) * ((5 : Int32) - (1 : Int32))) + (Int32.ofNat kf.val))).toNatClampNeg 0)), (.int (Int32.ofNat kq.val)), (.int (0 : Int32)), (.ref b136)])) rfl (by rw [hml]; rfl) (argsL := [(.ref b136), (.int (0 : Int32)), (.int (Int32.ofNat kq.val)), (.int (own_SL5.getD ((((Int32.ofNat kq.val) * ((5 : Int32) - (1 : Int32))) + (Int32.ofNat kf.val))).toNatClampNeg 0)), (.int (Int32.ofNat kf.val))]) (rest := []) (lenOf pd_4 rfl) rfl (by show 2 * 0 + _ ≤ _; exact Nat.le_of_eq rfl) (hb hby at_76) (fun _ _ => ⟨rfl, hh143, (by decide : 6 + 0 ≤ _), (by decide : 1099 + 0 ≤ _)⟩)
    dsimp only [Pt.U, Pt.locs, Pt.cells, Pt.slots] at X144 l144 y144 z144 st144 hQ144
    subst l144 y144 z144
    obtain ⟨rfl, N144q, hh144⟩ := hQ144
    have N144 := Fr.app N143 N144q
    obtain ⟨_, _, ⟨T145, L145, k145, n145⟩, -, X145, ⟨Lc145, hQ145, l145, y145, z145⟩, st145⟩ := Jvm.LawKit.callS X144 hx (y := (⟨"com/example/frontward/frontward/offline/OrderingsSwappedPinLaw", "moved", "(Lcom/example/frontward/frontward/offline/Orderings;IIII)Z"⟩ : MethodName)) hown (mvT hZ (hw _ (List.mem_of_getElem? (i := 37) rfl))) (mvT hZ (hw _ (List.mem_of_getElem? (i := 38) rfl))) (mvT hZ (hw _ (List.mem_of_getElem? (i := 39) rfl))) (mvT hZ (hw _ (List.mem_of_getElem? (i := 40) rfl))) (by decide) (backOf (W := 0) (rmMov l Z a0 hw [] b136 bp138 (1 : Int32) (Int32.ofNat kq.val) (own_SL5.getD ((((Int32.ofNat kq.val) * ((5 : Int32) - (1 : Int32))) + (Int32.ofNat kf.val))).toNatClampNeg 0) (Int32.ofNat kf.val) (120 : Int32) (600 : Int32) own_PL5 T138.heap n0 O139 Ex138 F138_positions F138_count Lp138 (own_ix (n := 5) (cn := 120) (by decide) (own_kb5 kq).1 (by decide) (by decide) (by decide) (by decide) (by decide)) (own_ix (n := 5) (cn := 120) (by decide) (own_sb hs0 hs1 (by decide)) (by decide) (by decide) (by decide) (by decide) (by decide))) hZ (hw _ (List.mem_of_getElem? (i := 40) rfl)) (hw _ (List.mem_of_getElem? (i := 39) rfl)) (by decide) (by decide)) (g := (mkF m 95 #[.val (.int i0), .val (.int i1), .val (.int i2), .val (.int (5 : Int32)), .val (.ref b136), .val (.int (120 : Int32)), .val (.int (Int32.ofNat kq.val)), .val (.int (Int32.ofNat kf.val)), .val (.int (own_SL5.getD ((((Int32.ofNat kq.val) * ((5 : Int32) - (1 : Int32))) + (Int32.ofNat kf.val))).toNatClampNeg 0)), .val (.int (1 : Int32))] [(.int (Int32.ofNat kf.val)), (.int (own_SL5.getD ((((Int32.ofNat kq.val) * ((5 : Int32) - (1 : Int32))) + (Int32.ofNat kf.val))).toNatClampNeg 0)), (.int (Int32.ofNat kq.val)), (.int (1 : Int32)), (.ref b136)])) rfl (by rw [hml]; rfl) (argsL := [(.ref b136), (.int (1 : Int32)), (.int (Int32.ofNat kq.val)), (.int (own_SL5.getD ((((Int32.ofNat kq.val) * ((5 : Int32) - (1 : Int32))) + (Int32.ofNat kf.val))).toNatClampNeg 0)), (.int (Int32.ofNat kf.val))]) (rest := []) (lenOf pd_4 rfl) rfl (by show 2 * 0 + _ ≤ _; exact Nat.le_of_eq rfl) (hb hby at_95) (fun _ _ => ⟨rfl, hh144, (by decide : 6 + 0 ≤ _), (by decide : 1099 + 0 ≤ _)⟩)
    dsimp only [Pt.U, Pt.locs, Pt.cells, Pt.slots] at X145 l145 y145 z145 st145 hQ145
    subst l145 y145 z145
    obtain ⟨rfl, N145q, hh145⟩ := hQ145
    have N145 := Fr.app N144 N145q
    obtain ⟨_, _, ⟨T146, L146, k146, n146⟩, -, X146, ⟨Lc146, hQ146, l146, y146, z146⟩, st146⟩ := Jvm.LawKit.callS X145 hx (y := (⟨"com/example/frontward/frontward/offline/OrderingsSwappedPinLaw", "moved", "(Lcom/example/frontward/frontward/offline/Orderings;IIII)Z"⟩ : MethodName)) hown (mvT hZ (hw _ (List.mem_of_getElem? (i := 37) rfl))) (mvT hZ (hw _ (List.mem_of_getElem? (i := 38) rfl))) (mvT hZ (hw _ (List.mem_of_getElem? (i := 39) rfl))) (mvT hZ (hw _ (List.mem_of_getElem? (i := 40) rfl))) (by decide) (backOf (W := 0) (rmMov l Z a0 hw [] b136 bp138 (2 : Int32) (Int32.ofNat kq.val) (own_SL5.getD ((((Int32.ofNat kq.val) * ((5 : Int32) - (1 : Int32))) + (Int32.ofNat kf.val))).toNatClampNeg 0) (Int32.ofNat kf.val) (120 : Int32) (600 : Int32) own_PL5 T138.heap n0 O139 Ex138 F138_positions F138_count Lp138 (own_ix (n := 5) (cn := 120) (by decide) (own_kb5 kq).1 (by decide) (by decide) (by decide) (by decide) (by decide)) (own_ix (n := 5) (cn := 120) (by decide) (own_sb hs0 hs1 (by decide)) (by decide) (by decide) (by decide) (by decide) (by decide))) hZ (hw _ (List.mem_of_getElem? (i := 40) rfl)) (hw _ (List.mem_of_getElem? (i := 39) rfl)) (by decide) (by decide)) (g := (mkF m 127 #[.val (.int i0), .val (.int i1), .val (.int i2), .val (.int (5 : Int32)), .val (.ref b136), .val (.int (120 : Int32)), .val (.int (Int32.ofNat kq.val)), .val (.int (Int32.ofNat kf.val)), .val (.int (own_SL5.getD ((((Int32.ofNat kq.val) * ((5 : Int32) - (1 : Int32))) + (Int32.ofNat kf.val))).toNatClampNeg 0)), .val (.int (1 : Int32))] [(.int (Int32.ofNat kf.val)), (.int (own_SL5.getD ((((Int32.ofNat kq.val) * ((5 : Int32) - (1 : Int32))) + (Int32.ofNat kf.val))).toNatClampNeg 0)), (.int (Int32.ofNat kq.val)), (.int (2 : Int32)), (.ref b136)])) rfl (by rw [hml]; rfl) (argsL := [(.ref b136), (.int (2 : Int32)), (.int (Int32.ofNat kq.val)), (.int (own_SL5.getD ((((Int32.ofNat kq.val) * ((5 : Int32) - (1 : Int32))) + (Int32.ofNat kf.val))).toNatClampNeg 0)), (.int (Int32.ofNat kf.val))]) (rest := []) (lenOf pd_4 rfl) rfl (by show 2 * 0 + _ ≤ _; exact Nat.le_of_eq rfl) (hb hby at_127) (fun _ _ => ⟨rfl, hh145, (by decide : 6 + 0 ≤ _), (by decide : 1099 + 0 ≤ _)⟩)
    dsimp only [Pt.U, Pt.locs, Pt.cells, Pt.slots] at X146 l146 y146 z146 st146 hQ146
    subst l146 y146 z146
    obtain ⟨rfl, N146q, hh146⟩ := hQ146
    have N146 := Fr.app N145 N146q
    obtain ⟨_, _, ⟨T147, L147, k147, n147⟩, -, X147, ⟨Lc147, hQ147, l147, y147, z147⟩, st147⟩ := Jvm.LawKit.callS X146 hx (y := (⟨"com/example/frontward/frontward/offline/OrderingsSwappedPinLaw", "moved", "(Lcom/example/frontward/frontward/offline/Orderings;IIII)Z"⟩ : MethodName)) hown (mvT hZ (hw _ (List.mem_of_getElem? (i := 37) rfl))) (mvT hZ (hw _ (List.mem_of_getElem? (i := 38) rfl))) (mvT hZ (hw _ (List.mem_of_getElem? (i := 39) rfl))) (mvT hZ (hw _ (List.mem_of_getElem? (i := 40) rfl))) (by decide) (backOf (W := 0) (rmMov l Z a0 hw [] b136 bp138 (3 : Int32) (Int32.ofNat kq.val) (own_SL5.getD ((((Int32.ofNat kq.val) * ((5 : Int32) - (1 : Int32))) + (Int32.ofNat kf.val))).toNatClampNeg 0) (Int32.ofNat kf.val) (120 : Int32) (600 : Int32) own_PL5 T138.heap n0 O139 Ex138 F138_positions F138_count Lp138 (own_ix (n := 5) (cn := 120) (by decide) (own_kb5 kq).1 (by decide) (by decide) (by decide) (by decide) (by decide)) (own_ix (n := 5) (cn := 120) (by decide) (own_sb hs0 hs1 (by decide)) (by decide) (by decide) (by decide) (by decide) (by decide))) hZ (hw _ (List.mem_of_getElem? (i := 40) rfl)) (hw _ (List.mem_of_getElem? (i := 39) rfl)) (by decide) (by decide)) (g := (mkF m 159 #[.val (.int i0), .val (.int i1), .val (.int i2), .val (.int (5 : Int32)), .val (.ref b136), .val (.int (120 : Int32)), .val (.int (Int32.ofNat kq.val)), .val (.int (Int32.ofNat kf.val)), .val (.int (own_SL5.getD ((((Int32.ofNat kq.val) * ((5 : Int32) - (1 : Int32))) + (Int32.ofNat kf.val))).toNatClampNeg 0)), .val (.int (1 : Int32))] [(.int (Int32.ofNat kf.val)), (.int (own_SL5.getD ((((Int32.ofNat kq.val) * ((5 : Int32) - (1 : Int32))) + (Int32.ofNat kf.val))).toNatClampNeg 0)), (.int (Int32.ofNat kq.val)), (.int (3 : Int32)), (.ref b136)])) rfl (by rw [hml]; rfl) (argsL := [(.ref b136), (.int (3 : Int32)), (.int (Int32.ofNat kq.val)), (.int (own_SL5.getD ((((Int32.ofNat kq.val) * ((5 : Int32) - (1 : Int32))) + (Int32.ofNat kf.val))).toNatClampNeg 0)), (.int (Int32.ofNat kf.val))]) (rest := []) (lenOf pd_4 rfl) rfl (by show 2 * 0 + _ ≤ _; exact Nat.le_of_eq rfl) (hb hby at_159) (fun _ _ => ⟨rfl, hh146, (by decide : 6 + 0 ≤ _), (by decide : 1099 + 0 ≤ _)⟩)
    dsimp only [Pt.U, Pt.locs, Pt.cells, Pt.slots] at X147 l147 y147 z147 st147 hQ147
    subst l147 y147 z147
    obtain ⟨rfl, N147q, hh147⟩ := hQ147
    have N147 := Fr.app N146 N147q
    obtain ⟨_, _, ⟨T148, L148, k148, n148⟩, -, X148, ⟨Lc148, hQ148, l148, y148, z148⟩, st148⟩ := Jvm.LawKit.callS X147 hx (y := (⟨"com/example/frontward/frontward/offline/OrderingsSwappedPinLaw", "moved", "(Lcom/example/frontward/frontward/offline/Orderings;IIII)Z"⟩ : MethodName)) hown (mvT hZ (hw _ (List.mem_of_getElem? (i := 37) rfl))) (mvT hZ (hw _ (List.mem_of_getElem? (i := 38) rfl))) (mvT hZ (hw _ (List.mem_of_getElem? (i := 39) rfl))) (mvT hZ (hw _ (List.mem_of_getElem? (i := 40) rfl))) (by decide) (backOf (W := 0) (rmMov l Z a0 hw [] b136 bp138 (4 : Int32) (Int32.ofNat kq.val) (own_SL5.getD ((((Int32.ofNat kq.val) * ((5 : Int32) - (1 : Int32))) + (Int32.ofNat kf.val))).toNatClampNeg 0) (Int32.ofNat kf.val) (120 : Int32) (600 : Int32) own_PL5 T138.heap n0 O139 Ex138 F138_positions F138_count Lp138 (own_ix (n := 5) (cn := 120) (by decide) (own_kb5 kq).1 (by decide) (by decide) (by decide) (by decide) (by decide)) (own_ix (n := 5) (cn := 120) (by decide) (own_sb hs0 hs1 (by decide)) (by decide) (by decide) (by decide) (by decide) (by decide))) hZ (hw _ (List.mem_of_getElem? (i := 40) rfl)) (hw _ (List.mem_of_getElem? (i := 39) rfl)) (by decide) (by decide)) (g := (mkF m 191 #[.val (.int i0), .val (.int i1), .val (.int i2), .val (.int (5 : Int32)), .val (.ref b136), .val (.int (120 : Int32)), .val (.int (Int32.ofNat kq.val)), .val (.int (Int32.ofNat kf.val)), .val (.int (own_SL5.getD ((((Int32.ofNat kq.val) * ((5 : Int32) - (1 : Int32))) + (Int32.ofNat kf.val))).toNatClampNeg 0)), .val (.int (1 : Int32))] [(.int (Int32.ofNat kf.val)), (.int (own_SL5.getD ((((Int32.ofNat kq.val) * ((5 : Int32) - (1 : Int32))) + (Int32.ofNat kf.val))).toNatClampNeg 0)), (.int (Int32.ofNat kq.val)), (.int (4 : Int32)), (.ref b136)])) rfl (by rw [hml]; rfl) (argsL := [(.ref b136), (.int (4 : Int32)), (.int (Int32.ofNat kq.val)), (.int (own_SL5.getD ((((Int32.ofNat kq.val) * ((5 : Int32) - (1 : Int32))) + (Int32.ofNat kf.val))).toNatClampNeg 0)), (.int (Int32.ofNat kf.val))]) (rest := []) (lenOf pd_4 rfl) rfl (by show 2 * 0 + _ ≤ _; exact Nat.le_of_eq rfl) (hb hby at_191) (fun _ _ => ⟨rfl, hh147, (by decide : 6 + 0 ≤ _), (by decide : 1099 + 0 ≤ _)⟩)
    dsimp only [Pt.U, Pt.locs, Pt.cells, Pt.slots] at X148 l148 y148 z148 st148 hQ148
    subst l148 y148 z148
    obtain ⟨rfl, N148q, hh148⟩ := hQ148
    have N148 := Fr.app N147 N148q
    obtain ⟨fs, hr, hrun, hended, hW, hsame⟩ := X148.leave (v := some (.int (1 : Int32))) (fun h => by rw [Bd.returns] at h; cases h)
    refine ⟨_, _, pre142 _ ?_, hrun, hended, _, _, rfl, ?_, ⟨_, rfl⟩, hW, hsame.mono (by decide) (by decide)⟩
    · skip
      show Steps p.tables e below (T140.setTop (mkF m 40 #[.val (.int i0), .val (.int i1), .val (.int i2), .val (.int (5 : Int32)), .val (.ref b136), .val (.int (120 : Int32)), .val (.int (Int32.ofNat kq.val)), .unset, .unset, .unset] [(.int ((i2 &&& (2147483647 : Int32)) % (4 : Int32)))])) _
      rw [hkf]
      refine XS.istore X140.here hx rfl (hb hby at_40) rfl (l' := #[.val (.int i0), .val (.int i1), .val (.int i2), .val (.int (5 : Int32)), .val (.ref b136), .val (.int (120 : Int32)), .val (.int (Int32.ofNat kq.val)), .val (.int (Int32.ofNat kf.val)), .unset, .unset]) rfl ?_
      show Steps p.tables e below (T140.setTop (mkF m 42 #[.val (.int i0), .val (.int i1), .val (.int i2), .val (.int (5 : Int32)), .val (.ref b136), .val (.int (120 : Int32)), .val (.int (Int32.ofNat kq.val)), .val (.int (Int32.ofNat kf.val)), .unset, .unset] [])) _
      refine XS.aload X140.here hx rfl (hb hby at_42) rfl rfl ?_
      refine XS.iload X140.here hx rfl (hb hby at_44) rfl ?_
      refine XS.iload X140.here hx rfl (hb hby at_46) rfl ?_
      refine st143.trans ?_
      refine XS.istore X143.here hx rfl (hb hby at_51) rfl (l' := #[.val (.int i0), .val (.int i1), .val (.int i2), .val (.int (5 : Int32)), .val (.ref b136), .val (.int (120 : Int32)), .val (.int (Int32.ofNat kq.val)), .val (.int (Int32.ofNat kf.val)), .val (.int (own_SL5.getD ((((Int32.ofNat kq.val) * ((5 : Int32) - (1 : Int32))) + (Int32.ofNat kf.val))).toNatClampNeg 0)), .unset]) rfl ?_
      refine XS.iload X143.here hx rfl (hb hby at_53) rfl ?_
      show Steps p.tables e below (T143.setTop (mkF m 55 #[.val (.int i0), .val (.int i1), .val (.int i2), .val (.int (5 : Int32)), .val (.ref b136), .val (.int (120 : Int32)), .val (.int (Int32.ofNat kq.val)), .val (.int (Int32.ofNat kf.val)), .val (.int (own_SL5.getD ((((Int32.ofNat kq.val) * ((5 : Int32) - (1 : Int32))) + (Int32.ofNat kf.val))).toNatClampNeg 0)), .unset] [(.int (own_SL5.getD ((((Int32.ofNat kq.val) * ((5 : Int32) - (1 : Int32))) + (Int32.ofNat kf.val))).toNatClampNeg 0))])) _
      refine XS.ifNo X143.here hx rfl (hb hby at_55) rfl ((if0 _ _).trans (flt hs0).1) ?_
      refine XS.iload X143.here hx rfl (hb hby at_58) rfl ?_
      refine XS.iload X143.here hx rfl (hb hby at_60) rfl ?_
      show Steps p.tables e below (T143.setTop (mkF m 62 #[.val (.int i0), .val (.int i1), .val (.int i2), .val (.int (5 : Int32)), .val (.ref b136), .val (.int (120 : Int32)), .val (.int (Int32.ofNat kq.val)), .val (.int (Int32.ofNat kf.val)), .val (.int (own_SL5.getD ((((Int32.ofNat kq.val) * ((5 : Int32) - (1 : Int32))) + (Int32.ofNat kf.val))).toNatClampNeg 0)), .unset] [(.int (120 : Int32)), (.int (own_SL5.getD ((((Int32.ofNat kq.val) * ((5 : Int32) - (1 : Int32))) + (Int32.ofNat kf.val))).toNatClampNeg 0))])) _
      refine XS.icmpYes X143.here hx rfl (pc0 := 62) (pc' := 67) rfl (hb hby at_62) rfl (tlt hs1).1 (by decide) (by decide) ?_
      refine XS.aload X143.here hx rfl (hb hby at_67) rfl rfl ?_
      refine XS.iconst X143.here hx rfl (hb hby at_69) ?_
      refine XS.iload X143.here hx rfl (hb hby at_70) rfl ?_
      refine XS.iload X143.here hx rfl (hb hby at_72) rfl ?_
      refine XS.iload X143.here hx rfl (hb hby at_74) rfl ?_
      refine st144 _ ?_
      show Steps p.tables e below (T144.setTop (mkF m 79 #[.val (.int i0), .val (.int i1), .val (.int i2), .val (.int (5 : Int32)), .val (.ref b136), .val (.int (120 : Int32)), .val (.int (Int32.ofNat kq.val)), .val (.int (Int32.ofNat kf.val)), .val (.int (own_SL5.getD ((((Int32.ofNat kq.val) * ((5 : Int32) - (1 : Int32))) + (Int32.ofNat kf.val))).toNatClampNeg 0)), .unset] [(.int (own_mv (own_PL5.getD ((((0 : Int32) * (120 : Int32)) + (Int32.ofNat kq.val))).toNatClampNeg 0) (own_PL5.getD ((((0 : Int32) * (120 : Int32)) + (own_SL5.getD ((((Int32.ofNat kq.val) * ((5 : Int32) - (1 : Int32))) + (Int32.ofNat kf.val))).toNatClampNeg 0))).toNatClampNeg 0) (Int32.ofNat kf.val)))])) _
      rw [hm0]
      refine XS.istore X144.here hx rfl (hb hby at_79) rfl (l' := #[.val (.int i0), .val (.int i1), .val (.int i2), .val (.int (5 : Int32)), .val (.ref b136), .val (.int (120 : Int32)), .val (.int (Int32.ofNat kq.val)), .val (.int (Int32.ofNat kf.val)), .val (.int (own_SL5.getD ((((Int32.ofNat kq.val) * ((5 : Int32) - (1 : Int32))) + (Int32.ofNat kf.val))).toNatClampNeg 0)), .val (.int (1 : Int32))]) rfl ?_
      refine XS.iload X144.here hx rfl (hb hby at_81) rfl ?_
      show Steps p.tables e below (T144.setTop (mkF m 83 #[.val (.int i0), .val (.int i1), .val (.int i2), .val (.int (5 : Int32)), .val (.ref b136), .val (.int (120 : Int32)), .val (.int (Int32.ofNat kq.val)), .val (.int (Int32.ofNat kf.val)), .val (.int (own_SL5.getD ((((Int32.ofNat kq.val) * ((5 : Int32) - (1 : Int32))) + (Int32.ofNat kf.val))).toNatClampNeg 0)), .val (.int (1 : Int32))] [(.int (1 : Int32))])) _
      refine XS.ifNo X144.here hx rfl (hb hby at_83) rfl (by decide) ?_
      refine XS.aload X144.here hx rfl (hb hby at_86) rfl rfl ?_
      refine XS.iconst X144.here hx rfl (hb hby at_88) ?_
      refine XS.iload X144.here hx rfl (hb hby at_89) rfl ?_
      refine XS.iload X144.here hx rfl (hb hby at_91) rfl ?_
      refine XS.iload X144.here hx rfl (hb hby at_93) rfl ?_
      show Steps p.tables e below (T144.setTop (mkF m 95 #[.val (.int i0), .val (.int i1), .val (.int i2), .val (.int (5 : Int32)), .val (.ref b136), .val (.int (120 : Int32)), .val (.int (Int32.ofNat kq.val)), .val (.int (Int32.ofNat kf.val)), .val (.int (own_SL5.getD ((((Int32.ofNat kq.val) * ((5 : Int32) - (1 : Int32))) + (Int32.ofNat kf.val))).toNatClampNeg 0)), .val (.int (1 : Int32))] [(.int (Int32.ofNat kf.val)), (.int (own_SL5.getD ((((Int32.ofNat kq.val) * ((5 : Int32) - (1 : Int32))) + (Int32.ofNat kf.val))).toNatClampNeg 0)), (.int (Int32.ofNat kq.val)), (.int (1 : Int32)), (.ref b136)])) _
      refine st145 _ ?_
      show Steps p.tables e below (T145.setTop (mkF m 98 #[.val (.int i0), .val (.int i1), .val (.int i2), .val (.int (5 : Int32)), .val (.ref b136), .val (.int (120 : Int32)), .val (.int (Int32.ofNat kq.val)), .val (.int (Int32.ofNat kf.val)), .val (.int (own_SL5.getD ((((Int32.ofNat kq.val) * ((5 : Int32) - (1 : Int32))) + (Int32.ofNat kf.val))).toNatClampNeg 0)), .val (.int (1 : Int32))] [(.int (own_mv (own_PL5.getD ((((1 : Int32) * (120 : Int32)) + (Int32.ofNat kq.val))).toNatClampNeg 0) (own_PL5.getD ((((1 : Int32) * (120 : Int32)) + (own_SL5.getD ((((Int32.ofNat kq.val) * ((5 : Int32) - (1 : Int32))) + (Int32.ofNat kf.val))).toNatClampNeg 0))).toNatClampNeg 0) (Int32.ofNat kf.val)))])) _
      rw [hm1]
      show Steps p.tables e below (T145.setTop (mkF m 98 #[.val (.int i0), .val (.int i1), .val (.int i2), .val (.int (5 : Int32)), .val (.ref b136), .val (.int (120 : Int32)), .val (.int (Int32.ofNat kq.val)), .val (.int (Int32.ofNat kf.val)), .val (.int (own_SL5.getD ((((Int32.ofNat kq.val) * ((5 : Int32) - (1 : Int32))) + (Int32.ofNat kf.val))).toNatClampNeg 0)), .val (.int (1 : Int32))] [(.int (1 : Int32))])) _
      refine XS.ifNo X145.here hx rfl (hb hby at_98) rfl (by decide) ?_
      refine XS.iconst X145.here hx rfl (hb hby at_101) ?_
      refine XS.goto X145.here hx rfl (pc0 := 102) (pc' := 106) rfl (hb hby at_102) (by decide) (by decide) ?_
      refine XS.istore X145.here hx rfl (hb hby at_106) rfl (l' := #[.val (.int i0), .val (.int i1), .val (.int i2), .val (.int (5 : Int32)), .val (.ref b136), .val (.int (120 : Int32)), .val (.int (Int32.ofNat kq.val)), .val (.int (Int32.ofNat kf.val)), .val (.int (own_SL5.getD ((((Int32.ofNat kq.val) * ((5 : Int32) - (1 : Int32))) + (Int32.ofNat kf.val))).toNatClampNeg 0)), .val (.int (1 : Int32))]) rfl ?_
      refine XS.iloadN X145.here hx rfl (hb hby at_108) rfl ?_
      refine XS.iconst X145.here hx rfl (hb hby at_109) ?_
      show Steps p.tables e below (T145.setTop (mkF m 110 #[.val (.int i0), .val (.int i1), .val (.int i2), .val (.int (5 : Int32)), .val (.ref b136), .val (.int (120 : Int32)), .val (.int (Int32.ofNat kq.val)), .val (.int (Int32.ofNat kf.val)), .val (.int (own_SL5.getD ((((Int32.ofNat kq.val) * ((5 : Int32) - (1 : Int32))) + (Int32.ofNat kf.val))).toNatClampNeg 0)), .val (.int (1 : Int32))] [(.int (2 : Int32)), (.int (5 : Int32))])) _
      refine XS.icmpNo X145.here hx rfl (hb hby at_110) rfl (by decide) ?_
      refine XS.iload X145.here hx rfl (hb hby at_113) rfl ?_
      show Steps p.tables e below (T145.setTop (mkF m 115 #[.val (.int i0), .val (.int i1), .val (.int i2), .val (.int (5 : Int32)), .val (.ref b136), .val (.int (120 : Int32)), .val (.int (Int32.ofNat kq.val)), .val (.int (Int32.ofNat kf.val)), .val (.int (own_SL5.getD ((((Int32.ofNat kq.val) * ((5 : Int32) - (1 : Int32))) + (Int32.ofNat kf.val))).toNatClampNeg 0)), .val (.int (1 : Int32))] [(.int (1 : Int32))])) _
      refine XS.ifNo X145.here hx rfl (hb hby at_115) rfl (by decide) ?_
      refine XS.aload X145.here hx rfl (hb hby at_118) rfl rfl ?_
      refine XS.iconst X145.here hx rfl (hb hby at_120) ?_
      refine XS.iload X145.here hx rfl (hb hby at_121) rfl ?_
      refine XS.iload X145.here hx rfl (hb hby at_123) rfl ?_
      refine XS.iload X145.here hx rfl (hb hby at_125) rfl ?_
      refine st146 _ ?_
      show Steps p.tables e below (T146.setTop (mkF m 130 #[.val (.int i0), .val (.int i1), .val (.int i2), .val (.int (5 : Int32)), .val (.ref b136), .val (.int (120 : Int32)), .val (.int (Int32.ofNat kq.val)), .val (.int (Int32.ofNat kf.val)), .val (.int (own_SL5.getD ((((Int32.ofNat kq.val) * ((5 : Int32) - (1 : Int32))) + (Int32.ofNat kf.val))).toNatClampNeg 0)), .val (.int (1 : Int32))] [(.int (own_mv (own_PL5.getD ((((2 : Int32) * (120 : Int32)) + (Int32.ofNat kq.val))).toNatClampNeg 0) (own_PL5.getD ((((2 : Int32) * (120 : Int32)) + (own_SL5.getD ((((Int32.ofNat kq.val) * ((5 : Int32) - (1 : Int32))) + (Int32.ofNat kf.val))).toNatClampNeg 0))).toNatClampNeg 0) (Int32.ofNat kf.val)))])) _
      rw [hm2]
      show Steps p.tables e below (T146.setTop (mkF m 130 #[.val (.int i0), .val (.int i1), .val (.int i2), .val (.int (5 : Int32)), .val (.ref b136), .val (.int (120 : Int32)), .val (.int (Int32.ofNat kq.val)), .val (.int (Int32.ofNat kf.val)), .val (.int (own_SL5.getD ((((Int32.ofNat kq.val) * ((5 : Int32) - (1 : Int32))) + (Int32.ofNat kf.val))).toNatClampNeg 0)), .val (.int (1 : Int32))] [(.int (1 : Int32))])) _
      refine XS.ifNo X146.here hx rfl (hb hby at_130) rfl (by decide) ?_
      refine XS.iconst X146.here hx rfl (hb hby at_133) ?_
      refine XS.goto X146.here hx rfl (pc0 := 134) (pc' := 138) rfl (hb hby at_134) (by decide) (by decide) ?_
      refine XS.istore X146.here hx rfl (hb hby at_138) rfl (l' := #[.val (.int i0), .val (.int i1), .val (.int i2), .val (.int (5 : Int32)), .val (.ref b136), .val (.int (120 : Int32)), .val (.int (Int32.ofNat kq.val)), .val (.int (Int32.ofNat kf.val)), .val (.int (own_SL5.getD ((((Int32.ofNat kq.val) * ((5 : Int32) - (1 : Int32))) + (Int32.ofNat kf.val))).toNatClampNeg 0)), .val (.int (1 : Int32))]) rfl ?_
      refine XS.iloadN X146.here hx rfl (hb hby at_140) rfl ?_
      refine XS.iconst X146.here hx rfl (hb hby at_141) ?_
      show Steps p.tables e below (T146.setTop (mkF m 142 #[.val (.int i0), .val (.int i1), .val (.int i2), .val (.int (5 : Int32)), .val (.ref b136), .val (.int (120 : Int32)), .val (.int (Int32.ofNat kq.val)), .val (.int (Int32.ofNat kf.val)), .val (.int (own_SL5.getD ((((Int32.ofNat kq.val) * ((5 : Int32) - (1 : Int32))) + (Int32.ofNat kf.val))).toNatClampNeg 0)), .val (.int (1 : Int32))] [(.int (3 : Int32)), (.int (5 : Int32))])) _
      refine XS.icmpNo X146.here hx rfl (hb hby at_142) rfl (by decide) ?_
      show Steps p.tables e below (T146.setTop (mkF m 145 #[.val (.int i0), .val (.int i1), .val (.int i2), .val (.int (5 : Int32)), .val (.ref b136), .val (.int (120 : Int32)), .val (.int (Int32.ofNat kq.val)), .val (.int (Int32.ofNat kf.val)), .val (.int (own_SL5.getD ((((Int32.ofNat kq.val) * ((5 : Int32) - (1 : Int32))) + (Int32.ofNat kf.val))).toNatClampNeg 0)), .val (.int (1 : Int32))] [])) _
      refine XS.iload X146.here hx rfl (hb hby at_145) rfl ?_
      show Steps p.tables e below (T146.setTop (mkF m 147 #[.val (.int i0), .val (.int i1), .val (.int i2), .val (.int (5 : Int32)), .val (.ref b136), .val (.int (120 : Int32)), .val (.int (Int32.ofNat kq.val)), .val (.int (Int32.ofNat kf.val)), .val (.int (own_SL5.getD ((((Int32.ofNat kq.val) * ((5 : Int32) - (1 : Int32))) + (Int32.ofNat kf.val))).toNatClampNeg 0)), .val (.int (1 : Int32))] [(.int (1 : Int32))])) _
      refine XS.ifNo X146.here hx rfl (hb hby at_147) rfl (by decide) ?_
      refine XS.aload X146.here hx rfl (hb hby at_150) rfl rfl ?_
      refine XS.iconst X146.here hx rfl (hb hby at_152) ?_
      refine XS.iload X146.here hx rfl (hb hby at_153) rfl ?_
      refine XS.iload X146.here hx rfl (hb hby at_155) rfl ?_
      refine XS.iload X146.here hx rfl (hb hby at_157) rfl ?_
      refine st147 _ ?_
      show Steps p.tables e below (T147.setTop (mkF m 162 #[.val (.int i0), .val (.int i1), .val (.int i2), .val (.int (5 : Int32)), .val (.ref b136), .val (.int (120 : Int32)), .val (.int (Int32.ofNat kq.val)), .val (.int (Int32.ofNat kf.val)), .val (.int (own_SL5.getD ((((Int32.ofNat kq.val) * ((5 : Int32) - (1 : Int32))) + (Int32.ofNat kf.val))).toNatClampNeg 0)), .val (.int (1 : Int32))] [(.int (own_mv (own_PL5.getD ((((3 : Int32) * (120 : Int32)) + (Int32.ofNat kq.val))).toNatClampNeg 0) (own_PL5.getD ((((3 : Int32) * (120 : Int32)) + (own_SL5.getD ((((Int32.ofNat kq.val) * ((5 : Int32) - (1 : Int32))) + (Int32.ofNat kf.val))).toNatClampNeg 0))).toNatClampNeg 0) (Int32.ofNat kf.val)))])) _
      rw [hm3]
      show Steps p.tables e below (T147.setTop (mkF m 162 #[.val (.int i0), .val (.int i1), .val (.int i2), .val (.int (5 : Int32)), .val (.ref b136), .val (.int (120 : Int32)), .val (.int (Int32.ofNat kq.val)), .val (.int (Int32.ofNat kf.val)), .val (.int (own_SL5.getD ((((Int32.ofNat kq.val) * ((5 : Int32) - (1 : Int32))) + (Int32.ofNat kf.val))).toNatClampNeg 0)), .val (.int (1 : Int32))] [(.int (1 : Int32))])) _
      refine XS.ifNo X147.here hx rfl (hb hby at_162) rfl (by decide) ?_
      refine XS.iconst X147.here hx rfl (hb hby at_165) ?_
      refine XS.goto X147.here hx rfl (pc0 := 166) (pc' := 170) rfl (hb hby at_166) (by decide) (by decide) ?_
      refine XS.istore X147.here hx rfl (hb hby at_170) rfl (l' := #[.val (.int i0), .val (.int i1), .val (.int i2), .val (.int (5 : Int32)), .val (.ref b136), .val (.int (120 : Int32)), .val (.int (Int32.ofNat kq.val)), .val (.int (Int32.ofNat kf.val)), .val (.int (own_SL5.getD ((((Int32.ofNat kq.val) * ((5 : Int32) - (1 : Int32))) + (Int32.ofNat kf.val))).toNatClampNeg 0)), .val (.int (1 : Int32))]) rfl ?_
      refine XS.iloadN X147.here hx rfl (hb hby at_172) rfl ?_
      refine XS.iconst X147.here hx rfl (hb hby at_173) ?_
      show Steps p.tables e below (T147.setTop (mkF m 174 #[.val (.int i0), .val (.int i1), .val (.int i2), .val (.int (5 : Int32)), .val (.ref b136), .val (.int (120 : Int32)), .val (.int (Int32.ofNat kq.val)), .val (.int (Int32.ofNat kf.val)), .val (.int (own_SL5.getD ((((Int32.ofNat kq.val) * ((5 : Int32) - (1 : Int32))) + (Int32.ofNat kf.val))).toNatClampNeg 0)), .val (.int (1 : Int32))] [(.int (4 : Int32)), (.int (5 : Int32))])) _
      refine XS.icmpNo X147.here hx rfl (hb hby at_174) rfl (by decide) ?_
      refine XS.iload X147.here hx rfl (hb hby at_177) rfl ?_
      show Steps p.tables e below (T147.setTop (mkF m 179 #[.val (.int i0), .val (.int i1), .val (.int i2), .val (.int (5 : Int32)), .val (.ref b136), .val (.int (120 : Int32)), .val (.int (Int32.ofNat kq.val)), .val (.int (Int32.ofNat kf.val)), .val (.int (own_SL5.getD ((((Int32.ofNat kq.val) * ((5 : Int32) - (1 : Int32))) + (Int32.ofNat kf.val))).toNatClampNeg 0)), .val (.int (1 : Int32))] [(.int (1 : Int32))])) _
      refine XS.ifNo X147.here hx rfl (hb hby at_179) rfl (by decide) ?_
      refine XS.aload X147.here hx rfl (hb hby at_182) rfl rfl ?_
      refine XS.iconst X147.here hx rfl (hb hby at_184) ?_
      refine XS.iload X147.here hx rfl (hb hby at_185) rfl ?_
      refine XS.iload X147.here hx rfl (hb hby at_187) rfl ?_
      refine XS.iload X147.here hx rfl (hb hby at_189) rfl ?_
      refine st148 _ ?_
      show Steps p.tables e below (T148.setTop (mkF m 194 #[.val (.int i0), .val (.int i1), .val (.int i2), .val (.int (5 : Int32)), .val (.ref b136), .val (.int (120 : Int32)), .val (.int (Int32.ofNat kq.val)), .val (.int (Int32.ofNat kf.val)), .val (.int (own_SL5.getD ((((Int32.ofNat kq.val) * ((5 : Int32) - (1 : Int32))) + (Int32.ofNat kf.val))).toNatClampNeg 0)), .val (.int (1 : Int32))] [(.int (own_mv (own_PL5.getD ((((4 : Int32) * (120 : Int32)) + (Int32.ofNat kq.val))).toNatClampNeg 0) (own_PL5.getD ((((4 : Int32) * (120 : Int32)) + (own_SL5.getD ((((Int32.ofNat kq.val) * ((5 : Int32) - (1 : Int32))) + (Int32.ofNat kf.val))).toNatClampNeg 0))).toNatClampNeg 0) (Int32.ofNat kf.val)))])) _
      rw [hm4]
      show Steps p.tables e below (T148.setTop (mkF m 194 #[.val (.int i0), .val (.int i1), .val (.int i2), .val (.int (5 : Int32)), .val (.ref b136), .val (.int (120 : Int32)), .val (.int (Int32.ofNat kq.val)), .val (.int (Int32.ofNat kf.val)), .val (.int (own_SL5.getD ((((Int32.ofNat kq.val) * ((5 : Int32) - (1 : Int32))) + (Int32.ofNat kf.val))).toNatClampNeg 0)), .val (.int (1 : Int32))] [(.int (1 : Int32))])) _
      refine XS.ifNo X148.here hx rfl (hb hby at_194) rfl (by decide) ?_
      refine XS.iconst X148.here hx rfl (hb hby at_197) ?_
      refine XS.goto X148.here hx rfl (pc0 := 198) (pc' := 202) rfl (hb hby at_198) (by decide) (by decide) ?_
      refine XS.istore X148.here hx rfl (hb hby at_202) rfl (l' := #[.val (.int i0), .val (.int i1), .val (.int i2), .val (.int (5 : Int32)), .val (.ref b136), .val (.int (120 : Int32)), .val (.int (Int32.ofNat kq.val)), .val (.int (Int32.ofNat kf.val)), .val (.int (own_SL5.getD ((((Int32.ofNat kq.val) * ((5 : Int32) - (1 : Int32))) + (Int32.ofNat kf.val))).toNatClampNeg 0)), .val (.int (1 : Int32))]) rfl ?_
      refine XS.iload X148.here hx rfl (hb hby at_204) rfl ?_
      show Steps p.tables e below (T148.setTop (mkF m 206 #[.val (.int i0), .val (.int i1), .val (.int i2), .val (.int (5 : Int32)), .val (.ref b136), .val (.int (120 : Int32)), .val (.int (Int32.ofNat kq.val)), .val (.int (Int32.ofNat kf.val)), .val (.int (own_SL5.getD ((((Int32.ofNat kq.val) * ((5 : Int32) - (1 : Int32))) + (Int32.ofNat kf.val))).toNatClampNeg 0)), .val (.int (1 : Int32))] [(.int (1 : Int32))])) _
      exact retN X148 hx (t := .boolean) Bd.returns (by simp) (hb hby at_206) hr
    · show QL n0 _ T148.heap _
      rw [hh148]
      exact ⟨rfl, N148⟩
set_option maxRecDepth 65536 in
set_option maxHeartbeats 40000000 in
theorem comes_1 {Post : Tables → Env → Array Value → State → Outcome → State → Prop} (hpost : ∀ tb e args s v u, (limb_1_1.after args s (.returned v) u = true ∧ limb_1_2.after args s (.returned v) u = true ∧ True) → FrameEnd s (.returned v) u (Jvm.fieldLocs frame_1_writes args s ++ Jvm.arrayLocs frame_1_arrays args s ++ Jvm.staticLocs frame_1_statics s) 24 2304 → Post tb e args s (.returned v) u) :
    ArmFor flags0 classFile x code maxLocals ret World_1 tables_1 room_1 Calls_1 rest_1 Pre_1 Post := by
  intro l hfl _ _ p e ha hc hk s m args below hf hA hF happ hP
  obtain ⟨hcalls, hrest, hpre⟩ := hP
  obtain ⟨-, -, -, hnamed, -, -, -, hat⟩ := (Spec.applies_iff hf).mp happ
  obtain ⟨hg, hn⟩ := and_e (Cond.before_iff.mp (show (Jvm.Cond.and given_1 narrow_1).before args s = true from hpre))
  obtain ⟨g0, r0⟩ := and_e hg
  obtain ⟨g1, r1⟩ := and_e r0
  obtain ⟨g2, r2⟩ := and_e r1
  obtain ⟨w0, w1, w2, rfl⟩ : ∃ w0 w1 w2 : Value, args = #[w0, w1, w2] := by
    have hs : args.size = 3 := by simpa [Cond.value, given_1] using g0
    obtain ⟨L⟩ := args
    match L, hs with
    | [w0, w1, w2], _ => exact ⟨w0, w1, w2, rfl⟩
  have hw := fun d (hd : d ∈ tables_1) => atoms_spec (ws := Jvm.Cond.code x code maxLocals ret :: tables_1) hat d (List.mem_cons_of_mem _ hd)
  have hfit : Fit s := fun {y c} hc i hi => by
    obtain ⟨ha, rfl⟩ := Array.getElem?_eq_some_iff.mp hc
    have q := List.all_eq_true.mp ((Array.all_eq_true_iff_forall_mem.mp hF) _ (Array.getElem_mem ha)) i (List.mem_range.mpr hi)
    simpa [Array.getElem?_eq_getElem hi] using q
  obtain ⟨i0, ei0⟩ := is_v g1
  obtain rfl : w0 = (.int i0) := Option.some.inj ei0
  obtain ⟨i1, ei1⟩ := is_v g2
  obtain rfl : w1 = (.int i1) := Option.some.inj ei1
  obtain ⟨i2, ei2⟩ := is_v r2
  obtain rfl : w2 = (.int i2) := Option.some.inj ei2
  obtain ⟨n, o, h1, h2, h3, _, L, rfl, ⟨rfl, N⟩, hq⟩ := rm0 l s _ hw tables_1 i0 i1 i2 s.heap s.heap.size (Old.start s) p e ha hc hk s m _ below hf ((Spec.applies_iff_loose hf).mp happ).1 ⟨rfl, State.Warmed39.refl s, rfl⟩ trivial
  refine ⟨n, _, h1, h2, h3, hpost _ _ _ _ _ _ ⟨Cond.after_iff.mpr rfl, Cond.after_iff.mpr (eq_i res_at (Term.int_eval (1)) rfl), trivial⟩ ⟨hq.1, hq.2.1, (hq.2.2.sift fun y hy => Or.inr (N y hy)).mono (by decide) (by decide)⟩⟩
theorem main_1_1 : Claimed_1_1 := comes_1 fun _ _ _ _ _ _ h hF => ⟨h.1, hF⟩
theorem main_1_2 : Claimed_1_2 := comes_1 fun _ _ _ _ _ _ h hF => ⟨h.2.1, hF⟩
end Jvm.Pilot.@@N@@
namespace Jvm.Pilot.@@N@@
open Jvm Jvm.ClassFile Sem Op Lib Jvm.Free Jvm.Stand Jvm.Pilot.@@N@@.Jvm.D
/-! MADE BY PROGRAM (witnessworld.py) out of the Statement's table words and the real class files: 10 classes; the members and pool entries that the words name. The judged class is class 1, her method 1. -/
namespace start1
open Jvm.ClassFile
def u (s : String) : CpInfo := .utf8 (stringToUtf16 s)
/-- a pool by its gaps: so many unusable entries, then the entry; so many at the end -/
def gap : Nat → List CpInfo → List CpInfo
  | 0, r => r
  | n + 1, r => .unusable :: gap n r
def poolList (es : List (Nat × CpInfo)) (last : Nat) : List CpInfo := es.foldr (fun e r => gap e.1 (e.2 :: r)) (gap last [])
def pool (es : List (Nat × CpInfo)) (last : Nat) : Array CpInfo := ⟨poolList es last⟩
def fileOf (pool : Array CpInfo) (this : Nat) (attrs : Array Attribute := #[]) (ms : Array MethodInfo := #[]) (fl : Nat := 33) (sup : Nat := 0) (ifs : Array Nat := #[]) (fds : Array FieldInfo := #[]) : ClassFile where
  minorVersion := 0
  majorVersion := 65
  constantPool := pool
  accessFlags := fl
  thisClass := this
  superClass := sup
  interfaces := ifs
  fields := fds
  methods := ms
  attributes := attrs
def plain (name : String) (sup : Option ClassId) : Class where
  name := name
  kind := .ordinary
  loader := none
  accessFlags := 33
  super := sup
  interfaces := #[]
  cf := none
  fields := #[]
  methods := #[]
  instanceTypes := #[]
  staticTypes := #[]
  resolved := #[]
  callSites := []
  init := .initialized
  statics := none
  mirror := none

def pool0 : Array CpInfo := pool [(5, u "<init>"), (0, u "()V"), (1, .class_ 10), (1, u "java/lang/Object")] 113

def k0c0 : Code := { maxStack := 0, maxLocals := 1, code := object_method_1_code, exceptionTable := #[], attributes := #[] }
def k0m0 : Method := { name := "<init>", desc := "()V", sig := { parameters := [], returnType := none }, accessFlags := 1, code := some k0c0 }
/-- java/lang/Object -/
def k0 : Class := { plain "java/lang/Object" none with
  accessFlags := 33
  interfaces := #[]
  cf := some (fileOf pool0 8 #[] #[{ accessFlags := 1, nameIndex := 5, descriptorIndex := 6, attributes := #[] }] 33 0 #[] #[])
  fields := #[]
  methods := #[k0m0]
  instanceTypes := #[]
  staticTypes := #[]
  resolved := Array.replicate 124 none
  statics := none }

def pool1 : Array CpInfo := pool [(2, .class_ 4), (1, u "java/lang/Object"), (0, u "<init>"), (0, u "()V"), (0, .class_ 8), (0, u "com/example/frontward/frontward/offline/Orderings"), (0, .methodref 7 10), (0, .nameAndType 5 11), (0, u "(I)V"), (0, .methodref 7 13), (0, .nameAndType 14 15), (0, u "count"), (0, u "()I"), (0, .integer 2147483647), (0, .methodref 7 18), (0, .nameAndType 19 20), (0, u "swapped"), (0, u "(II)I"), (0, .methodref 22 23), (0, .class_ 24), (0, .nameAndType 25 26), (0, u "com/example/frontward/frontward/offline/OrderingsSwappedPinLaw"), (0, u "moved"), (0, u "(Lcom/example/frontward/frontward/offline/Orderings;IIII)Z"), (0, .methodref 7 28), (0, .nameAndType 29 20), (0, u "position"), (2, u "law"), (0, u "(III)Z")] 3

def k1m0 : Method := { name := "<init>", desc := "()V", sig := { parameters := [], returnType := none }, accessFlags := 1, code := none }
def k1c1 : Code := { maxStack := 5, maxLocals := 10, code := code, exceptionTable := #[], attributes := #[] }
def k1m1 : Method := { name := "law", desc := "(III)Z", sig := { parameters := [.int, .int, .int], returnType := some .boolean }, accessFlags := 9, code := some k1c1 }
def k1c2 : Code := { maxStack := 3, maxLocals := 7, code := method_3_code, exceptionTable := #[], attributes := #[] }
def k1m2 : Method := { name := "moved", desc := "(Lcom/example/frontward/frontward/offline/Orderings;IIII)Z", sig := { parameters := [(.object "com/example/frontward/frontward/offline/Orderings"), .int, .int, .int, .int], returnType := some .boolean }, accessFlags := 10, code := some k1c2 }
/-- com/example/frontward/frontward/offline/OrderingsSwappedPinLaw -/
def k1 : Class := { plain "com/example/frontward/frontward/offline/OrderingsSwappedPinLaw" (some 0) with
  accessFlags := 49
  interfaces := #[]
  cf := some (fileOf pool1 22 #[] #[{ accessFlags := 1, nameIndex := 5, descriptorIndex := 6, attributes := #[] }, { accessFlags := 9, nameIndex := 32, descriptorIndex := 33, attributes := #[] }, { accessFlags := 10, nameIndex := 25, descriptorIndex := 26, attributes := #[] }] 49 2 #[] #[])
  fields := #[]
  methods := #[k1m0, k1m1, k1m2]
  instanceTypes := #[]
  staticTypes := #[]
  resolved := Array.replicate 37 none
  statics := none }

def pool2 : Array CpInfo := pool [(1, .methodref 2 3), (0, .class_ 4), (0, .nameAndType 5 6), (0, u "java/lang/Object"), (0, u "<init>"), (0, u "()V"), (11, .fieldref 19 20), (0, .class_ 21), (0, .nameAndType 22 23), (0, u "com/example/frontward/frontward/offline/Orderings"), (0, u "items"), (0, u "I"), (0, .fieldref 19 25), (0, .nameAndType 26 23), (0, u "count"), (0, .fieldref 19 28), (0, .nameAndType 29 30), (0, u "positions"), (0, u "[B"), (0, .fieldref 19 32), (0, .nameAndType 33 34), (0, u "swaps"), (0, u "[I"), (0, .methodref 36 37), (0, .class_ 38), (0, .nameAndType 39 40), (0, u "java/lang/System"), (0, u "arraycopy"), (0, u "(Ljava/lang/Object;ILjava/lang/Object;II)V"), (0, .methodref 19 42), (0, .nameAndType 43 44), (0, u "swapped"), (0, u "(I[I[II)I"), (5, u "(II)I"), (0, u "(I)V"), (4, u "()I"), (0, u "position")] 18

def k2c0 : Code := { maxStack := 7, maxLocals := 9, code := prog_26_method_1_code, exceptionTable := #[], attributes := #[] }
def k2m0 : Method := { name := "<init>", desc := "(I)V", sig := { parameters := [.int], returnType := none }, accessFlags := 0, code := some k2c0 }
def k2c1 : Code := { maxStack := 5, maxLocals := 6, code := prog_26_method_2_code, exceptionTable := #[], attributes := #[] }
def k2m1 : Method := { name := "swapped", desc := "(I[I[II)I", sig := { parameters := [.int, (.array .int), (.array .int), .int], returnType := some .int }, accessFlags := 10, code := some k2c1 }
def k2c2 : Code := { maxStack := 1, maxLocals := 1, code := prog_26_method_4_code, exceptionTable := #[], attributes := #[] }
def k2m2 : Method := { name := "count", desc := "()I", sig := { parameters := [], returnType := some .int }, accessFlags := 0, code := some k2c2 }
def k2c3 : Code := { maxStack := 3, maxLocals := 3, code := prog_26_method_5_code, exceptionTable := #[], attributes := #[] }
def k2m3 : Method := { name := "position", desc := "(II)I", sig := { parameters := [.int, .int], returnType := some .int }, accessFlags := 0, code := some k2c3 }
def k2c4 : Code := { maxStack := 4, maxLocals := 3, code := prog_26_method_7_code, exceptionTable := #[], attributes := #[] }
def k2m4 : Method := { name := "swapped", desc := "(II)I", sig := { parameters := [.int, .int], returnType := some .int }, accessFlags := 0, code := some k2c4 }
/-- com/example/frontward/frontward/offline/Orderings -/
def k2 : Class := { plain "com/example/frontward/frontward/offline/Orderings" (some 0) with
  accessFlags := 48
  interfaces := #[]
  cf := some (fileOf pool2 19 #[] #[{ accessFlags := 0, nameIndex := 5, descriptorIndex := 51, attributes := #[] }, { accessFlags := 10, nameIndex := 43, descriptorIndex := 44, attributes := #[] }, { accessFlags := 0, nameIndex := 26, descriptorIndex := 56, attributes := #[] }, { accessFlags := 0, nameIndex := 57, descriptorIndex := 50, attributes := #[] }, { accessFlags := 0, nameIndex := 43, descriptorIndex := 50, attributes := #[] }] 48 2 #[] #[{ accessFlags := 18, nameIndex := 22, descriptorIndex := 23, attributes := #[] }, { accessFlags := 18, nameIndex := 26, descriptorIndex := 23, attributes := #[] }, { accessFlags := 18, nameIndex := 29, descriptorIndex := 30, attributes := #[] }, { accessFlags := 18, nameIndex := 33, descriptorIndex := 34, attributes := #[] }])
  fields := #[{ name := "items", type := .int, accessFlags := 18, slot := 0, constantValue := 0 }, { name := "count", type := .int, accessFlags := 18, slot := 1, constantValue := 0 }, { name := "positions", type := (.array .byte), accessFlags := 18, slot := 2, constantValue := 0 }, { name := "swaps", type := (.array .int), accessFlags := 18, slot := 3, constantValue := 0 }]
  methods := #[k2m0, k2m1, k2m2, k2m3, k2m4]
  instanceTypes := #[.int, .int, (.array .byte), (.array .int)]
  staticTypes := #[]
  resolved := Array.replicate 76 none
  statics := none }

def pool3 : Array CpInfo := pool [(2, .class_ 4), (1, u "java/lang/Object"), (0, u "<init>"), (0, u "()V"), (1, .class_ 10), (1, u "java/lang/System"), (0, u "allowSecurityManager"), (0, u "I"), (16, u "cons"), (0, u "Ljava/io/Console;"), (77, .class_ 110), (1, u "java/lang/System$CallersHolder"), (43, u "initialErrStream"), (0, u "Ljava/io/PrintStream;"), (19, u "security"), (0, u "Ljava/lang/SecurityManager;"), (31, .class_ 209), (0, u "java/lang/System$1"), (7, u "props"), (0, u "Ljava/util/Properties;"), (2, u "lineSeparator"), (0, u "Ljava/lang/String;"), (96, .class_ 321), (1, u "java/lang/System$LoggerFinder"), (5, .class_ 328), (0, u "java/lang/System$Logger"), (67, u "err"), (2, u "out"), (91, u "notSupportedJnuEncoding"), (15, u "in"), (17, u "initialIn"), (0, u "Ljava/io/InputStream;"), (35, u "bootLayer"), (0, u "Ljava/lang/ModuleLayer;"), (99, .class_ 664), (0, u "java/lang/System$2"), (9, u "NEVER"), (2, u "MAYBE"), (49, u "arraycopy"), (0, u "(Ljava/lang/Object;ILjava/lang/Object;II)V"), (72, .class_ 802), (0, u "java/lang/System$Logger$Level")] 31

def k3m0 : Method := { name := "<init>", desc := "()V", sig := { parameters := [], returnType := none }, accessFlags := 2, code := none }
def k3m1 : Method := { name := "arraycopy", desc := "(Ljava/lang/Object;ILjava/lang/Object;II)V", sig := { parameters := [(.object "java/lang/Object"), .int, (.object "java/lang/Object"), .int, .int], returnType := none }, accessFlags := 265, code := none }
/-- java/lang/System -/
def k3 : Class := { plain "java/lang/System" (some 0) with
  accessFlags := 49
  interfaces := #[]
  cf := some (fileOf pool3 8 #[.nestMembers #[319, 327, 801, 108, 663, 208]] #[{ accessFlags := 2, nameIndex := 5, descriptorIndex := 6, attributes := #[] }, { accessFlags := 265, nameIndex := 727, descriptorIndex := 728, attributes := #[] }] 49 2 #[] #[{ accessFlags := 25, nameIndex := 507, descriptorIndex := 526, attributes := #[] }, { accessFlags := 25, nameIndex := 399, descriptorIndex := 155, attributes := #[] }, { accessFlags := 25, nameIndex := 396, descriptorIndex := 155, attributes := #[] }, { accessFlags := 10, nameIndex := 525, descriptorIndex := 526, attributes := #[] }, { accessFlags := 26, nameIndex := 674, descriptorIndex := 12, attributes := #[] }, { accessFlags := 26, nameIndex := 677, descriptorIndex := 12, attributes := #[] }, { accessFlags := 10, nameIndex := 11, descriptorIndex := 12, attributes := #[] }, { accessFlags := 74, nameIndex := 175, descriptorIndex := 176, attributes := #[] }, { accessFlags := 10, nameIndex := 491, descriptorIndex := 222, attributes := #[] }, { accessFlags := 74, nameIndex := 29, descriptorIndex := 30, attributes := #[] }, { accessFlags := 74, nameIndex := 154, descriptorIndex := 155, attributes := #[] }, { accessFlags := 10, nameIndex := 217, descriptorIndex := 218, attributes := #[] }, { accessFlags := 10, nameIndex := 221, descriptorIndex := 222, attributes := #[] }, { accessFlags := 8, nameIndex := 562, descriptorIndex := 563, attributes := #[] }])
  fields := #[{ name := "in", type := (.object "java/io/InputStream"), accessFlags := 25, slot := 0, constantValue := 0 }, { name := "out", type := (.object "java/io/PrintStream"), accessFlags := 25, slot := 1, constantValue := 0 }, { name := "err", type := (.object "java/io/PrintStream"), accessFlags := 25, slot := 2, constantValue := 0 }, { name := "initialIn", type := (.object "java/io/InputStream"), accessFlags := 10, slot := 3, constantValue := 0 }, { name := "NEVER", type := .int, accessFlags := 26, slot := 4, constantValue := 0 }, { name := "MAYBE", type := .int, accessFlags := 26, slot := 5, constantValue := 0 }, { name := "allowSecurityManager", type := .int, accessFlags := 10, slot := 6, constantValue := 0 }, { name := "security", type := (.object "java/lang/SecurityManager"), accessFlags := 74, slot := 7, constantValue := 0 }, { name := "notSupportedJnuEncoding", type := (.object "java/lang/String"), accessFlags := 10, slot := 8, constantValue := 0 }, { name := "cons", type := (.object "java/io/Console"), accessFlags := 74, slot := 9, constantValue := 0 }, { name := "initialErrStream", type := (.object "java/io/PrintStream"), accessFlags := 74, slot := 10, constantValue := 0 }, { name := "props", type := (.object "java/util/Properties"), accessFlags := 10, slot := 11, constantValue := 0 }, { name := "lineSeparator", type := (.object "java/lang/String"), accessFlags := 10, slot := 12, constantValue := 0 }, { name := "bootLayer", type := (.object "java/lang/ModuleLayer"), accessFlags := 8, slot := 13, constantValue := 0 }]
  methods := #[k3m0, k3m1]
  instanceTypes := #[]
  staticTypes := #[(.object "java/io/InputStream"), (.object "java/io/PrintStream"), (.object "java/io/PrintStream"), (.object "java/io/InputStream"), .int, .int, .int, (.object "java/lang/SecurityManager"), (.object "java/lang/String"), (.object "java/io/Console"), (.object "java/io/PrintStream"), (.object "java/util/Properties"), (.object "java/lang/String"), (.object "java/lang/ModuleLayer")]
  resolved := Array.replicate 834 none
  statics := none }

def pool4 : Array CpInfo := pool [(1, u "java/lang/Cloneable"), (0, .class_ 1), (0, u "java/lang/Object"), (0, .class_ 3)] 3

/-- java/lang/Cloneable -/
def k4 : Class := { plain "java/lang/Cloneable" (some 0) with
  accessFlags := 1537
  interfaces := #[]
  cf := some (fileOf pool4 2 #[] #[] 1537 4 #[] #[])
  fields := #[]
  methods := #[]
  instanceTypes := #[]
  staticTypes := #[]
  resolved := Array.replicate 8 none
  statics := none }

def pool5 : Array CpInfo := pool [(1, u "java/io/Serializable"), (0, .class_ 1), (0, u "java/lang/Object"), (0, .class_ 3)] 3

/-- java/io/Serializable -/
def k5 : Class := { plain "java/io/Serializable" (some 0) with
  accessFlags := 1537
  interfaces := #[]
  cf := some (fileOf pool5 2 #[] #[] 1537 4 #[] #[])
  fields := #[]
  methods := #[]
  instanceTypes := #[]
  staticTypes := #[]
  resolved := Array.replicate 8 none
  statics := none }

/-- the primitive byte -/
def k6 : Class := { plain "byte" none with kind := .primitive 'B', accessFlags := 0x411 }
/-- [B -/
def k7 : Class := { plain "[B" (some 0) with kind := .array 6 .byte, interfaces := #[4, 5], accessFlags := 1041 }

/-- the primitive int -/
def k8 : Class := { plain "int" none with kind := .primitive 'I', accessFlags := 0x411 }
/-- [I -/
def k9 : Class := { plain "[I" (some 0) with kind := .array 8 .int, interfaces := #[4, 5], accessFlags := 1041 }

def heap : Heap := #[]
def classes : Array Class := #[k0, k1, k2, k3, k4, k5, k6, k7, k8, k9]
def interned : List (Array UInt16 × Addr) := []
def slotsUsed : Nat := 0
def theMethod : MethodId := ⟨1, 1⟩
def args0 : Array Value := #[.int 5, .int 1, .int 0]
def aboutOver (below : List Frame) : State where
  vm := { classes := classes, interned := interned.toArray }
  heap := heap
  slotsUsed := slotsUsed
  threads := #[{ frames := .invoking theMethod args0 :: below }]
def below0 : List Frame := [.native { method := ⟨0, 0⟩, args := #[] }]
def about1 : State := aboutOver below0
def p0 : Program := .bare "" "" ""
def e0 : Env := launch0.env 0 0 0
theorem w_frames : about1.frames = Frame.invoking theMethod args0 :: below0 := rfl
set_option maxRecDepth 65536 in
theorem w_args : argsFit about1.vm theMethod args0 = true := by decide +kernel
set_option maxRecDepth 65536 in
theorem w_heap : heapFits about1 = true := by decide +kernel
set_option maxRecDepth 65536 in
theorem w_runnable : about1.curStatus? = some .runnable := by decide +kernel
set_option maxRecDepth 65536 in
theorem w_alone : about1.alone = true := by decide +kernel
set_option maxRecDepth 65536 in
theorem w_named : about1.methodNamed? x = some theMethod := by decide +kernel
set_option maxRecDepth 65536 in
theorem w_hears : about1.hears theMethod below0 = true := by decide +kernel
set_option maxRecDepth 65536 in
theorem w_ripe : about1.ripe theMethod args0 below0 = true := by decide +kernel
theorem w_running : about1.status = .running := rfl
set_option maxRecDepth 65536 in
theorem w_room : about1.hasRoom e0.platform room_1 = true :=
  launch0.hasRoom_least _ room_1 (by decide +kernel) (by decide +kernel) (by decide +kernel) (by decide +kernel) (by decide +kernel) (by decide +kernel)
theorem allAtoms_all (ts : List Jvm.Cond) (a : Array Jvm.Value) (st : Jvm.State) : (allAtoms ts).before a st = ts.all (fun c => c.before a st) := by
  induction ts with
  | nil => rfl
  | cons c t ih =>
    show (Jvm.Cond.and c (allAtoms t)).before a st = _
    rw [Jvm.Cond.before_and, ih, List.all_cons]
def words1 : List Jvm.Cond := Jvm.Cond.code x code maxLocals ret :: tables_1
/-- a 'code' word, met by the world's own term for the bytes: nothing is compared byte by byte -/
theorem code_word {y : MethodName} {bytes : ByteArray} {mx : Nat} {rt : Option FieldType} {a : Array Value} {s : State} {m : MethodId} {meth : Method} {c : Code} (h1 : s.methodNamed? y = some m) (h2 : s.vm.method? m = some meth) (h3 : meth.code = some c) (h4 : c.code = bytes)
    (h5 : (c.maxLocals == mx && c.exceptionTable.isEmpty && decide (c.maxStack ≤ mostOperands) && decide (meth.sig.returnType = rt) && !meth.locks && decide (parseMethodDescriptor y.desc = some meth.sig)) = true) : (Jvm.Cond.code y bytes mx rt).before a s = true := by
  simp only [Bool.and_eq_true, beq_iff_eq, Bool.not_eq_true', decide_eq_true_eq] at h5
  obtain ⟨⟨⟨⟨⟨g1, g2⟩, g3⟩, g4⟩, g5⟩, g6⟩ := h5
  simp [Cond.before, Cond.holds, Cond.value, h1, h2, h3, h4, g1, g2, g3, g4, g5, g6]
def isCode : Jvm.Cond → Bool
  | .code _ _ _ _ => true
  | _ => false
theorem all_split {L : List Jvm.Cond} {P : Jvm.Cond → Bool} (h1 : L.all (fun c => isCode c || P c) = true) (h2 : ∀ c ∈ L.filter isCode, P c = true) : L.all P = true := by
  refine List.all_eq_true.mpr fun c hc => ?_
  have h := List.all_eq_true.mp h1 c hc
  rcases Bool.eq_false_or_eq_true (isCode c) with hi | hi
  · exact h2 c (List.mem_filter.mpr ⟨hc, hi⟩)
  · simpa [hi] using h
set_option maxRecDepth 65536 in
theorem w_c0 : (Jvm.Cond.code x code maxLocals ret).before args0 about1 = true := code_word (m := ⟨1, 1⟩) (meth := k1m1) (c := k1c1) (by decide +kernel) rfl rfl rfl (by decide +kernel)
set_option maxRecDepth 65536 in
theorem w_c1 : (Jvm.Cond.code ({ cls := "com/example/frontward/frontward/offline/Orderings", name := "<init>", desc := "(I)V" } : Jvm.MethodName) prog_26_method_1_code (9 : Nat) (Option.none : Option Jvm.ClassFile.FieldType)).before args0 about1 = true := code_word (m := ⟨2, 0⟩) (meth := k2m0) (c := k2c0) (by decide +kernel) rfl rfl rfl (by decide +kernel)
set_option maxRecDepth 65536 in
theorem w_c2 : (Jvm.Cond.code ({ cls := "java/lang/Object", name := "<init>", desc := "()V" } : Jvm.MethodName) object_method_1_code (1 : Nat) (Option.none : Option Jvm.ClassFile.FieldType)).before args0 about1 = true := code_word (m := ⟨0, 0⟩) (meth := k0m0) (c := k0c0) (by decide +kernel) rfl rfl rfl (by decide +kernel)
set_option maxRecDepth 65536 in
theorem w_c3 : (Jvm.Cond.code ({ cls := "com/example/frontward/frontward/offline/Orderings", name := "swapped", desc := "(I[I[II)I" } : Jvm.MethodName) prog_26_method_2_code (6 : Nat) (Option.some Jvm.ClassFile.FieldType.int)).before args0 about1 = true := code_word (m := ⟨2, 1⟩) (meth := k2m1) (c := k2c1) (by decide +kernel) rfl rfl rfl (by decide +kernel)
set_option maxRecDepth 65536 in
theorem w_c4 : (Jvm.Cond.code ({ cls := "com/example/frontward/frontward/offline/Orderings", name := "count", desc := "()I" } : Jvm.MethodName) prog_26_method_4_code (1 : Nat) (Option.some Jvm.ClassFile.FieldType.int)).before args0 about1 = true := code_word (m := ⟨2, 2⟩) (meth := k2m2) (c := k2c2) (by decide +kernel) rfl rfl rfl (by decide +kernel)
set_option maxRecDepth 65536 in
theorem w_c5 : (Jvm.Cond.code ({ cls := "com/example/frontward/frontward/offline/Orderings", name := "swapped", desc := "(II)I" } : Jvm.MethodName) prog_26_method_7_code (3 : Nat) (Option.some Jvm.ClassFile.FieldType.int)).before args0 about1 = true := code_word (m := ⟨2, 4⟩) (meth := k2m4) (c := k2c4) (by decide +kernel) rfl rfl rfl (by decide +kernel)
set_option maxRecDepth 65536 in
theorem w_c6 : (Jvm.Cond.code ({ cls := "com/example/frontward/frontward/offline/OrderingsSwappedPinLaw", name := "moved", desc := "(Lcom/example/frontward/frontward/offline/Orderings;IIII)Z" } : Jvm.MethodName) method_3_code (7 : Nat) (Option.some Jvm.ClassFile.FieldType.boolean)).before args0 about1 = true := code_word (m := ⟨1, 2⟩) (meth := k1m2) (c := k1c2) (by decide +kernel) rfl rfl rfl (by decide +kernel)
set_option maxRecDepth 65536 in
theorem w_c7 : (Jvm.Cond.code ({ cls := "com/example/frontward/frontward/offline/Orderings", name := "position", desc := "(II)I" } : Jvm.MethodName) prog_26_method_5_code (3 : Nat) (Option.some Jvm.ClassFile.FieldType.int)).before args0 about1 = true := code_word (m := ⟨2, 3⟩) (meth := k2m3) (c := k2c3) (by decide +kernel) rfl rfl rfl (by decide +kernel)
def codes1 : List Jvm.Cond := [Jvm.Cond.code x code maxLocals ret, Jvm.Cond.code ({ cls := "com/example/frontward/frontward/offline/Orderings", name := "<init>", desc := "(I)V" } : Jvm.MethodName) prog_26_method_1_code (9 : Nat) (Option.none : Option Jvm.ClassFile.FieldType), Jvm.Cond.code ({ cls := "java/lang/Object", name := "<init>", desc := "()V" } : Jvm.MethodName) object_method_1_code (1 : Nat) (Option.none : Option Jvm.ClassFile.FieldType), Jvm.Cond.code ({ cls := "com/example/frontward/frontward/offline/Orderings", name := "swapped", desc := "(I[I[II)I" } : Jvm.MethodName) prog_26_method_2_code (6 : Nat) (Option.some Jvm.ClassFile.FieldType.int), Jvm.Cond.code ({ cls := "com/example/frontward/frontward/offline/Orderings", name := "count", desc := "()I" } : Jvm.MethodName) prog_26_method_4_code (1 : Nat) (Option.some Jvm.ClassFile.FieldType.int), Jvm.Cond.code ({ cls := "com/example/frontward/frontward/offline/Orderings", name := "swapped", desc := "(II)I" } : Jvm.MethodName) prog_26_method_7_code (3 : Nat) (Option.some Jvm.ClassFile.FieldType.int), Jvm.Cond.code ({ cls := "com/example/frontward/frontward/offline/OrderingsSwappedPinLaw", name := "moved", desc := "(Lcom/example/frontward/frontward/offline/Orderings;IIII)Z" } : Jvm.MethodName) method_3_code (7 : Nat) (Option.some Jvm.ClassFile.FieldType.boolean), Jvm.Cond.code ({ cls := "com/example/frontward/frontward/offline/Orderings", name := "position", desc := "(II)I" } : Jvm.MethodName) prog_26_method_5_code (3 : Nat) (Option.some Jvm.ClassFile.FieldType.int)]
set_option maxRecDepth 65536 in
theorem codes_eq : words1.filter isCode = codes1 := rfl
theorem w_codes : ∀ c ∈ words1.filter isCode, c.before args0 about1 = true := by
  rw [codes_eq]
  intro c hc
  simp only [codes1, List.mem_cons, List.not_mem_nil, or_false] at hc
  rcases hc with rfl | rfl | rfl | rfl | rfl | rfl | rfl | rfl
  · exact w_c0
  · exact w_c1
  · exact w_c2
  · exact w_c3
  · exact w_c4
  · exact w_c5
  · exact w_c6
  · exact w_c7
set_option maxRecDepth 65536 in
theorem w_t1 : (words1.take 24).all (fun c => isCode c || c.before args0 about1) = true := by decide +kernel
set_option maxRecDepth 65536 in
theorem w_t2 : (words1.drop 24).all (fun c => isCode c || c.before args0 about1) = true := by decide +kernel
theorem w_tables : (allAtoms (Jvm.Cond.code x code maxLocals ret :: tables_1)).before args0 about1 = true := by
  rw [allAtoms_all]
  show words1.all (fun c => c.before args0 about1) = true
  refine all_split ?_ w_codes
  rw [← List.take_append_drop 24 words1, List.all_append, w_t1, w_t2]
  rfl
set_option maxRecDepth 65536 in
theorem w_case : (Jvm.Cond.and given_1 narrow_1).before args0 about1 = true := by decide +kernel
theorem w_applies : (headSpec (Jvm.Cond.code x code maxLocals ret :: tables_1) room_1).applies x e0.platform about1 = true :=
  (Spec.applies_iff w_frames).mpr ⟨w_running, w_runnable, w_alone, w_named, w_hears, w_ripe, w_room, w_tables⟩
theorem atStart : AtStart classFile x code maxLocals ret World_1 tables_1 room_1 Calls_1 rest_1 Pre_1 launch0 p0 e0 about1 theMethod args0 below0 :=
  ⟨lists_1, trivial, launch0.admits_env _ _ _, launch0.least_env, fairChoices_fair.cas, fairChoices_fair.clock, w_frames, w_args, w_heap, w_applies, trivial, trivial, w_case⟩
end start1
theorem witness_1 : WitnessClaimed_1 := ⟨start1.p0, start1.e0, start1.about1, start1.theMethod, start1.args0, start1.below0, start1.atStart⟩
end Jvm.Pilot.@@N@@
