import JvmDerived
import JvmDerived.Pilot.@@N@@Statement
import JvmDerived.Pilot.@@N@@Code
set_option linter.unusedVariables false
set_option linter.unusedSimpArgs false
namespace Jvm.RoadKit
open Sem ClassFile Op Lib Jvm.Stand Jvm.Free Jvm.LawKit
section New
variable {p : Program} {l : Launch} {e : Env} {R : Room} {s : State} {m : MethodId} {args : Array Value} {below : List Frame} {meth : Method} {c : Code} {T : State} {locs : List Loc} {cells slots : Nat}
theorem retI (X : Stand p l e R s m args below meth c T locs cells slots) (hx : p.tables.exec = Jvm.exec) {pc : Nat} {Ls : Array Slot} {z : Int32} {rest : List Value} (hret : meth.sig.returnType = some .int) (hd : decode c.code pc = .ok (.ireturn, 1)) {fs : List Frame}
    (hl : ∀ (f : JFrame) (acts : List Action), f.method = m → f.locked = none → f.entered = [] → (doReturn e (T.setTop f) acts (some (.int z))).1 = T.setFrames fs) : Steps p.tables e below (T.setTop (mkF m pc Ls (.int z :: rest))) (T.setFrames fs) := by
  have hm' : T.vm.method? m = some meth := X.method'
  have hn : narrow .int (.int z) = .int z := rfl
  show Steps p.tables e below (T.setTop { method := m, pc := pc, locals := Ls, stack := _ :: rest, locked := none }) _
  jvm_step X.here [X.here.top, hx, hd, hm', hret, hn]
  first | (intro acts; rw [hl _ acts rfl rfl rfl]) | rw [hl _ _ rfl rfl rfl]
  exact Steps.refl _
end New
end Jvm.RoadKit
namespace Jvm.Pilot.@@N@@
open Jvm Jvm.ClassFile Sem Op Lib Jvm.Free Jvm.Stand Jvm.LawKit Jvm.RoadKit Bundle Jvm.Pilot.@@N@@.Jvm.D
theorem own_fldI {s : State} {args : Array Value} {t : Term} {C n d : String} {a : Addr} {k : Int32} (ht : t.eval args s none [] s = some (.ref a)) (h : (Jvm.Cond.eq (.field t C n d) (.int k)).value args s none s [] = some true) : Fld s s.heap a C n d (.int k) := by
  obtain ⟨x, y, e1, e2, k1, k2⟩ := cmp_v (Or.inl h)
  cases (Term.int_eval k).symm.trans e2
  obtain ⟨z, rfl⟩ := k2
  have e3 := e1
  rw [fld_at ht] at e3
  have q : (Jvm.Cond.eq (.field t C n d) (.int k)).value args s none s [] = some (decide (z = k)) := by simp [Cond.value, e1, Term.int_eval]
  rw [q] at h
  have hz : z = k := by simpa using h
  subst hz; exact Fld.start e3
theorem own_fldN {s : State} {args : Array Value} {t : Term} {C n d : String} {a : Addr} (ht : t.eval args s none [] s = some (.ref a)) (h : (Jvm.Cond.eq (.field t C n d) .null).value args s none s [] = some true) : Fld s s.heap a C n d .null :=
  Fld.start ((fld_at ht).symm.trans (null_v h))
theorem own_fldR {s : State} {args : Array Value} {t u : Term} {C n d : String} {a b : Addr} (ht : t.eval args s none [] s = some (.ref a)) (hu : u.eval args s none [] s = some (.ref b)) (h : (Jvm.Cond.eq (.field t C n d) u).value args s none s [] = some true) : Fld s s.heap a C n d (.ref b) := by
  obtain ⟨x, y, e1, e2, k1, k2⟩ := cmp_v (Or.inl h)
  cases hu.symm.trans e2
  have e3 := e1
  rw [fld_at ht] at e3
  have hx : x.isRef = true := k2.2
  have q := eq_R e1 hu hx rfl
  rw [q] at h
  have hz : x = .ref b := by simpa using h
  subst hz; exact Fld.start e3
theorem own_sel {Z : State} {a0 : Array Value} {y : MethodName} {n : Nat} (wi : (Jvm.Cond.instantiable y.cls n).before a0 Z = true) (wp : (Jvm.Cond.privateMethod y).before a0 Z = true) (wm : (Jvm.Cond.instanceMethod y).before a0 Z = true) (hy : y.cls ≠ "java/lang/invoke/MethodHandle" ∧ y.cls ≠ "java/lang/invoke/VarHandle") : (Jvm.Cond.selects y.cls y y).before a0 Z = true := by
  obtain ⟨c, k, h1, h2, -, h4, -⟩ := Cond.instantiable_spec wi
  simp only [Bool.or_eq_false_iff] at h4
  exact Stand.selects_self_of_private h1 h2 h4.1 (Cond.privateMethod_at wp) wm hy
def La (Z : State) (h : Heap) (b : Addr) (ty : FieldType) (n : Int32) (xs : List Int32) : Prop := ∃ kc, Arv Z h b kc ty n (xs.map Value.int) (.int 0) ∧ xs.length = n.toNatClampNeg
section OwnA
variable {Z : State} {h h' : Heap} {a b : Addr} {ty : FieldType} {n : Int32} {sl : Nat} {xs : List Int32} {v : Value} {ws : List Addr}
theorem La.lt (F : La Z h b ty n xs) : b < h.size := by obtain ⟨c, A, -⟩ := F; exact A.lt
theorem La.ext (F : La Z h b ty n xs) (E : Ext h h') : La Z h' b ty n xs := by obtain ⟨c, A, r⟩ := F; exact ⟨c, A.ext E, r⟩
theorem La.other (F : La Z h b ty n xs) (W : Wr h h' a sl v) (q : b ≠ a) : La Z h' b ty n xs := by obtain ⟨c, A, r⟩ := F; exact ⟨c, A.other W q, r⟩
theorem La.keep (F : La Z h b ty n xs) (K : Keep h h' ws) (q : b ∉ ws) : La Z h' b ty n xs := by obtain ⟨c, A, r⟩ := F; exact ⟨c, A.keep K q, r⟩
theorem La.zero {kc : ClassId} {z : Nat} (A : Arr Z h b (newA kc ty n) ty) (hn : ¬ n < 0) (hz : n.toNatClampNeg = z) (hd : defaultValue ty = .int 0) : La Z h b ty n (List.replicate z 0) := by
  refine ⟨kc, ?_, by rw [List.length_replicate, hz]⟩
  have q := Arv.new A hn
  rw [hd] at q
  have e : (List.replicate z (0 : Int32)).map Value.int = [] ++ List.replicate z (.int 0) := by simp
  rw [e]; exact q.pad (pad_rep [] _ z)
theorem La.at {j : Int32} (F : La Z h b ty n xs) (q : ¬ j < 0 ∧ j < n) : ∃ cl : Cell, Arr Z h b cl ty ∧ ¬ (j < 0 ∨ cl.slots.size ≤ j.toNatClampNeg) ∧ cl.slots[j.toNatClampNeg]? = some (.int (xs.getD j.toNatClampNeg 0)) := by
  obtain ⟨kc, ⟨cl, A, -, S, -, H, -⟩, hl⟩ := F
  refine ⟨cl, A, inb_of S q, H.at (inb_of S q) ?_⟩
  rw [List.getD_eq_getElem?_getD, List.getElem?_map, List.getD_eq_getElem?_getD]
  cases xs[j.toNatClampNeg]? <;> rfl
theorem La.up {j : Int32} (F : La Z h b ty n xs) (q : ¬ j < 0 ∧ j < n) : ∃ cl : Cell, Arr Z h b cl ty ∧ ¬ (j < 0 ∨ cl.slots.size ≤ j.toNatClampNeg) ∧ ∀ (x : Int32), fits ty (.int x) = true → ∀ h'', Wr h h'' b j.toNatClampNeg (.int x) → La Z h'' b ty n (xs.set j.toNatClampNeg x) := by
  obtain ⟨kc, ⟨cl, A, q1, S, q3, H, G⟩, hl⟩ := F
  have hin := inb_of S q
  refine ⟨cl, A, hin, fun x hx h'' W => ⟨kc, ?_, by rw [List.length_set]; exact hl⟩⟩
  rw [List.map_set]
  exact Arv.set A q1 S q3 H G hx W _ rfl (by rw [List.length_map, hl, ← S]; exact Nat.lt_of_not_le fun y => hin (Or.inr y))
end OwnA
section OwnG
variable {p : Program} {l : Launch} {e : Env} {R : Room} {s : State} {m : MethodId} {args : Array Value} {below : List Frame} {meth : Method} {c : Code} {T : State} {locs : List Loc} {cells slots : Nat} {Z : State} {h : Heap} {a0 : Array Value}
theorem getRef (X : Stand p l e R s m args below meth c T locs cells slots) (hx : p.tables.exec = Jvm.exec) (hZ : Z.Warmed39 s.vm) {own O n d : String} {index : Nat} (hown : s.vm.findClass own = some m.cls) (w : (Jvm.Cond.fieldRef own index O n d).before a0 Z = true)
    (eT : T.heap = h) {a : Addr} {v : Value} (F : Fld Z h a O n d v) {g : JFrame} (hg : g.method = m) {rest : List Value} (hs : g.stack = .ref a :: rest) (hd : decode c.code g.pc = .ok (.getfield index, 3)) :
    ∃ T', Stand p l e R s m args below meth c T' locs cells slots ∧ T'.heap = h ∧ ∀ target, Steps p.tables e below (T'.setTop { g with pc := g.pc + 3, stack := v :: rest }) target → Steps p.tables e below (T.setTop g) target := by
  obtain ⟨cell, cf, k, i, f, h1, h2, h3, h4, -, -, h7⟩ := F
  have w1 : (Jvm.Cond.fieldRef own index O n d).before a0 s = true := Cond.fieldRef_warmed39 hZ w
  have w2 : (Jvm.Cond.fieldRef own index O n d).before a0 (s.setVm T.vm) = true := Cond.fieldRef_warmed X.warmed w1
  have hcur : (s.setVm T.vm).vm.findClass own = some m.cls := by
    show T.vm.findClass own = _
    rw [X.warmed.alike.findClass]; exact hown
  obtain ⟨c2, k2, i2, f2, hf2, hready⟩ := Cond.fieldRef_spec hcur w2
  obtain ⟨k', hi, -⟩ := State.fieldFound?_setVm (s := Z) (hZ.alike.trans X.warmed.alike) h2
  cases (show (Z.setVm T.vm).fieldFound? O n d = some (c2, k2, i2, f2) from hf2).symm.trans hi
  refine ⟨T, X, eT, fun target hrest => ?_⟩
  subst hg
  jvm_step X.here [hx, hd, getfield.wp_ready (e := e) (s := T) (f := g) X.here.top hready h3 hs (show T.heap[a]? = some cell by rw [eT]; exact h1) h4 h7]
  exact hrest
end OwnG
theorem own_sI {s : State} {args : Array Value} {C n d : String} {k : Int32} (hi : (Jvm.Cond.initialized C).before args s = true ∧ (Jvm.Cond.laysStatic C n d).before args s = true) (h : (Jvm.Cond.eq (.static C n d) (.int k)).value args s none s [] = some true) : Sta s s.heap C n d (.int k) := by
  obtain ⟨x, y, e1, e2, k1, k2⟩ := cmp_v (Or.inl h)
  cases (Term.int_eval k).symm.trans e2
  obtain ⟨z, rfl⟩ := k2
  have q : (Jvm.Cond.eq (.static C n d) (.int k)).value args s none s [] = some (decide (z = k)) := by simp [Cond.value, e1, Term.int_eval]
  rw [q] at h
  have hz : z = k := by simpa using h
  subst hz; exact Sta.start e1 (Or.inr hi)
theorem own_elR {s : State} {args : Array Value} {t u : Term} {j : Int32} {a b : Addr} {cl : Cell} (ht : t.eval args s none [] s = some (.ref a)) (hu : u.eval args s none [] s = some (.ref b)) (hc : s.heap[a]? = some cl) (h : (Jvm.Cond.eq (.elem t (.int j)) u).value args s none s [] = some true) : ¬ (j < 0 ∨ cl.slots.size ≤ j.toNatClampNeg) ∧ cl.slots[j.toNatClampNeg]? = some (.ref b) := by
  obtain ⟨x, y, e1, e2, k1, k2⟩ := cmp_v (Or.inl h)
  cases hu.symm.trans e2
  have hx : x.isRef = true := k2.2
  have q := eq_R e1 hu hx rfl
  rw [q] at h
  have hz : x = .ref b := by simpa using h
  subst hz; exact elem_in e1 ht (Term.int_eval j) hc
def Nm (Z : State) (h : Heap) (b : Addr) : Prop := ∃ c : Cell, Arr Z h b c (.object "java/lang/String") ∧ c.slots.size = (16 : Int32).toNatClampNeg
def By (Z : State) (h : Heap) (b : Addr) (n : Int32) : Prop := ∃ (kc : ClassId) (vs : List Value), Arv Z h b kc .byte n vs (.int 0) ∧ vs.length = n.toNatClampNeg
section OwnB
variable {Z : State} {h h' : Heap} {a b : Addr} {n : Int32} {sl : Nat} {v : Value} {ws : List Addr}
theorem Nm.lt (F : Nm Z h b) : b < h.size := by obtain ⟨c, A, -⟩ := F; exact A.lt
theorem Nm.ext (F : Nm Z h b) (E : Ext h h') : Nm Z h' b := by obtain ⟨c, A, r⟩ := F; exact ⟨c, A.ext E, r⟩
theorem Nm.other (F : Nm Z h b) (W : Wr h h' a sl v) (q : b ≠ a) : Nm Z h' b := by obtain ⟨c, A, r⟩ := F; exact ⟨c, A.other W q, r⟩
theorem Nm.keep (F : Nm Z h b) (K : Keep h h' ws) (q : b ∉ ws) : Nm Z h' b := by obtain ⟨c, A, r⟩ := F; exact ⟨c, ⟨K.2.1 b c A.1 q, A.2⟩, r⟩
theorem Nm.new {kc : ClassId} (A : Arr Z h b (newA kc (.object "java/lang/String") 16) (.object "java/lang/String")) : Nm Z h b := ⟨_, A, sz_new _ _ _⟩
theorem Nm.set {c : Cell} (A : Arr Z h b c (.object "java/lang/String")) (S : c.slots.size = (16 : Int32).toNatClampNeg) (W : Wr h h' b sl v) : Nm Z h' b := ⟨_, A.same W, (sz_set _ _ _).trans S⟩
theorem By.lt (F : By Z h b n) : b < h.size := by obtain ⟨c, vs, A, -⟩ := F; exact A.lt
theorem By.ext (F : By Z h b n) (E : Ext h h') : By Z h' b n := by obtain ⟨c, vs, A, r⟩ := F; exact ⟨c, vs, A.ext E, r⟩
theorem By.other (F : By Z h b n) (W : Wr h h' a sl v) (q : b ≠ a) : By Z h' b n := by obtain ⟨c, vs, A, r⟩ := F; exact ⟨c, vs, A.other W q, r⟩
theorem By.keep (F : By Z h b n) (K : Keep h h' ws) (q : b ∉ ws) : By Z h' b n := by obtain ⟨c, vs, A, r⟩ := F; exact ⟨c, vs, A.keep K q, r⟩
theorem By.of {kc : ClassId} {vs : List Value} (F : Arv Z h b kc .byte n vs (.int 0)) (hl : vs.length = n.toNatClampNeg) : By Z h b n := ⟨_, _, F, hl⟩
theorem By.new {kc : ClassId} (A : Arr Z h b (newA kc .byte n) .byte) (hn : ¬ n < 0) : By Z h b n := by
  refine ⟨kc, List.replicate n.toNatClampNeg (.int 0), ?_, List.length_replicate⟩
  exact (Arv.new A hn).pad (pad_rep [] _ _)
theorem By.at (F : By Z h b n) : ∃ cl : Cell, Arr Z h b cl .byte ∧ cl.slots.size = n.toNatClampNeg ∧ ¬ n < 0 ∧ FitC Z cl ∧ ∀ h'', ∀ b', Arr Z h'' b' (cloneOf cl) .byte → By Z h'' b' n := by
  obtain ⟨kc, vs, ⟨cl, A, q1, S, q3, H, G⟩, hl⟩ := F
  exact ⟨cl, A, S, q3, fitC_of A fun i hi v hv => by rw [H i hi] at hv; cases hv; exact G i hi, fun h'' b' A' => ⟨kc, vs, ⟨cloneOf cl, A', q1, S, q3, H, G⟩, hl⟩⟩
theorem By.up {j : Int32} (F : By Z h b n) (q : ¬ j < 0 ∧ j < n) : ∃ cl : Cell, Arr Z h b cl .byte ∧ ¬ (j < 0 ∨ cl.slots.size ≤ j.toNatClampNeg) ∧ ∀ (x : Int32) h'', Wr h h'' b j.toNatClampNeg (.int (nar .byte x)) → By Z h'' b n := by
  obtain ⟨kc, vs, ⟨cl, A, q1, S, q3, H, G⟩, hl⟩ := F
  have hin := inb_of S q
  refine ⟨cl, A, hin, fun x h'' W => ⟨kc, _, Arv.set A q1 S q3 H G (fits_nar_byte _) W _ rfl (by rw [hl, ← S]; exact Nat.lt_of_not_le fun y => hin (Or.inr y)), by rw [List.length_set]; exact hl⟩⟩
end OwnB
section OwnC
variable {p : Program} {l : Launch} {e : Env} {R : Room} {s : State} {m : MethodId} {args : Array Value} {below : List Frame} {meth : Method} {c : Code} {T : State} {locs : List Loc} {cells slots : Nat} {Z : State} {h : Heap} {a0 : Array Value} {a b : Addr}
theorem cpB (X : Stand p l e R s m args below meth c T locs cells slots) (hx : p.tables.exec = Jvm.exec) (hZ : Z.Warmed39 s.vm) {own : String} {index : Nat} (hown : s.vm.findClass own = some m.cls)
    (w1 : (Jvm.Cond.methodLink own index Jvm.Stand.acN).before a0 Z = true) (w2 : (Jvm.Cond.native Jvm.Stand.acN).before a0 Z = true) (w3 : (Jvm.Cond.static Jvm.Stand.acN).before a0 Z = true) (w4 : (Jvm.Cond.initialized "java/lang/System").before a0 Z = true) (eT : T.heap = h)
    {z z' sp nn : Int32} (A : By Z h a z) (B : By Z h b z') (h1 : ¬ sp < 0) (h3 : ¬ nn < 0) (h4 : sp.toNatClampNeg + nn.toNatClampNeg ≤ z.toNatClampNeg) (h5 : nn.toNatClampNeg ≤ z'.toNatClampNeg) {n0 : Nat} (N : Fr n0 locs) (ge : n0 ≤ b)
    {g : JFrame} (hg : g.method = m) (hsize : g.locals.size = c.maxLocals) {rest : List Value} (hs : g.stack = .int nn :: .int 0 :: .ref b :: .int sp :: .ref a :: rest) (hd : decode c.code g.pc = .ok (.invokestatic index, 3))
    (hf : 1 ≤ R.frames) {W : Nat} (hW : 2 * g.monitorRoom + (rest.map fun v => v.category).sum ≤ W) (hlo : W + (nativeFrameWords "java/lang/System" "arraycopy" 5 + 11) ≤ R.locals) :
    ∃ T' h' L, Stand p l e R s m args below meth c T' L cells slots ∧ T'.heap = h' ∧ Fr n0 L ∧ Keep h h' [b] ∧ By Z h' b z' ∧
      ∀ target, Steps p.tables e below (T'.setTop { g with pc := g.pc + 3, stack := rest }) target → Steps p.tables e below (T.setTop g) target := by
  obtain ⟨kc, vs, A, la⟩ := A
  obtain ⟨kd, vd, B, lb⟩ := B
  have z0 : (0 : Int32).toNatClampNeg = 0 := rfl
  obtain ⟨T', h', L, X', e', N', K', V', st⟩ := cpA X hx hZ hown w1 w2 w3 w4 eT A B (Or.inl ⟨rfl, rfl⟩) h1 (by decide) h3 h4 (by rw [z0]; omega) rfl (by rw [z0]; omega) N ge hg hsize hs hd hf hW hlo
  refine ⟨T', h', L, X', e', N', K', ⟨kd, _, V', ?_⟩, st⟩
  simp only [z0, List.length_append, List.length_take, List.length_map, List.length_range, List.length_drop]
  omega
end OwnC
def Knd (Z : State) (aK ak : Addr) (j : Int32) : Prop := Exa Z Z.heap ak "com/example/keyfold/keyfold/JsonValue$Kind" ∧ Fld Z Z.heap ak "java/lang/Enum" "ordinal" "I" (.int j) ∧ ∃ cl : Cell, Arr Z Z.heap aK cl (.object "com/example/keyfold/keyfold/JsonValue$Kind") ∧ ¬ (j < 0 ∨ cl.slots.size ≤ j.toNatClampNeg) ∧ cl.slots[j.toNatClampNeg]? = some (.ref ak)
def OwnEnv (Z : State) (aK a_OBJECT a_ARRAY a_STRING a_NUMBER a_TRUE a_FALSE a_NULL : Addr) : Prop := Sta Z Z.heap "com/example/keyfold/keyfold/JsonValue" "KINDS" "[Lcom/example/keyfold/keyfold/JsonValue$Kind;" (.ref aK) ∧ Sta Z Z.heap "com/example/keyfold/keyfold/JsonValue" "$assertionsDisabled" "Z" (.int (1 : Int32)) ∧ Sta Z Z.heap "com/example/keyfold/keyfold/JsonValue$Kind" "OBJECT" "Lcom/example/keyfold/keyfold/JsonValue$Kind;" (.ref a_OBJECT) ∧ Knd Z aK a_OBJECT (0 : Int32) ∧ Sta Z Z.heap "com/example/keyfold/keyfold/JsonValue$Kind" "ARRAY" "Lcom/example/keyfold/keyfold/JsonValue$Kind;" (.ref a_ARRAY) ∧ Knd Z aK a_ARRAY (1 : Int32) ∧ Sta Z Z.heap "com/example/keyfold/keyfold/JsonValue$Kind" "STRING" "Lcom/example/keyfold/keyfold/JsonValue$Kind;" (.ref a_STRING) ∧ Knd Z aK a_STRING (2 : Int32) ∧ Sta Z Z.heap "com/example/keyfold/keyfold/JsonValue$Kind" "NUMBER" "Lcom/example/keyfold/keyfold/JsonValue$Kind;" (.ref a_NUMBER) ∧ Knd Z aK a_NUMBER (3 : Int32) ∧ Sta Z Z.heap "com/example/keyfold/keyfold/JsonValue$Kind" "TRUE" "Lcom/example/keyfold/keyfold/JsonValue$Kind;" (.ref a_TRUE) ∧ Knd Z aK a_TRUE (4 : Int32) ∧ Sta Z Z.heap "com/example/keyfold/keyfold/JsonValue$Kind" "FALSE" "Lcom/example/keyfold/keyfold/JsonValue$Kind;" (.ref a_FALSE) ∧ Knd Z aK a_FALSE (5 : Int32) ∧ Sta Z Z.heap "com/example/keyfold/keyfold/JsonValue$Kind" "NULL" "Lcom/example/keyfold/keyfold/JsonValue$Kind;" (.ref a_NULL) ∧ Knd Z aK a_NULL (6 : Int32)
theorem own_six {j : Int32} (h : ¬ j < 0 ∧ j < 7) (h0 : ¬ j = 0) (h1 : ¬ j = 1) (h2 : ¬ j = 2) (h3 : ¬ j = 3) (h4 : ¬ j = 4) (h5 : ¬ j = 5) : j = 6 := by
  have e : ∀ k : Int32, ¬ j = k → ¬ j.toInt = k.toInt := fun k q r => q (Int32.toInt_inj.mp r)
  have g0 := e _ h0; have g1 := e _ h1; have g2 := e _ h2; have g3 := e _ h3; have g4 := e _ h4; have g5 := e _ h5
  obtain ⟨a, b⟩ := h
  rw [Int32.lt_iff_toInt_lt] at a b
  have e0 : (0 : Int32).toInt = 0 := rfl
  have e1 : (1 : Int32).toInt = 1 := rfl
  have e2 : (2 : Int32).toInt = 2 := rfl
  have e3 : (3 : Int32).toInt = 3 := rfl
  have e4 : (4 : Int32).toInt = 4 := rfl
  have e5 : (5 : Int32).toInt = 5 := rfl
  have e6 : (6 : Int32).toInt = 6 := rfl
  have e7 : (7 : Int32).toInt = 7 := rfl
  apply Int32.toInt_inj.mp
  omega
def Tp (Z : State) (h : Heap) (a1 br bn : Addr) (src : Value) (cnt gen : Int32) (xs : List Int32) : Prop := Exa Z h a1 "com/example/keyfold/keyfold/JsonValue$Tape" ∧ Fld Z h a1 "com/example/keyfold/keyfold/JsonValue$Tape" "source" "[B" src ∧ Fld Z h a1 "com/example/keyfold/keyfold/JsonValue$Tape" "records" "[I" (.ref br) ∧ Fld Z h a1 "com/example/keyfold/keyfold/JsonValue$Tape" "names" "[Ljava/lang/String;" (.ref bn) ∧ Fld Z h a1 "com/example/keyfold/keyfold/JsonValue$Tape" "count" "I" (.int cnt) ∧ Fld Z h a1 "com/example/keyfold/keyfold/JsonValue$Tape" "generation" "I" (.int gen) ∧ La Z h br .int (64 : Int32) xs ∧ Nm Z h bn
def Rec (xs : List Int32) (r0 r1 r2 r3 : Int32) : Prop := (xs.getD ((0 : Int32)).toNatClampNeg 0) = r0 ∧ (xs.getD ((1 : Int32)).toNatClampNeg 0) = r1 ∧ (xs.getD ((2 : Int32)).toNatClampNeg 0) = r2 ∧ (xs.getD ((3 : Int32)).toNatClampNeg 0) = r3
theorem gd_hit {xs : List Int32} {i : Nat} {v : Int32} (h : i < xs.length) : (xs.set i v).getD i 0 = v := by simp [List.getD_eq_getElem?_getD, h]
theorem gd_miss {xs : List Int32} {i j : Nat} {v : Int32} (h : i ≠ j) : (xs.set i v).getD j 0 = xs.getD j 0 := by simp [List.getD_eq_getElem?_getD, h]
theorem own_end0 {xs : List Int32} {j s1 e1 cn : Int32} (hl : xs.length = 64) (h0 : xs.getD 0 0 = j) (h1 : xs.getD 1 0 = s1) : Rec ((xs.set 2 e1).set 3 cn) j s1 e1 cn := by
  refine ⟨?_, ?_, ?_, ?_⟩
  · show ((xs.set 2 e1).set 3 cn).getD 0 0 = j
    rw [gd_miss (by decide), gd_miss (by decide)]; exact h0
  · show ((xs.set 2 e1).set 3 cn).getD 1 0 = s1
    rw [gd_miss (by decide), gd_miss (by decide)]; exact h1
  · show ((xs.set 2 e1).set 3 cn).getD 2 0 = e1
    rw [gd_miss (by decide), gd_hit (by omega)]
  · show ((xs.set 2 e1).set 3 cn).getD 3 0 = cn
    rw [gd_hit (by rw [List.length_set]; omega)]
theorem own_end1 {xs : List Int32} {j s1 e1 cn : Int32} (hl : xs.length = 64) (h0 : xs.getD 0 0 = j) (h1 : xs.getD 1 0 = s1) : Rec (((xs.set 0 (xs.getD 0 0 ||| 8)).set 2 e1).set 3 cn) (j ||| 8) s1 e1 cn :=
  own_end0 (by rw [List.length_set]; exact hl) (by rw [gd_hit (by omega), h0]) (by rw [gd_miss (by decide)]; exact h1)
theorem own_add0 {j s1 : Int32} : (((List.replicate 64 (0 : Int32)).set 0 j).set 1 s1).getD 0 0 = j ∧ (((List.replicate 64 (0 : Int32)).set 0 j).set 1 s1).getD 1 0 = s1 := ⟨by rw [gd_miss (by decide), gd_hit (by simp)], gd_hit (by simp)⟩
theorem own_add1 {xs : List Int32} {j u v s1 : Int32} (h : xs.getD 0 0 = j ∧ xs.getD 1 0 = s1) : ((xs.set 4 u).set 5 v).getD 0 0 = j ∧ ((xs.set 4 u).set 5 v).getD 1 0 = s1 := ⟨by rw [gd_miss (by decide), gd_miss (by decide)]; exact h.1, by rw [gd_miss (by decide), gd_miss (by decide)]; exact h.2⟩
def Q_kof (Z : State) (aK : Addr) (j : Int32) (h0 : Heap) (n0 : Nat) (v : Option Value) (h : Heap) (L : List Loc) : Prop := ∃ ak : Addr, v = some (.ref ak) ∧ Fr n0 L ∧ h = h0 ∧ Knd Z aK ak j
theorem pn_0 : plainName "com/example/keyfold/keyfold/TapeEndPinLaw" = true := by first | (simp [plainName, overriddenIn]; done) | decide +kernel
theorem ef_0 (m : MethodId) (x0 : Int32) : entryFrame m #[(.int x0)] 1 = mkF m 0 #[.val (.int x0)] [] := by first | (simp [entryFrame, mkF, argsToLocals, Value.category]; done) | rfl
theorem dc0_0 : decode method_2_code 0 = .ok (.iload_n 0, 1) := by decide +kernel
theorem dc0_1 : decode method_2_code 1 = .ok (.ifCond .ne 7, 3) := by decide +kernel
theorem dc0_4 : decode method_2_code 4 = .ok (.getstatic 7, 3) := by decide +kernel
theorem dc0_7 : decode method_2_code 7 = .ok (.areturn, 1) := by decide +kernel
theorem dc0_8 : decode method_2_code 8 = .ok (.iload_n 0, 1) := by decide +kernel
theorem dc0_9 : decode method_2_code 9 = .ok (.iconst 1, 1) := by decide +kernel
theorem dc0_10 : decode method_2_code 10 = .ok (.if_icmp .ne 7, 3) := by decide +kernel
theorem dc0_13 : decode method_2_code 13 = .ok (.getstatic 13, 3) := by decide +kernel
theorem dc0_16 : decode method_2_code 16 = .ok (.areturn, 1) := by decide +kernel
theorem dc0_17 : decode method_2_code 17 = .ok (.iload_n 0, 1) := by decide +kernel
theorem dc0_18 : decode method_2_code 18 = .ok (.iconst 2, 1) := by decide +kernel
theorem dc0_19 : decode method_2_code 19 = .ok (.if_icmp .ne 7, 3) := by decide +kernel
theorem dc0_22 : decode method_2_code 22 = .ok (.getstatic 16, 3) := by decide +kernel
theorem dc0_25 : decode method_2_code 25 = .ok (.areturn, 1) := by decide +kernel
theorem dc0_26 : decode method_2_code 26 = .ok (.iload_n 0, 1) := by decide +kernel
theorem dc0_27 : decode method_2_code 27 = .ok (.iconst 3, 1) := by decide +kernel
theorem dc0_28 : decode method_2_code 28 = .ok (.if_icmp .ne 7, 3) := by decide +kernel
theorem dc0_31 : decode method_2_code 31 = .ok (.getstatic 19, 3) := by decide +kernel
theorem dc0_34 : decode method_2_code 34 = .ok (.areturn, 1) := by decide +kernel
theorem dc0_35 : decode method_2_code 35 = .ok (.iload_n 0, 1) := by decide +kernel
theorem dc0_36 : decode method_2_code 36 = .ok (.iconst 4, 1) := by decide +kernel
theorem dc0_37 : decode method_2_code 37 = .ok (.if_icmp .ne 7, 3) := by decide +kernel
theorem dc0_40 : decode method_2_code 40 = .ok (.getstatic 22, 3) := by decide +kernel
theorem dc0_43 : decode method_2_code 43 = .ok (.areturn, 1) := by decide +kernel
theorem dc0_44 : decode method_2_code 44 = .ok (.iload_n 0, 1) := by decide +kernel
theorem dc0_45 : decode method_2_code 45 = .ok (.iconst 5, 1) := by decide +kernel
theorem dc0_46 : decode method_2_code 46 = .ok (.if_icmp .ne 7, 3) := by decide +kernel
theorem dc0_49 : decode method_2_code 49 = .ok (.getstatic 25, 3) := by decide +kernel
theorem dc0_52 : decode method_2_code 52 = .ok (.areturn, 1) := by decide +kernel
theorem dc0_53 : decode method_2_code 53 = .ok (.getstatic 28, 3) := by decide +kernel
theorem dc0_56 : decode method_2_code 56 = .ok (.areturn, 1) := by decide +kernel
set_option maxRecDepth 65536 in
set_option maxHeartbeats 40000000 in
theorem rmKo (l : Launch) (Z : State) (a0 : Array Value) (hw : ∀ d ∈ tables_1, d.before a0 Z = true) (ws : List Jvm.Cond) (aK a_OBJECT a_ARRAY a_STRING a_NUMBER a_TRUE a_FALSE a_NULL : Addr) (j : Int32) (h0 : Heap) (n0 : Nat) (O0 : Old Z n0 h0) (En : OwnEnv Z aK a_OBJECT a_ARRAY a_STRING a_NUMBER a_TRUE a_FALSE a_NULL) (hj : ¬ j < 0 ∧ j < 7) :
    MetFree l (⟨"com/example/keyfold/keyfold/TapeEndPinLaw", "kindOf", "(I)Lcom/example/keyfold/keyfold/JsonValue$Kind;"⟩ : MethodName) (head1 (Jvm.Cond.code (⟨"com/example/keyfold/keyfold/TapeEndPinLaw", "kindOf", "(I)Lcom/example/keyfold/keyfold/JsonValue$Kind;"⟩ : MethodName) method_2_code 1 (some (.object "com/example/keyfold/keyfold/JsonValue$Kind")) :: ws) ({ frames := 0, cells := 0, slots := 0, locals := 0 } : Room)) (fun a U => a = #[(.int j)] ∧ Z.Warmed39 U.vm ∧ U.heap = h0) (fun _ _ _ _ _ => True) (fun _ U o U' => ∃ v L, o = .returned v ∧ Q_kof Z aK j h0 n0 v U'.heap L ∧ FrameEnd U o U' L ({ frames := 0, cells := 0, slots := 0, locals := 0 } : Room).cells ({ frames := 0, cells := 0, slots := 0, locals := 0 } : Room).slots) := by
  refine MetFree.of_bodySF (plainFor_of_name pn_0) hisR ?_
  intro p e s m args below meth c s₁ Bd hml0 hP hK
  obtain ⟨rfl, hZ, hh⟩ := hP
  have hx := Bd.exec
  have hby := Bd.bytes
  have hml : c.maxLocals = 1 := hml0
  have hown : s.vm.findClass "com/example/keyfold/keyfold/TapeEndPinLaw" = some m.cls := findClass_of_methodNamed Bd.named
  have hnm := (name_of_methodNamed Bd.named Bd.method).1
  have X0 : Stand p l e ({ frames := 0, cells := 0, slots := 0, locals := 0 } : Room) s m #[(.int j)] below meth c s₁ [] 0 0 := Stand.of_body Bd
  have e0 : s₁.heap = h0 := by rw [← hh, Bd.state]; rfl
  have N0 := Fr.nil n0
  have pre0 : ∀ t, Steps p.tables e below (s₁.setTop (mkF m 0 #[.val (.int j)] [])) t → Steps p.tables e below (s₁.setTop (entryFrame m #[(.int j)] 1)) t := fun t k => castTop (ef_0 m j) k
  obtain ⟨S_K, S_D, S_OBJECT, K_OBJECT, S_ARRAY, K_ARRAY, S_STRING, K_STRING, S_NUMBER, K_NUMBER, S_TRUE, K_TRUE, S_FALSE, K_FALSE, S_NULL, K_NULL⟩ := id En
  have pre101 : ∀ t, Steps p.tables e below (s₁.setTop (mkF m 1 #[.val (.int j)] [(.int j)])) t → Steps p.tables e below (s₁.setTop (entryFrame m #[(.int j)] 1)) t := fun t kt => pre0 t (by
      show Steps p.tables e below (s₁.setTop (mkF m 0 #[.val (.int j)] [])) _
      refine XS.iloadN X0.here hx rfl (hb hby dc0_0) rfl ?_
      exact kt)
  by_cases hc102 : j = (0 : Int32)
  · skip
    obtain ⟨T103, X103, e103, st103⟩ := getS2 X0 hx hZ hown (host := "") (Or.inl (hw _ (List.mem_of_getElem? (i := 159) rfl))) Via.refl e0 (Sta.ext O0.2 S_OBJECT) (g := (mkF m 4 #[.val (.int j)] [])) rfl (hb hby dc0_4)
    obtain ⟨fs, hr, hrun, hended, hW, hsame⟩ := X103.leave (v := some (.ref a_OBJECT)) (fun h => by rw [Bd.returns] at h; cases h)
    refine ⟨_, _, pre101 _ ?_, hrun, hended, _, _, rfl, ?_, ⟨_, rfl⟩, hW, hsame.mono (by decide) (by decide)⟩
    · skip
      show Steps p.tables e below (s₁.setTop (mkF m 1 #[.val (.int j)] [(.int j)])) _
      refine XS.ifNo X0.here hx rfl (hb hby dc0_1) rfl ((if0 _ _).trans (teq hc102).2) ?_
      show Steps p.tables e below (s₁.setTop (mkF m 4 #[.val (.int j)] [])) _
      refine st103 _ ?_
      show Steps p.tables e below (T103.setTop (mkF m 7 #[.val (.int j)] [(.ref a_OBJECT)])) _
      exact retOut X103 hx (t := (.object "com/example/keyfold/keyfold/JsonValue$Kind")) Bd.returns rfl (Or.inr (Or.inr (Or.inr (Or.inr ⟨rfl, rfl, rfl⟩)))) (hb hby dc0_7) hr
    · show Q_kof Z aK j h0 n0 _ T103.heap _
      rw [e103]
      exact ⟨_, rfl, N0, rfl, by rw [hc102]; exact K_OBJECT⟩
  · skip
    have pre104 : ∀ t, Steps p.tables e below (s₁.setTop (mkF m 10 #[.val (.int j)] [(.int (1 : Int32)), (.int j)])) t → Steps p.tables e below (s₁.setTop (entryFrame m #[(.int j)] 1)) t := fun t kt => pre101 t (by
        show Steps p.tables e below (s₁.setTop (mkF m 1 #[.val (.int j)] [(.int j)])) _
        refine XS.ifYes X0.here hx rfl (pc0 := 1) (pc' := 8) rfl (hb hby dc0_1) rfl ((if0 _ _).trans (feq hc102).2) (by decide) (by decide) ?_
        show Steps p.tables e below (s₁.setTop (mkF m 8 #[.val (.int j)] [])) _
        refine XS.iloadN X0.here hx rfl (hb hby dc0_8) rfl ?_
        show Steps p.tables e below (s₁.setTop (mkF m 9 #[.val (.int j)] [(.int j)])) _
        refine XS.iconst X0.here hx rfl (hb hby dc0_9) ?_
        exact kt)
    by_cases hc105 : j = (1 : Int32)
    · skip
      obtain ⟨T106, X106, e106, st106⟩ := getS2 X0 hx hZ hown (host := "") (Or.inl (hw _ (List.mem_of_getElem? (i := 5) rfl))) Via.refl e0 (Sta.ext O0.2 S_ARRAY) (g := (mkF m 13 #[.val (.int j)] [])) rfl (hb hby dc0_13)
      obtain ⟨fs, hr, hrun, hended, hW, hsame⟩ := X106.leave (v := some (.ref a_ARRAY)) (fun h => by rw [Bd.returns] at h; cases h)
      refine ⟨_, _, pre104 _ ?_, hrun, hended, _, _, rfl, ?_, ⟨_, rfl⟩, hW, hsame.mono (by decide) (by decide)⟩
      · skip
        show Steps p.tables e below (s₁.setTop (mkF m 10 #[.val (.int j)] [(.int (1 : Int32)), (.int j)])) _
        refine XS.icmpNo X0.here hx rfl (hb hby dc0_10) rfl (teq hc105).2 ?_
        show Steps p.tables e below (s₁.setTop (mkF m 13 #[.val (.int j)] [])) _
        refine st106 _ ?_
        show Steps p.tables e below (T106.setTop (mkF m 16 #[.val (.int j)] [(.ref a_ARRAY)])) _
        exact retOut X106 hx (t := (.object "com/example/keyfold/keyfold/JsonValue$Kind")) Bd.returns rfl (Or.inr (Or.inr (Or.inr (Or.inr ⟨rfl, rfl, rfl⟩)))) (hb hby dc0_16) hr
      · show Q_kof Z aK j h0 n0 _ T106.heap _
        rw [e106]
        exact ⟨_, rfl, N0, rfl, by rw [hc105]; exact K_ARRAY⟩
    · skip
      have pre107 : ∀ t, Steps p.tables e below (s₁.setTop (mkF m 19 #[.val (.int j)] [(.int (2 : Int32)), (.int j)])) t → Steps p.tables e below (s₁.setTop (entryFrame m #[(.int j)] 1)) t := fun t kt => pre104 t (by
          show Steps p.tables e below (s₁.setTop (mkF m 10 #[.val (.int j)] [(.int (1 : Int32)), (.int j)])) _
          refine XS.icmpYes X0.here hx rfl (pc0 := 10) (pc' := 17) rfl (hb hby dc0_10) rfl (feq hc105).2 (by decide) (by decide) ?_
          show Steps p.tables e below (s₁.setTop (mkF m 17 #[.val (.int j)] [])) _
          refine XS.iloadN X0.here hx rfl (hb hby dc0_17) rfl ?_
          show Steps p.tables e below (s₁.setTop (mkF m 18 #[.val (.int j)] [(.int j)])) _
          refine XS.iconst X0.here hx rfl (hb hby dc0_18) ?_
          exact kt)
      by_cases hc108 : j = (2 : Int32)
      · skip
        obtain ⟨T109, X109, e109, st109⟩ := getS2 X0 hx hZ hown (host := "") (Or.inl (hw _ (List.mem_of_getElem? (i := 139) rfl))) Via.refl e0 (Sta.ext O0.2 S_STRING) (g := (mkF m 22 #[.val (.int j)] [])) rfl (hb hby dc0_22)
        obtain ⟨fs, hr, hrun, hended, hW, hsame⟩ := X109.leave (v := some (.ref a_STRING)) (fun h => by rw [Bd.returns] at h; cases h)
        refine ⟨_, _, pre107 _ ?_, hrun, hended, _, _, rfl, ?_, ⟨_, rfl⟩, hW, hsame.mono (by decide) (by decide)⟩
        · skip
          show Steps p.tables e below (s₁.setTop (mkF m 19 #[.val (.int j)] [(.int (2 : Int32)), (.int j)])) _
          refine XS.icmpNo X0.here hx rfl (hb hby dc0_19) rfl (teq hc108).2 ?_
          show Steps p.tables e below (s₁.setTop (mkF m 22 #[.val (.int j)] [])) _
          refine st109 _ ?_
          show Steps p.tables e below (T109.setTop (mkF m 25 #[.val (.int j)] [(.ref a_STRING)])) _
          exact retOut X109 hx (t := (.object "com/example/keyfold/keyfold/JsonValue$Kind")) Bd.returns rfl (Or.inr (Or.inr (Or.inr (Or.inr ⟨rfl, rfl, rfl⟩)))) (hb hby dc0_25) hr
        · show Q_kof Z aK j h0 n0 _ T109.heap _
          rw [e109]
          exact ⟨_, rfl, N0, rfl, by rw [hc108]; exact K_STRING⟩
      · skip
        have pre110 : ∀ t, Steps p.tables e below (s₁.setTop (mkF m 28 #[.val (.int j)] [(.int (3 : Int32)), (.int j)])) t → Steps p.tables e below (s₁.setTop (entryFrame m #[(.int j)] 1)) t := fun t kt => pre107 t (by
            show Steps p.tables e below (s₁.setTop (mkF m 19 #[.val (.int j)] [(.int (2 : Int32)), (.int j)])) _
            refine XS.icmpYes X0.here hx rfl (pc0 := 19) (pc' := 26) rfl (hb hby dc0_19) rfl (feq hc108).2 (by decide) (by decide) ?_
            show Steps p.tables e below (s₁.setTop (mkF m 26 #[.val (.int j)] [])) _
            refine XS.iloadN X0.here hx rfl (hb hby dc0_26) rfl ?_
            show Steps p.tables e below (s₁.setTop (mkF m 27 #[.val (.int j)] [(.int j)])) _
            refine XS.iconst X0.here hx rfl (hb hby dc0_27) ?_
            exact kt)
        by_cases hc111 : j = (3 : Int32)
        · skip
          obtain ⟨T112, X112, e112, st112⟩ := getS2 X0 hx hZ hown (host := "") (Or.inl (hw _ (List.mem_of_getElem? (i := 137) rfl))) Via.refl e0 (Sta.ext O0.2 S_NUMBER) (g := (mkF m 31 #[.val (.int j)] [])) rfl (hb hby dc0_31)
          obtain ⟨fs, hr, hrun, hended, hW, hsame⟩ := X112.leave (v := some (.ref a_NUMBER)) (fun h => by rw [Bd.returns] at h; cases h)
          refine ⟨_, _, pre110 _ ?_, hrun, hended, _, _, rfl, ?_, ⟨_, rfl⟩, hW, hsame.mono (by decide) (by decide)⟩
          · skip
            show Steps p.tables e below (s₁.setTop (mkF m 28 #[.val (.int j)] [(.int (3 : Int32)), (.int j)])) _
            refine XS.icmpNo X0.here hx rfl (hb hby dc0_28) rfl (teq hc111).2 ?_
            show Steps p.tables e below (s₁.setTop (mkF m 31 #[.val (.int j)] [])) _
            refine st112 _ ?_
            show Steps p.tables e below (T112.setTop (mkF m 34 #[.val (.int j)] [(.ref a_NUMBER)])) _
            exact retOut X112 hx (t := (.object "com/example/keyfold/keyfold/JsonValue$Kind")) Bd.returns rfl (Or.inr (Or.inr (Or.inr (Or.inr ⟨rfl, rfl, rfl⟩)))) (hb hby dc0_34) hr
          · show Q_kof Z aK j h0 n0 _ T112.heap _
            rw [e112]
            exact ⟨_, rfl, N0, rfl, by rw [hc111]; exact K_NUMBER⟩
        · skip
          have pre113 : ∀ t, Steps p.tables e below (s₁.setTop (mkF m 37 #[.val (.int j)] [(.int (4 : Int32)), (.int j)])) t → Steps p.tables e below (s₁.setTop (entryFrame m #[(.int j)] 1)) t := fun t kt => pre110 t (by
              show Steps p.tables e below (s₁.setTop (mkF m 28 #[.val (.int j)] [(.int (3 : Int32)), (.int j)])) _
              refine XS.icmpYes X0.here hx rfl (pc0 := 28) (pc' := 35) rfl (hb hby dc0_28) rfl (feq hc111).2 (by decide) (by decide) ?_
              show Steps p.tables e below (s₁.setTop (mkF m 35 #[.val (.int j)] [])) _
              refine XS.iloadN X0.here hx rfl (hb hby dc0_35) rfl ?_
              show Steps p.tables e below (s₁.setTop (mkF m 36 #[.val (.int j)] [(.int j)])) _
              refine XS.iconst X0.here hx rfl (hb hby dc0_36) ?_
              exact kt)
          by_cases hc114 : j = (4 : Int32)
          · skip
            obtain ⟨T115, X115, e115, st115⟩ := getS2 X0 hx hZ hown (host := "") (Or.inl (hw _ (List.mem_of_getElem? (i := 157) rfl))) Via.refl e0 (Sta.ext O0.2 S_TRUE) (g := (mkF m 40 #[.val (.int j)] [])) rfl (hb hby dc0_40)
            obtain ⟨fs, hr, hrun, hended, hW, hsame⟩ := X115.leave (v := some (.ref a_TRUE)) (fun h => by rw [Bd.returns] at h; cases h)
            refine ⟨_, _, pre113 _ ?_, hrun, hended, _, _, rfl, ?_, ⟨_, rfl⟩, hW, hsame.mono (by decide) (by decide)⟩
            · skip
              show Steps p.tables e below (s₁.setTop (mkF m 37 #[.val (.int j)] [(.int (4 : Int32)), (.int j)])) _
              refine XS.icmpNo X0.here hx rfl (hb hby dc0_37) rfl (teq hc114).2 ?_
              show Steps p.tables e below (s₁.setTop (mkF m 40 #[.val (.int j)] [])) _
              refine st115 _ ?_
              show Steps p.tables e below (T115.setTop (mkF m 43 #[.val (.int j)] [(.ref a_TRUE)])) _
              exact retOut X115 hx (t := (.object "com/example/keyfold/keyfold/JsonValue$Kind")) Bd.returns rfl (Or.inr (Or.inr (Or.inr (Or.inr ⟨rfl, rfl, rfl⟩)))) (hb hby dc0_43) hr
            · show Q_kof Z aK j h0 n0 _ T115.heap _
              rw [e115]
              exact ⟨_, rfl, N0, rfl, by rw [hc114]; exact K_TRUE⟩
          · skip
            have pre116 : ∀ t, Steps p.tables e below (s₁.setTop (mkF m 46 #[.val (.int j)] [(.int (5 : Int32)), (.int j)])) t → Steps p.tables e below (s₁.setTop (entryFrame m #[(.int j)] 1)) t := fun t kt => pre113 t (by
                show Steps p.tables e below (s₁.setTop (mkF m 37 #[.val (.int j)] [(.int (4 : Int32)), (.int j)])) _
                refine XS.icmpYes X0.here hx rfl (pc0 := 37) (pc' := 44) rfl (hb hby dc0_37) rfl (feq hc114).2 (by decide) (by decide) ?_
                show Steps p.tables e below (s₁.setTop (mkF m 44 #[.val (.int j)] [])) _
                refine XS.iloadN X0.here hx rfl (hb hby dc0_44) rfl ?_
                show Steps p.tables e below (s₁.setTop (mkF m 45 #[.val (.int j)] [(.int j)])) _
                refine XS.iconst X0.here hx rfl (hb hby dc0_45) ?_
                exact kt)
            by_cases hc117 : j = (5 : Int32)
            · skip
              obtain ⟨T118, X118, e118, st118⟩ := getS2 X0 hx hZ hown (host := "") (Or.inl (hw _ (List.mem_of_getElem? (i := 161) rfl))) Via.refl e0 (Sta.ext O0.2 S_FALSE) (g := (mkF m 49 #[.val (.int j)] [])) rfl (hb hby dc0_49)
              obtain ⟨fs, hr, hrun, hended, hW, hsame⟩ := X118.leave (v := some (.ref a_FALSE)) (fun h => by rw [Bd.returns] at h; cases h)
              refine ⟨_, _, pre116 _ ?_, hrun, hended, _, _, rfl, ?_, ⟨_, rfl⟩, hW, hsame.mono (by decide) (by decide)⟩
              · skip
                show Steps p.tables e below (s₁.setTop (mkF m 46 #[.val (.int j)] [(.int (5 : Int32)), (.int j)])) _
                refine XS.icmpNo X0.here hx rfl (hb hby dc0_46) rfl (teq hc117).2 ?_
                show Steps p.tables e below (s₁.setTop (mkF m 49 #[.val (.int j)] [])) _
                refine st118 _ ?_
                show Steps p.tables e below (T118.setTop (mkF m 52 #[.val (.int j)] [(.ref a_FALSE)])) _
                exact retOut X118 hx (t := (.object "com/example/keyfold/keyfold/JsonValue$Kind")) Bd.returns rfl (Or.inr (Or.inr (Or.inr (Or.inr ⟨rfl, rfl, rfl⟩)))) (hb hby dc0_52) hr
              · show Q_kof Z aK j h0 n0 _ T118.heap _
                rw [e118]
                exact ⟨_, rfl, N0, rfl, by rw [hc117]; exact K_FALSE⟩
            · skip
              obtain ⟨T119, X119, e119, st119⟩ := getS2 X0 hx hZ hown (host := "") (Or.inl (hw _ (List.mem_of_getElem? (i := 163) rfl))) Via.refl e0 (Sta.ext O0.2 S_NULL) (g := (mkF m 53 #[.val (.int j)] [])) rfl (hb hby dc0_53)
              obtain ⟨fs, hr, hrun, hended, hW, hsame⟩ := X119.leave (v := some (.ref a_NULL)) (fun h => by rw [Bd.returns] at h; cases h)
              refine ⟨_, _, pre116 _ ?_, hrun, hended, _, _, rfl, ?_, ⟨_, rfl⟩, hW, hsame.mono (by decide) (by decide)⟩
              · skip
                show Steps p.tables e below (s₁.setTop (mkF m 46 #[.val (.int j)] [(.int (5 : Int32)), (.int j)])) _
                refine XS.icmpYes X0.here hx rfl (pc0 := 46) (pc' := 53) rfl (hb hby dc0_46) rfl (feq hc117).2 (by decide) (by decide) ?_
                show Steps p.tables e below (s₁.setTop (mkF m 53 #[.val (.int j)] [])) _
                refine st119 _ ?_
                show Steps p.tables e below (T119.setTop (mkF m 56 #[.val (.int j)] [(.ref a_NULL)])) _
                exact retOut X119 hx (t := (.object "com/example/keyfold/keyfold/JsonValue$Kind")) Bd.returns rfl (Or.inr (Or.inr (Or.inr (Or.inr ⟨rfl, rfl, rfl⟩)))) (hb hby dc0_56) hr
              · show Q_kof Z aK j h0 n0 _ T119.heap _
                rw [e119]
                exact ⟨_, rfl, N0, rfl, by rw [own_six hj hc102 hc105 hc108 hc111 hc114 hc117]; exact K_NULL⟩
def Q_ti (Z : State) (a1 : Addr) (h0 : Heap) (n0 : Nat) (v : Option Value) (h : Heap) (L : List Loc) : Prop := v = none ∧ Fr n0 L ∧ Keep h0 h [a1] ∧ ∃ br bn : Addr, n0 ≤ br ∧ n0 ≤ bn ∧ h0.size ≤ br ∧ h0.size ≤ bn ∧ a1 ≠ br ∧ a1 ≠ bn ∧ br ≠ bn ∧ Tp Z h a1 br bn .null 0 0 (List.replicate 64 0)
theorem pn_1 : plainName "com/example/keyfold/keyfold/JsonValue$Tape" = true := by first | (simp [plainName, overriddenIn]; done) | decide +kernel
theorem ef_1 (m : MethodId) (x0 : Addr) : entryFrame m #[(.ref x0)] 1 = mkF m 0 #[.val (.ref x0)] [] := by first | (simp [entryFrame, mkF, argsToLocals, Value.category]; done) | rfl
theorem dc1_0 : decode prog_50_method_1_code 0 = .ok (.aload_n 0, 1) := by decide +kernel
theorem dc1_1 : decode prog_50_method_1_code 1 = .ok (.invokespecial 1, 3) := by decide +kernel
theorem dc1_4 : decode prog_50_method_1_code 4 = .ok (.aload_n 0, 1) := by decide +kernel
theorem dc1_5 : decode prog_50_method_1_code 5 = .ok (.bipush 64, 2) := by decide +kernel
theorem dc1_7 : decode prog_50_method_1_code 7 = .ok (.newarray .int, 2) := by decide +kernel
theorem dc1_9 : decode prog_50_method_1_code 9 = .ok (.putfield 9, 3) := by decide +kernel
theorem dc1_12 : decode prog_50_method_1_code 12 = .ok (.aload_n 0, 1) := by decide +kernel
theorem dc1_13 : decode prog_50_method_1_code 13 = .ok (.bipush 16, 2) := by decide +kernel
theorem dc1_15 : decode prog_50_method_1_code 15 = .ok (.anewarray 13, 3) := by decide +kernel
theorem dc1_18 : decode prog_50_method_1_code 18 = .ok (.putfield 15, 3) := by decide +kernel
theorem dc1_21 : decode prog_50_method_1_code 21 = .ok (.return_, 1) := by decide +kernel
set_option maxRecDepth 65536 in
set_option maxHeartbeats 40000000 in
theorem rmTi (l : Launch) (Z : State) (a0 : Array Value) (hw : ∀ d ∈ tables_1, d.before a0 Z = true) (ws : List Jvm.Cond) (a1 : Addr) (h0 : Heap) (n0 : Nat) (O0 : Old Z n0 h0) (E1 : Exa Z h0 a1 "com/example/keyfold/keyfold/JsonValue$Tape") (F_source : Fld Z h0 a1 "com/example/keyfold/keyfold/JsonValue$Tape" "source" "[B" .null) (F_records : Fld Z h0 a1 "com/example/keyfold/keyfold/JsonValue$Tape" "records" "[I" .null) (F_names : Fld Z h0 a1 "com/example/keyfold/keyfold/JsonValue$Tape" "names" "[Ljava/lang/String;" .null) (F_count : Fld Z h0 a1 "com/example/keyfold/keyfold/JsonValue$Tape" "count" "I" (.int (0 : Int32))) (F_generation : Fld Z h0 a1 "com/example/keyfold/keyfold/JsonValue$Tape" "generation" "I" (.int (0 : Int32))) (g1 : n0 ≤ a1) :
    MetFree l (⟨"com/example/keyfold/keyfold/JsonValue$Tape", "<init>", "()V"⟩ : MethodName) (head1 (Jvm.Cond.code (⟨"com/example/keyfold/keyfold/JsonValue$Tape", "<init>", "()V"⟩ : MethodName) prog_50_method_1_code 1 none :: ws) ({ frames := 1, cells := 2, slots := 80, locals := 12 } : Room)) (fun a U => a = #[(.ref a1)] ∧ Z.Warmed39 U.vm ∧ U.heap = h0) (fun _ _ _ _ _ => True) (fun _ U o U' => ∃ v L, o = .returned v ∧ Q_ti Z a1 h0 n0 v U'.heap L ∧ FrameEnd U o U' L ({ frames := 1, cells := 2, slots := 80, locals := 12 } : Room).cells ({ frames := 1, cells := 2, slots := 80, locals := 12 } : Room).slots) := by
  refine MetFree.of_bodySF (plainFor_of_name pn_1) hisR ?_
  intro p e s m args below meth c s₁ Bd hml0 hP hK
  obtain ⟨rfl, hZ, hh⟩ := hP
  have hx := Bd.exec
  have hby := Bd.bytes
  have hml : c.maxLocals = 1 := hml0
  have hown : s.vm.findClass "com/example/keyfold/keyfold/JsonValue$Tape" = some m.cls := findClass_of_methodNamed Bd.named
  have hnm := (name_of_methodNamed Bd.named Bd.method).1
  have X0 : Stand p l e ({ frames := 1, cells := 2, slots := 80, locals := 12 } : Room) s m #[(.ref a1)] below meth c s₁ [] 0 0 := Stand.of_body Bd
  have e0 : s₁.heap = h0 := by rw [← hh, Bd.state]; rfl
  have N0 := Fr.nil n0
  have pre0 : ∀ t, Steps p.tables e below (s₁.setTop (mkF m 0 #[.val (.ref a1)] [])) t → Steps p.tables e below (s₁.setTop (entryFrame m #[(.ref a1)] 1)) t := fun t k => castTop (ef_1 m a1) k
  obtain ⟨T101, X101, e101, st101⟩ := initO X0 hx hZ hown (hw _ (List.mem_of_getElem? (i := 15) rfl)) (hw _ (List.mem_of_getElem? (i := 16) rfl)) (hw _ (List.mem_of_getElem? (i := 17) rfl)) e0 (g := (mkF m 1 #[.val (.ref a1)] [(.ref a1)])) rfl (by rw [hml]; rfl) rfl (hb hby dc1_1) (by decide) (W := 0) (by show 2 * 0 + _ ≤ _; exact Nat.le_of_eq rfl) (by decide)
  obtain ⟨T102, h102, k102, X102, e102, E102, A102, st102⟩ := newP X101 hx hZ (hw _ (List.mem_of_getElem? (i := 18) rfl)) e101 (g := (mkF m 7 #[.val (.ref a1)] [(.int (64 : Int32)), (.ref a1)])) rfl (hb hby dc1_7) rfl (by decide) (cap := 64) (by decide) (by decide) (by decide) (by decide)
  obtain ⟨b102, g102⟩ : ∃ z, z = h0.size := ⟨_, rfl⟩
  rw [← g102] at A102 st102
  have gb102 : n0 ≤ b102 := by rw [g102, ← O0.1]; exact O0.2.1
  have ne102_a1 : a1 ≠ b102 := by rw [g102]; exact Nat.ne_of_lt (E1).lt
  have sz102 : h0.size ≤ b102 := by rw [g102]; exact ((Keep.refl h0 [a1])).1
  have V102 : La Z h102 b102 .int (64 : Int32) (List.replicate 64 0) := La.zero A102 (by decide) (by decide) rfl
  have f103 := (E1.ext E102)
  have f104 := (F_records.ext E102)
  obtain ⟨T105, h105, X105, e105, W105, st105⟩ := putF X102 hx hZ hown (host := "") (Or.inl (hw _ (List.mem_of_getElem? (i := 19) rfl))) Via.refl e102 f104 f103 (Or.inl (hw _ (List.mem_of_getElem? (i := 20) rfl))) (hw _ (List.mem_of_getElem? (i := 10) rfl)) (ty := (.array .int)) (by decide) rfl rfl (g := (mkF m 9 #[.val (.ref a1)] [(.ref b102), (.ref a1)])) rfl rfl (hb hby dc1_9)
  have Fw105 : Fld Z h105 a1 "com/example/keyfold/keyfold/JsonValue$Tape" "records" "[I" (.ref b102) := Fld.same W105 f104
  have N105 := Fr.snoc X105 N0 g1
  have O106 : Old Z n0 h105 := ((O0.ext E102).wr W105 g1)
  obtain ⟨T107, h107, k107, X107, e107, E107, A107, -, st107⟩ := newR X105 hx hZ hown (hw _ (List.mem_of_getElem? (i := 21) rfl)) (hw _ (List.mem_of_getElem? (i := 22) rfl)) e105 (g := (mkF m 15 #[.val (.ref a1)] [(.int (16 : Int32)), (.ref a1)])) rfl (hb hby dc1_15) rfl (by decide) (cap := 16) (by decide) (by decide) (by decide) (by decide)
  obtain ⟨b107, g107⟩ : ∃ z, z = h105.size := ⟨_, rfl⟩
  rw [← g107] at A107 st107
  have gb107 : n0 ≤ b107 := by rw [g107, ← O106.1]; exact O106.2.1
  have f108 := (f103.wr W105)
  have ne107_a1 : a1 ≠ b107 := by rw [g107]; exact Nat.ne_of_lt (f108).lt
  have f109 := (V102.other W105 (Ne.symm ne102_a1))
  have ne107_b102 : b102 ≠ b107 := by rw [g107]; exact Nat.ne_of_lt (f109).lt
  have K110 : Keep h0 h105 [a1] := (Keep.wr (Keep.ext (Keep.refl h0 [a1]) E102) W105 (Or.inl (List.mem_of_getElem? (i := 0) rfl)))
  have sz107 : h0.size ≤ b107 := by rw [g107]; exact (K110).1
  have V107 : Nm Z h107 b107 := Nm.new A107
  have f111 := (f108.ext E107)
  have f112 := (((F_names.ext E102).other W105 (Or.inr (slot_ne (Or.inl (hw _ (List.mem_of_getElem? (i := 24) rfl))) (Or.inl (hw _ (List.mem_of_getElem? (i := 20) rfl))) (by decide) (t := (.array (.object "java/lang/String"))) (t' := (.array .int)) (by decide) (by decide)))).ext E107)
  obtain ⟨T113, h113, X113, e113, W113, st113⟩ := putF X107 hx hZ hown (host := "") (Or.inl (hw _ (List.mem_of_getElem? (i := 23) rfl))) Via.refl e107 f112 f111 (Or.inl (hw _ (List.mem_of_getElem? (i := 24) rfl))) (hw _ (List.mem_of_getElem? (i := 10) rfl)) (ty := (.array (.object "java/lang/String"))) (by decide) rfl rfl (g := (mkF m 18 #[.val (.ref a1)] [(.ref b107), (.ref a1)])) rfl rfl (hb hby dc1_18)
  have Fw113 : Fld Z h113 a1 "com/example/keyfold/keyfold/JsonValue$Tape" "names" "[Ljava/lang/String;" (.ref b107) := Fld.same W113 f112
  have N113 := Fr.snoc X113 N105 g1
  obtain ⟨fs, hr, hrun, hended, hW, hsame⟩ := X113.leave (v := none) (fun _ => rfl)
  have K114 : Keep h0 h113 [a1] := (Keep.wr (Keep.ext K110 E107) W113 (Or.inl (List.mem_of_getElem? (i := 0) rfl)))
  have f115 := (f111.wr W113)
  have f116 := ((((F_source.ext E102).other W105 (Or.inr (slot_ne (Or.inl (hw _ (List.mem_of_getElem? (i := 31) rfl))) (Or.inl (hw _ (List.mem_of_getElem? (i := 20) rfl))) (by decide) (t := (.array .byte)) (t' := (.array .int)) (by decide) (by decide)))).ext E107).other W113 (Or.inr (slot_ne (Or.inl (hw _ (List.mem_of_getElem? (i := 31) rfl))) (Or.inl (hw _ (List.mem_of_getElem? (i := 24) rfl))) (by decide) (t := (.array .byte)) (t' := (.array (.object "java/lang/String"))) (by decide) (by decide))))
  have f117 := ((Fw105.ext E107).other W113 (Or.inr (slot_ne (Or.inl (hw _ (List.mem_of_getElem? (i := 20) rfl))) (Or.inl (hw _ (List.mem_of_getElem? (i := 24) rfl))) (by decide) (t := (.array .int)) (t' := (.array (.object "java/lang/String"))) (by decide) (by decide))))
  have f118 := ((((F_count.ext E102).other W105 (Or.inr (slot_ne (Or.inl (hw _ (List.mem_of_getElem? (i := 33) rfl))) (Or.inl (hw _ (List.mem_of_getElem? (i := 20) rfl))) (by decide) (t := .int) (t' := (.array .int)) (by decide) (by decide)))).ext E107).other W113 (Or.inr (slot_ne (Or.inl (hw _ (List.mem_of_getElem? (i := 33) rfl))) (Or.inl (hw _ (List.mem_of_getElem? (i := 24) rfl))) (by decide) (t := .int) (t' := (.array (.object "java/lang/String"))) (by decide) (by decide))))
  have f119 := ((((F_generation.ext E102).other W105 (Or.inr (slot_ne (Or.inl (hw _ (List.mem_of_getElem? (i := 35) rfl))) (Or.inl (hw _ (List.mem_of_getElem? (i := 20) rfl))) (by decide) (t := .int) (t' := (.array .int)) (by decide) (by decide)))).ext E107).other W113 (Or.inr (slot_ne (Or.inl (hw _ (List.mem_of_getElem? (i := 35) rfl))) (Or.inl (hw _ (List.mem_of_getElem? (i := 24) rfl))) (by decide) (t := .int) (t' := (.array (.object "java/lang/String"))) (by decide) (by decide))))
  have f120 := ((f109.ext E107).other W113 (Ne.symm ne102_a1))
  have f121 := (V107.other W113 (Ne.symm ne107_a1))
  refine ⟨_, _, pre0 _ ?_, hrun, hended, _, _, rfl, ?_, ⟨_, rfl⟩, hW, hsame.mono (by decide) (by decide)⟩
  · skip
    show Steps p.tables e below (s₁.setTop (mkF m 0 #[.val (.ref a1)] [])) _
    refine XS.aloadN X0.here hx rfl (hb hby dc1_0) rfl rfl ?_
    show Steps p.tables e below (s₁.setTop (mkF m 1 #[.val (.ref a1)] [(.ref a1)])) _
    refine st101 _ ?_
    show Steps p.tables e below (T101.setTop (mkF m 4 #[.val (.ref a1)] [])) _
    refine XS.aloadN X101.here hx rfl (hb hby dc1_4) rfl rfl ?_
    show Steps p.tables e below (T101.setTop (mkF m 5 #[.val (.ref a1)] [(.ref a1)])) _
    refine XS.bipush X101.here hx rfl (hb hby dc1_5) ?_
    show Steps p.tables e below (T101.setTop (mkF m 7 #[.val (.ref a1)] [(.int (64 : Int32)), (.ref a1)])) _
    refine st102 _ ?_
    show Steps p.tables e below (T102.setTop (mkF m 9 #[.val (.ref a1)] [(.ref b102), (.ref a1)])) _
    refine st105 _ ?_
    show Steps p.tables e below (T105.setTop (mkF m 12 #[.val (.ref a1)] [])) _
    refine XS.aloadN X105.here hx rfl (hb hby dc1_12) rfl rfl ?_
    show Steps p.tables e below (T105.setTop (mkF m 13 #[.val (.ref a1)] [(.ref a1)])) _
    refine XS.bipush X105.here hx rfl (hb hby dc1_13) ?_
    show Steps p.tables e below (T105.setTop (mkF m 15 #[.val (.ref a1)] [(.int (16 : Int32)), (.ref a1)])) _
    refine st107 _ ?_
    show Steps p.tables e below (T107.setTop (mkF m 18 #[.val (.ref a1)] [(.ref b107), (.ref a1)])) _
    refine st113 _ ?_
    show Steps p.tables e below (T113.setTop (mkF m 21 #[.val (.ref a1)] [])) _
    exact X113.returnOut hx Bd.returns (hb hby dc1_21) hr
  · show Q_ti Z a1 h0 n0 _ T113.heap _
    rw [e113]
    exact ⟨rfl, N113, K114, b102, b107, gb102, gb107, sz102, sz107, ne102_a1, ne107_a1, ne107_b102, ⟨f115, f116, f117, Fw113, f118, f119, f120, f121⟩⟩
def Q_rs (Z : State) (a1 br bn c1 : Addr) (xs : List Int32) (h0 : Heap) (n0 : Nat) (v : Option Value) (h : Heap) (L : List Loc) : Prop := v = none ∧ Fr n0 L ∧ Keep h0 h [a1] ∧ Tp Z h a1 br bn (.ref c1) 0 1 xs
theorem ef_2 (m : MethodId) (x0 : Addr) (x1 : Addr) : entryFrame m #[(.ref x0), (.ref x1)] 2 = mkF m 0 #[.val (.ref x0), .val (.ref x1)] [] := by first | (simp [entryFrame, mkF, argsToLocals, Value.category]; done) | rfl
theorem dc2_0 : decode prog_50_method_2_code 0 = .ok (.aload_n 0, 1) := by decide +kernel
theorem dc2_1 : decode prog_50_method_2_code 1 = .ok (.aload_n 1, 1) := by decide +kernel
theorem dc2_2 : decode prog_50_method_2_code 2 = .ok (.putfield 19, 3) := by decide +kernel
theorem dc2_5 : decode prog_50_method_2_code 5 = .ok (.aload_n 0, 1) := by decide +kernel
theorem dc2_6 : decode prog_50_method_2_code 6 = .ok (.iconst 0, 1) := by decide +kernel
theorem dc2_7 : decode prog_50_method_2_code 7 = .ok (.putfield 23, 3) := by decide +kernel
theorem dc2_10 : decode prog_50_method_2_code 10 = .ok (.aload_n 0, 1) := by decide +kernel
theorem dc2_11 : decode prog_50_method_2_code 11 = .ok (.dup, 1) := by decide +kernel
theorem dc2_12 : decode prog_50_method_2_code 12 = .ok (.getfield 27, 3) := by decide +kernel
theorem dc2_15 : decode prog_50_method_2_code 15 = .ok (.iconst 1, 1) := by decide +kernel
theorem dc2_16 : decode prog_50_method_2_code 16 = .ok (.iadd, 1) := by decide +kernel
theorem dc2_17 : decode prog_50_method_2_code 17 = .ok (.putfield 27, 3) := by decide +kernel
theorem dc2_20 : decode prog_50_method_2_code 20 = .ok (.return_, 1) := by decide +kernel
set_option maxRecDepth 65536 in
set_option maxHeartbeats 40000000 in
theorem rmRs (l : Launch) (Z : State) (a0 : Array Value) (hw : ∀ d ∈ tables_1, d.before a0 Z = true) (ws : List Jvm.Cond) (a1 br bn c1 : Addr) (xs : List Int32) (h0 : Heap) (n0 : Nat) (O0 : Old Z n0 h0) (tp0 : Tp Z h0 a1 br bn .null (0 : Int32) (0 : Int32) xs) (ne1 : a1 ≠ br) (ne2 : a1 ≠ bn) (g1 : n0 ≤ a1) :
    MetFree l (⟨"com/example/keyfold/keyfold/JsonValue$Tape", "reset", "([B)V"⟩ : MethodName) (head1 (Jvm.Cond.code (⟨"com/example/keyfold/keyfold/JsonValue$Tape", "reset", "([B)V"⟩ : MethodName) prog_50_method_2_code 2 none :: ws) ({ frames := 0, cells := 0, slots := 0, locals := 0 } : Room)) (fun a U => a = #[(.ref a1), (.ref c1)] ∧ Z.Warmed39 U.vm ∧ U.heap = h0) (fun _ _ _ _ _ => True) (fun _ U o U' => ∃ v L, o = .returned v ∧ Q_rs Z a1 br bn c1 xs h0 n0 v U'.heap L ∧ FrameEnd U o U' L ({ frames := 0, cells := 0, slots := 0, locals := 0 } : Room).cells ({ frames := 0, cells := 0, slots := 0, locals := 0 } : Room).slots) := by
  refine MetFree.of_bodySF (plainFor_of_name pn_1) hisR ?_
  intro p e s m args below meth c s₁ Bd hml0 hP hK
  obtain ⟨rfl, hZ, hh⟩ := hP
  have hx := Bd.exec
  have hby := Bd.bytes
  have hml : c.maxLocals = 2 := hml0
  have hown : s.vm.findClass "com/example/keyfold/keyfold/JsonValue$Tape" = some m.cls := findClass_of_methodNamed Bd.named
  have hnm := (name_of_methodNamed Bd.named Bd.method).1
  have X0 : Stand p l e ({ frames := 0, cells := 0, slots := 0, locals := 0 } : Room) s m #[(.ref a1), (.ref c1)] below meth c s₁ [] 0 0 := Stand.of_body Bd
  have e0 : s₁.heap = h0 := by rw [← hh, Bd.state]; rfl
  have N0 := Fr.nil n0
  have pre0 : ∀ t, Steps p.tables e below (s₁.setTop (mkF m 0 #[.val (.ref a1), .val (.ref c1)] [])) t → Steps p.tables e below (s₁.setTop (entryFrame m #[(.ref a1), (.ref c1)] 2)) t := fun t k => castTop (ef_2 m a1 c1) k
  obtain ⟨T101, h101, X101, e101, W101, st101⟩ := putF X0 hx hZ hown (host := "") (Or.inl (hw _ (List.mem_of_getElem? (i := 30) rfl))) Via.refl e0 tp0.2.1 tp0.1 (Or.inl (hw _ (List.mem_of_getElem? (i := 31) rfl))) (hw _ (List.mem_of_getElem? (i := 10) rfl)) (ty := (.array .byte)) (by decide) rfl rfl (g := (mkF m 2 #[.val (.ref a1), .val (.ref c1)] [(.ref c1), (.ref a1)])) rfl rfl (hb hby dc2_2)
  have Fw101 : Fld Z h101 a1 "com/example/keyfold/keyfold/JsonValue$Tape" "source" "[B" (.ref c1) := Fld.same W101 tp0.2.1
  have N101 := Fr.snoc X101 N0 g1
  have f102 := (tp0.1.wr W101)
  have f103 := (tp0.2.2.2.2.1.other W101 (Or.inr (slot_ne (Or.inl (hw _ (List.mem_of_getElem? (i := 33) rfl))) (Or.inl (hw _ (List.mem_of_getElem? (i := 31) rfl))) (by decide) (t := .int) (t' := (.array .byte)) (by decide) (by decide))))
  obtain ⟨T104, h104, X104, e104, W104, st104⟩ := putF X101 hx hZ hown (host := "") (Or.inl (hw _ (List.mem_of_getElem? (i := 32) rfl))) Via.refl e101 f103 f102 (Or.inl (hw _ (List.mem_of_getElem? (i := 33) rfl))) (hw _ (List.mem_of_getElem? (i := 10) rfl)) (ty := .int) (by decide) rfl rfl (g := (mkF m 7 #[.val (.ref a1), .val (.ref c1)] [(.int (0 : Int32)), (.ref a1)])) rfl rfl (hb hby dc2_7)
  have Fw104 : Fld Z h104 a1 "com/example/keyfold/keyfold/JsonValue$Tape" "count" "I" (.int (0 : Int32)) := Fld.same W104 f103
  have N104 := Fr.snoc X104 N101 g1
  have f105 := ((tp0.2.2.2.2.2.1.other W101 (Or.inr (slot_ne (Or.inl (hw _ (List.mem_of_getElem? (i := 35) rfl))) (Or.inl (hw _ (List.mem_of_getElem? (i := 31) rfl))) (by decide) (t := .int) (t' := (.array .byte)) (by decide) (by decide)))).other W104 (Or.inr (slot_ne (Or.inl (hw _ (List.mem_of_getElem? (i := 35) rfl))) (Or.inl (hw _ (List.mem_of_getElem? (i := 33) rfl))) (by decide) (t := .int) (t' := .int) (by decide) (by decide))))
  obtain ⟨T106, X106, e106, st106⟩ := getF X104 hx hZ hown (host := "") (Or.inl (hw _ (List.mem_of_getElem? (i := 34) rfl))) Via.refl e104 f105 (g := (mkF m 12 #[.val (.ref a1), .val (.ref c1)] [(.ref a1), (.ref a1)])) rfl rfl (hb hby dc2_12)
  have f107 := (f102.wr W104)
  obtain ⟨T108, h108, X108, e108, W108, st108⟩ := putF X106 hx hZ hown (host := "") (Or.inl (hw _ (List.mem_of_getElem? (i := 34) rfl))) Via.refl e106 f105 f107 (Or.inl (hw _ (List.mem_of_getElem? (i := 35) rfl))) (hw _ (List.mem_of_getElem? (i := 10) rfl)) (ty := .int) (by decide) rfl rfl (g := (mkF m 17 #[.val (.ref a1), .val (.ref c1)] [(.int (1 : Int32)), (.ref a1)])) rfl rfl (hb hby dc2_17)
  have Fw108 : Fld Z h108 a1 "com/example/keyfold/keyfold/JsonValue$Tape" "generation" "I" (.int (1 : Int32)) := Fld.same W108 f105
  have N108 := Fr.snoc X108 N104 g1
  obtain ⟨fs, hr, hrun, hended, hW, hsame⟩ := X108.leave (v := none) (fun _ => rfl)
  have K109 : Keep h0 h108 [a1] := (Keep.wr (Keep.wr (Keep.wr (Keep.refl h0 [a1]) W101 (Or.inl (List.mem_of_getElem? (i := 0) rfl))) W104 (Or.inl (List.mem_of_getElem? (i := 0) rfl))) W108 (Or.inl (List.mem_of_getElem? (i := 0) rfl)))
  have f110 := (f107.wr W108)
  have f111 := ((Fw101.other W104 (Or.inr (slot_ne (Or.inl (hw _ (List.mem_of_getElem? (i := 31) rfl))) (Or.inl (hw _ (List.mem_of_getElem? (i := 33) rfl))) (by decide) (t := (.array .byte)) (t' := .int) (by decide) (by decide)))).other W108 (Or.inr (slot_ne (Or.inl (hw _ (List.mem_of_getElem? (i := 31) rfl))) (Or.inl (hw _ (List.mem_of_getElem? (i := 35) rfl))) (by decide) (t := (.array .byte)) (t' := .int) (by decide) (by decide))))
  have f112 := (((tp0.2.2.1.other W101 (Or.inr (slot_ne (Or.inl (hw _ (List.mem_of_getElem? (i := 20) rfl))) (Or.inl (hw _ (List.mem_of_getElem? (i := 31) rfl))) (by decide) (t := (.array .int)) (t' := (.array .byte)) (by decide) (by decide)))).other W104 (Or.inr (slot_ne (Or.inl (hw _ (List.mem_of_getElem? (i := 20) rfl))) (Or.inl (hw _ (List.mem_of_getElem? (i := 33) rfl))) (by decide) (t := (.array .int)) (t' := .int) (by decide) (by decide)))).other W108 (Or.inr (slot_ne (Or.inl (hw _ (List.mem_of_getElem? (i := 20) rfl))) (Or.inl (hw _ (List.mem_of_getElem? (i := 35) rfl))) (by decide) (t := (.array .int)) (t' := .int) (by decide) (by decide))))
  have f113 := (((tp0.2.2.2.1.other W101 (Or.inr (slot_ne (Or.inl (hw _ (List.mem_of_getElem? (i := 24) rfl))) (Or.inl (hw _ (List.mem_of_getElem? (i := 31) rfl))) (by decide) (t := (.array (.object "java/lang/String"))) (t' := (.array .byte)) (by decide) (by decide)))).other W104 (Or.inr (slot_ne (Or.inl (hw _ (List.mem_of_getElem? (i := 24) rfl))) (Or.inl (hw _ (List.mem_of_getElem? (i := 33) rfl))) (by decide) (t := (.array (.object "java/lang/String"))) (t' := .int) (by decide) (by decide)))).other W108 (Or.inr (slot_ne (Or.inl (hw _ (List.mem_of_getElem? (i := 24) rfl))) (Or.inl (hw _ (List.mem_of_getElem? (i := 35) rfl))) (by decide) (t := (.array (.object "java/lang/String"))) (t' := .int) (by decide) (by decide))))
  have f114 := (Fw104.other W108 (Or.inr (slot_ne (Or.inl (hw _ (List.mem_of_getElem? (i := 33) rfl))) (Or.inl (hw _ (List.mem_of_getElem? (i := 35) rfl))) (by decide) (t := .int) (t' := .int) (by decide) (by decide))))
  have f115 := (((tp0.2.2.2.2.2.2.1.other W101 (Ne.symm ne1)).other W104 (Ne.symm ne1)).other W108 (Ne.symm ne1))
  have f116 := (((tp0.2.2.2.2.2.2.2.other W101 (Ne.symm ne2)).other W104 (Ne.symm ne2)).other W108 (Ne.symm ne2))
  refine ⟨_, _, pre0 _ ?_, hrun, hended, _, _, rfl, ?_, ⟨_, rfl⟩, hW, hsame.mono (by decide) (by decide)⟩
  · skip
    show Steps p.tables e below (s₁.setTop (mkF m 0 #[.val (.ref a1), .val (.ref c1)] [])) _
    refine XS.aloadN X0.here hx rfl (hb hby dc2_0) rfl rfl ?_
    show Steps p.tables e below (s₁.setTop (mkF m 1 #[.val (.ref a1), .val (.ref c1)] [(.ref a1)])) _
    refine XS.aloadN X0.here hx rfl (hb hby dc2_1) rfl rfl ?_
    show Steps p.tables e below (s₁.setTop (mkF m 2 #[.val (.ref a1), .val (.ref c1)] [(.ref c1), (.ref a1)])) _
    refine st101 _ ?_
    show Steps p.tables e below (T101.setTop (mkF m 5 #[.val (.ref a1), .val (.ref c1)] [])) _
    refine XS.aloadN X101.here hx rfl (hb hby dc2_5) rfl rfl ?_
    show Steps p.tables e below (T101.setTop (mkF m 6 #[.val (.ref a1), .val (.ref c1)] [(.ref a1)])) _
    refine XS.iconst X101.here hx rfl (hb hby dc2_6) ?_
    show Steps p.tables e below (T101.setTop (mkF m 7 #[.val (.ref a1), .val (.ref c1)] [(.int (0 : Int32)), (.ref a1)])) _
    refine st104 _ ?_
    show Steps p.tables e below (T104.setTop (mkF m 10 #[.val (.ref a1), .val (.ref c1)] [])) _
    refine XS.aloadN X104.here hx rfl (hb hby dc2_10) rfl rfl ?_
    show Steps p.tables e below (T104.setTop (mkF m 11 #[.val (.ref a1), .val (.ref c1)] [(.ref a1)])) _
    refine XS.dup X104.here hx rfl (hb hby dc2_11) rfl rfl ?_
    show Steps p.tables e below (T104.setTop (mkF m 12 #[.val (.ref a1), .val (.ref c1)] [(.ref a1), (.ref a1)])) _
    refine st106 _ ?_
    show Steps p.tables e below (T106.setTop (mkF m 15 #[.val (.ref a1), .val (.ref c1)] [(.int (0 : Int32)), (.ref a1)])) _
    refine XS.iconst X106.here hx rfl (hb hby dc2_15) ?_
    show Steps p.tables e below (T106.setTop (mkF m 16 #[.val (.ref a1), .val (.ref c1)] [(.int (1 : Int32)), (.int (0 : Int32)), (.ref a1)])) _
    refine XS.iadd X106.here hx rfl (hb hby dc2_16) rfl ?_
    show Steps p.tables e below (T106.setTop (mkF m 17 #[.val (.ref a1), .val (.ref c1)] [(.int (1 : Int32)), (.ref a1)])) _
    refine st108 _ ?_
    show Steps p.tables e below (T108.setTop (mkF m 20 #[.val (.ref a1), .val (.ref c1)] [])) _
    exact X108.returnOut hx Bd.returns (hb hby dc2_20) hr
  · show Q_rs Z a1 br bn c1 xs h0 n0 _ T108.heap _
    rw [e108]
    exact ⟨rfl, N108, K109, ⟨f110, f111, f112, f113, f114, Fw108, f115, f116⟩⟩
def Q_rmOd (w1 : Int32) (h0 : Heap) (n0 : Nat) (v : Option Value) (h : Heap) (L : List Loc) : Prop := v = some (.int w1) ∧ Fr n0 L ∧ h = h0
theorem pn_2 : plainName "java/lang/Enum" = true := by first | (simp [plainName, overriddenIn]; done) | decide +kernel
theorem dc3_0 : decode jdk_37_method_2_code 0 = .ok (.aload_n 0, 1) := by decide +kernel
theorem dc3_1 : decode jdk_37_method_2_code 1 = .ok (.getfield 7, 3) := by decide +kernel
theorem dc3_4 : decode jdk_37_method_2_code 4 = .ok (.ireturn, 1) := by decide +kernel
set_option maxRecDepth 65536 in
set_option maxHeartbeats 40000000 in
theorem rmOd (l : Launch) (Z : State) (a0 : Array Value) (hw : ∀ d ∈ tables_1, d.before a0 Z = true) (ws : List Jvm.Cond) (a1 : Addr) (w1 : Int32) (h0 : Heap) (n0 : Nat) (O0 : Old Z n0 h0) (F1 : Fld Z h0 a1 "java/lang/Enum" "ordinal" "I" (.int w1)) :
    MetFree l (⟨"java/lang/Enum", "ordinal", "()I"⟩ : MethodName) (head1 (Jvm.Cond.code (⟨"java/lang/Enum", "ordinal", "()I"⟩ : MethodName) jdk_37_method_2_code 1 (some .int) :: ws) ({ frames := 0, cells := 0, slots := 0, locals := 0 } : Room)) (fun a U => a = #[(.ref a1)] ∧ Z.Warmed39 U.vm ∧ U.heap = h0) (fun _ _ _ _ _ => True) (fun _ U o U' => ∃ v L, o = .returned v ∧ Q_rmOd w1 h0 n0 v U'.heap L ∧ FrameEnd U o U' L ({ frames := 0, cells := 0, slots := 0, locals := 0 } : Room).cells ({ frames := 0, cells := 0, slots := 0, locals := 0 } : Room).slots) := by
  refine MetFree.of_bodySF (plainFor_of_name pn_2) hisR ?_
  intro p e s m args below meth c s₁ Bd hml0 hP hK
  obtain ⟨rfl, hZ, hh⟩ := hP
  have hx := Bd.exec
  have hby := Bd.bytes
  have hml : c.maxLocals = 1 := hml0
  have hown : s.vm.findClass "java/lang/Enum" = some m.cls := findClass_of_methodNamed Bd.named
  have hnm := (name_of_methodNamed Bd.named Bd.method).1
  have X0 : Stand p l e ({ frames := 0, cells := 0, slots := 0, locals := 0 } : Room) s m #[(.ref a1)] below meth c s₁ [] 0 0 := Stand.of_body Bd
  have e0 : s₁.heap = h0 := by rw [← hh, Bd.state]; rfl
  have N0 := Fr.nil n0
  have pre0 : ∀ t, Steps p.tables e below (s₁.setTop (mkF m 0 #[.val (.ref a1)] [])) t → Steps p.tables e below (s₁.setTop (entryFrame m #[(.ref a1)] 1)) t := fun t k => castTop (ef_1 m a1) k
  obtain ⟨T101, X101, e101, st101⟩ := getF X0 hx hZ hown (host := "") (Or.inl (hw _ (List.mem_of_getElem? (i := 48) rfl))) Via.refl e0 F1 (g := (mkF m 1 #[.val (.ref a1)] [(.ref a1)])) rfl rfl (hb hby dc3_1)
  obtain ⟨fs, hr, hrun, hended, hW, hsame⟩ := X101.leave (v := some (.int w1)) (fun h => by rw [Bd.returns] at h; cases h)
  refine ⟨_, _, pre0 _ ?_, hrun, hended, _, _, rfl, ?_, ⟨_, rfl⟩, hW, hsame.mono (by decide) (by decide)⟩
  · skip
    show Steps p.tables e below (s₁.setTop (mkF m 0 #[.val (.ref a1)] [])) _
    refine XS.aloadN X0.here hx rfl (hb hby dc3_0) rfl rfl ?_
    show Steps p.tables e below (s₁.setTop (mkF m 1 #[.val (.ref a1)] [(.ref a1)])) _
    refine st101 _ ?_
    show Steps p.tables e below (T101.setTop (mkF m 4 #[.val (.ref a1)] [(.int w1)])) _
    exact retI X101 hx Bd.returns (hb hby dc3_4) hr
  · show Q_rmOd w1 h0 n0 _ T101.heap _
    rw [e101]
    exact ⟨rfl, N0, rfl⟩
def Q_ad0 (Z : State) (a1 br bn : Addr) (src : Value) (gen j s1 : Int32) (xs : List Int32) (h0 : Heap) (n0 : Nat) (v : Option Value) (h : Heap) (L : List Loc) : Prop := v = some (.int (0 : Int32)) ∧ Fr n0 L ∧ Keep h0 h [a1, br, bn] ∧ Tp Z h a1 br bn src (1 : Int32) gen ((xs.set ((0 : Int32)).toNatClampNeg j).set ((1 : Int32)).toNatClampNeg s1)
theorem ef_3 (m : MethodId) (x0 : Addr) (x1 : Addr) (x2 : Int32) : entryFrame m #[(.ref x0), (.ref x1), (.int x2), .null] 5 = mkF m 0 #[.val (.ref x0), .val (.ref x1), .val (.int x2), .val .null, .unset] [] := by first | (simp [entryFrame, mkF, argsToLocals, Value.category]; done) | rfl
theorem dc4_0 : decode prog_50_method_3_code 0 = .ok (.aload_n 0, 1) := by decide +kernel
theorem dc4_1 : decode prog_50_method_3_code 1 = .ok (.getfield 23, 3) := by decide +kernel
theorem dc4_4 : decode prog_50_method_3_code 4 = .ok (.aload_n 0, 1) := by decide +kernel
theorem dc4_5 : decode prog_50_method_3_code 5 = .ok (.getfield 15, 3) := by decide +kernel
theorem dc4_8 : decode prog_50_method_3_code 8 = .ok (.arraylength, 1) := by decide +kernel
theorem dc4_9 : decode prog_50_method_3_code 9 = .ok (.if_icmp .ne 42, 3) := by decide +kernel
theorem dc4_51 : decode prog_50_method_3_code 51 = .ok (.aload_n 0, 1) := by decide +kernel
theorem dc4_52 : decode prog_50_method_3_code 52 = .ok (.dup, 1) := by decide +kernel
theorem dc4_53 : decode prog_50_method_3_code 53 = .ok (.getfield 23, 3) := by decide +kernel
theorem dc4_56 : decode prog_50_method_3_code 56 = .ok (.dup_x1, 1) := by decide +kernel
theorem dc4_57 : decode prog_50_method_3_code 57 = .ok (.iconst 1, 1) := by decide +kernel
theorem dc4_58 : decode prog_50_method_3_code 58 = .ok (.iadd, 1) := by decide +kernel
theorem dc4_59 : decode prog_50_method_3_code 59 = .ok (.putfield 23, 3) := by decide +kernel
theorem dc4_62 : decode prog_50_method_3_code 62 = .ok (.istore 4, 2) := by decide +kernel
theorem dc4_64 : decode prog_50_method_3_code 64 = .ok (.aload_n 0, 1) := by decide +kernel
theorem dc4_65 : decode prog_50_method_3_code 65 = .ok (.getfield 9, 3) := by decide +kernel
theorem dc4_68 : decode prog_50_method_3_code 68 = .ok (.iconst 4, 1) := by decide +kernel
theorem dc4_69 : decode prog_50_method_3_code 69 = .ok (.iload 4, 2) := by decide +kernel
theorem dc4_71 : decode prog_50_method_3_code 71 = .ok (.imul, 1) := by decide +kernel
theorem dc4_72 : decode prog_50_method_3_code 72 = .ok (.iconst 0, 1) := by decide +kernel
theorem dc4_73 : decode prog_50_method_3_code 73 = .ok (.iadd, 1) := by decide +kernel
theorem dc4_74 : decode prog_50_method_3_code 74 = .ok (.aload_n 1, 1) := by decide +kernel
theorem dc4_75 : decode prog_50_method_3_code 75 = .ok (.invokevirtual 40, 3) := by decide +kernel
theorem pd_0 : parseMethodDescriptor "()I" = some ⟨[], some .int⟩ := by decide +kernel
theorem dc4_78 : decode prog_50_method_3_code 78 = .ok (.iastore, 1) := by decide +kernel
theorem dc4_79 : decode prog_50_method_3_code 79 = .ok (.aload_n 0, 1) := by decide +kernel
theorem dc4_80 : decode prog_50_method_3_code 80 = .ok (.getfield 9, 3) := by decide +kernel
theorem dc4_83 : decode prog_50_method_3_code 83 = .ok (.iconst 4, 1) := by decide +kernel
theorem dc4_84 : decode prog_50_method_3_code 84 = .ok (.iload 4, 2) := by decide +kernel
theorem dc4_86 : decode prog_50_method_3_code 86 = .ok (.imul, 1) := by decide +kernel
theorem dc4_87 : decode prog_50_method_3_code 87 = .ok (.iconst 1, 1) := by decide +kernel
theorem dc4_88 : decode prog_50_method_3_code 88 = .ok (.iadd, 1) := by decide +kernel
theorem dc4_89 : decode prog_50_method_3_code 89 = .ok (.iload_n 2, 1) := by decide +kernel
theorem dc4_90 : decode prog_50_method_3_code 90 = .ok (.iastore, 1) := by decide +kernel
theorem dc4_91 : decode prog_50_method_3_code 91 = .ok (.aload_n 0, 1) := by decide +kernel
theorem dc4_92 : decode prog_50_method_3_code 92 = .ok (.getfield 15, 3) := by decide +kernel
theorem dc4_95 : decode prog_50_method_3_code 95 = .ok (.iload 4, 2) := by decide +kernel
theorem dc4_97 : decode prog_50_method_3_code 97 = .ok (.aload_n 3, 1) := by decide +kernel
theorem dc4_98 : decode prog_50_method_3_code 98 = .ok (.aastore, 1) := by decide +kernel
theorem dc4_99 : decode prog_50_method_3_code 99 = .ok (.iload 4, 2) := by decide +kernel
theorem dc4_101 : decode prog_50_method_3_code 101 = .ok (.ireturn, 1) := by decide +kernel
set_option maxRecDepth 65536 in
set_option maxHeartbeats 40000000 in
theorem rmAd0 (l : Launch) (Z : State) (a0 : Array Value) (hw : ∀ d ∈ tables_1, d.before a0 Z = true) (ws : List Jvm.Cond) (aK ak a1 br bn : Addr) (src : Value) (gen j s1 : Int32) (xs : List Int32) (h0 : Heap) (n0 : Nat) (O0 : Old Z n0 h0) (Kq : Knd Z aK ak j) (tp0 : Tp Z h0 a1 br bn src (0 : Int32) gen xs) (ne1 : a1 ≠ br) (ne2 : a1 ≠ bn) (ne3 : br ≠ bn) (g1 : n0 ≤ a1) (g2 : n0 ≤ br) (g3 : n0 ≤ bn) :
    MetFree l (⟨"com/example/keyfold/keyfold/JsonValue$Tape", "add", "(Lcom/example/keyfold/keyfold/JsonValue$Kind;ILjava/lang/String;)I"⟩ : MethodName) (head1 (Jvm.Cond.code (⟨"com/example/keyfold/keyfold/JsonValue$Tape", "add", "(Lcom/example/keyfold/keyfold/JsonValue$Kind;ILjava/lang/String;)I"⟩ : MethodName) prog_50_method_3_code 5 (some .int) :: ws) ({ frames := 1, cells := 0, slots := 0, locals := 14 } : Room)) (fun a U => a = #[(.ref a1), (.ref ak), (.int s1), .null] ∧ Z.Warmed39 U.vm ∧ U.heap = h0) (fun _ _ _ _ _ => True) (fun _ U o U' => ∃ v L, o = .returned v ∧ Q_ad0 Z a1 br bn src gen j s1 xs h0 n0 v U'.heap L ∧ FrameEnd U o U' L ({ frames := 1, cells := 0, slots := 0, locals := 14 } : Room).cells ({ frames := 1, cells := 0, slots := 0, locals := 14 } : Room).slots) := by
  refine MetFree.of_bodySF (plainFor_of_name pn_1) hisR ?_
  intro p e s m args below meth c s₁ Bd hml0 hP hK
  obtain ⟨rfl, hZ, hh⟩ := hP
  have hx := Bd.exec
  have hby := Bd.bytes
  have hml : c.maxLocals = 5 := hml0
  have hown : s.vm.findClass "com/example/keyfold/keyfold/JsonValue$Tape" = some m.cls := findClass_of_methodNamed Bd.named
  have hnm := (name_of_methodNamed Bd.named Bd.method).1
  have X0 : Stand p l e ({ frames := 1, cells := 0, slots := 0, locals := 14 } : Room) s m #[(.ref a1), (.ref ak), (.int s1), .null] below meth c s₁ [] 0 0 := Stand.of_body Bd
  have e0 : s₁.heap = h0 := by rw [← hh, Bd.state]; rfl
  have N0 := Fr.nil n0
  have pre0 : ∀ t, Steps p.tables e below (s₁.setTop (mkF m 0 #[.val (.ref a1), .val (.ref ak), .val (.int s1), .val .null, .unset] [])) t → Steps p.tables e below (s₁.setTop (entryFrame m #[(.ref a1), (.ref ak), (.int s1), .null] 5)) t := fun t k => castTop (ef_3 m a1 ak s1) k
  obtain ⟨Ek, Fk, -⟩ := id Kq
  have hkn : ak < n0 := by rw [← O0.1]; exact Ek.lt
  have na1 : ak ≠ a1 := Nat.ne_of_lt (Nat.lt_of_lt_of_le hkn g1)
  have na2 : ak ≠ br := Nat.ne_of_lt (Nat.lt_of_lt_of_le hkn g2)
  have na3 : ak ≠ bn := Nat.ne_of_lt (Nat.lt_of_lt_of_le hkn g3)
  obtain ⟨T101, X101, e101, st101⟩ := getF X0 hx hZ hown (host := "") (Or.inl (hw _ (List.mem_of_getElem? (i := 32) rfl))) Via.refl e0 tp0.2.2.2.2.1 (g := (mkF m 1 #[.val (.ref a1), .val (.ref ak), .val (.int s1), .val .null, .unset] [(.ref a1)])) rfl rfl (hb hby dc4_1)
  obtain ⟨T102, X102, e102, st102⟩ := getF X101 hx hZ hown (host := "") (Or.inl (hw _ (List.mem_of_getElem? (i := 23) rfl))) Via.refl e101 tp0.2.2.2.1 (g := (mkF m 5 #[.val (.ref a1), .val (.ref ak), .val (.int s1), .val .null, .unset] [(.ref a1), (.int (0 : Int32))])) rfl rfl (hb hby dc4_5)
  obtain ⟨cl103, Ar103, S103⟩ := id tp0.2.2.2.2.2.2.2
  obtain ⟨T104, X104, e104, st104⟩ := getF X102 hx hZ hown (host := "") (Or.inl (hw _ (List.mem_of_getElem? (i := 32) rfl))) Via.refl e102 tp0.2.2.2.2.1 (g := (mkF m 53 #[.val (.ref a1), .val (.ref ak), .val (.int s1), .val .null, .unset] [(.ref a1), (.ref a1)])) rfl rfl (hb hby dc4_53)
  obtain ⟨T105, h105, X105, e105, W105, st105⟩ := putF X104 hx hZ hown (host := "") (Or.inl (hw _ (List.mem_of_getElem? (i := 32) rfl))) Via.refl e104 tp0.2.2.2.2.1 tp0.1 (Or.inl (hw _ (List.mem_of_getElem? (i := 33) rfl))) (hw _ (List.mem_of_getElem? (i := 10) rfl)) (ty := .int) (by decide) rfl rfl (g := (mkF m 59 #[.val (.ref a1), .val (.ref ak), .val (.int s1), .val .null, .unset] [(.int (1 : Int32)), (.ref a1), (.int (0 : Int32))])) rfl rfl (hb hby dc4_59)
  have Fw105 : Fld Z h105 a1 "com/example/keyfold/keyfold/JsonValue$Tape" "count" "I" (.int (1 : Int32)) := Fld.same W105 tp0.2.2.2.2.1
  have N105 := Fr.snoc X105 N0 g1
  have f106 := (tp0.2.2.1.other W105 (Or.inr (slot_ne (Or.inl (hw _ (List.mem_of_getElem? (i := 20) rfl))) (Or.inl (hw _ (List.mem_of_getElem? (i := 33) rfl))) (by decide) (t := (.array .int)) (t' := .int) (by decide) (by decide))))
  obtain ⟨T107, X107, e107, st107⟩ := getF X105 hx hZ hown (host := "") (Or.inl (hw _ (List.mem_of_getElem? (i := 19) rfl))) Via.refl e105 f106 (g := (mkF m 65 #[.val (.ref a1), .val (.ref ak), .val (.int s1), .val .null, .val (.int (0 : Int32))] [(.ref a1)])) rfl rfl (hb hby dc4_65)
  have f108 := ((Fld.ext O0.2 Fk).other W105 (Or.inl na1))
  have O109 : Old Z n0 h105 := (O0.wr W105 g1)
  have f111 := ((Exa.ext O0.2 Ek).wr W105)
  obtain ⟨cq110, kq110, q110a, q110b, q110c⟩ := isOf hZ e107 f111
  obtain ⟨_, _, ⟨T110, L110, k110, n110⟩, -, X110, ⟨Lc110, hQ110, l110, y110, z110⟩, st110⟩ := X107.virtualBackUp hx (x := (⟨"com/example/keyfold/keyfold/JsonValue$Kind", "ordinal", "()I"⟩ : MethodName)) (y := (⟨"java/lang/Enum", "ordinal", "()I"⟩ : MethodName)) (owner := "java/lang/Enum") hown (mvT hZ (hw _ (List.mem_of_getElem? (i := 41) rfl))) (mvT hZ (hw _ (List.mem_of_getElem? (i := 42) rfl))) (mvT hZ (hw _ (List.mem_of_getElem? (i := 43) rfl))) (by decide) (mvT hZ (hw _ (List.mem_of_getElem? (i := 45) rfl))) (mvT hZ (hw _ (List.mem_of_getElem? (i := 44) rfl))) (backOf (W := 2) (rmOd l Z a0 hw [] ak j h105 n0 O109 f108) hZ (hw _ (List.mem_of_getElem? (i := 47) rfl)) (hw _ (List.mem_of_getElem? (i := 46) rfl)) (by decide) (by decide)) q110a q110c (g := (mkF m 75 #[.val (.ref a1), .val (.ref ak), .val (.int s1), .val .null, .val (.int (0 : Int32))] [(.ref ak), (.int (0 : Int32)), (.ref br)])) rfl (by rw [hml]; rfl) (Steps.refl _) (argsL := []) (rest := [(.int (0 : Int32)), (.ref br)]) (lenOf pd_0 rfl) rfl (by show 2 * 0 + _ ≤ _; exact Nat.le_of_eq rfl) (hb hby dc4_75) (fun _ _ => ⟨rfl, e107, (by decide : 0 + 0 ≤ _), (by decide : 0 + 0 ≤ _)⟩)
  dsimp only [Pt.U, Pt.locs, Pt.cells, Pt.slots] at X110 l110 y110 z110 st110 hQ110
  subst l110 y110 z110
  obtain ⟨rfl, N110q, hh110⟩ := hQ110
  have N110 := Fr.app N105 N110q
  have f112 := (tp0.2.2.2.2.2.2.1.other W105 (Ne.symm ne1))
  obtain ⟨cl113, Ar113, hin113, up113⟩ := La.up (j := (0 : Int32)) f112 ⟨by decide, by decide⟩
  obtain ⟨T114, h114, X114, e114, W114, st114⟩ := stI X110 hx hZ hh110 Ar113 (j := (0 : Int32)) hin113 (g := (mkF m 78 #[.val (.ref a1), .val (.ref ak), .val (.int s1), .val .null, .val (.int (0 : Int32))] [(.int j), (.int (0 : Int32)), (.ref br)])) rfl rfl (hb hby dc4_78)
  have A114 : La Z h114 br .int (64 : Int32) (xs.set ((0 : Int32)).toNatClampNeg j) := up113 _ (by first | rfl | decide) _ W114
  have N114 := Fr.snoc X114 N110 g2
  have f115 := (f106.other W114 (Or.inl ne1))
  obtain ⟨T116, X116, e116, st116⟩ := getF X114 hx hZ hown (host := "") (Or.inl (hw _ (List.mem_of_getElem? (i := 19) rfl))) Via.refl e114 f115 (g := (mkF m 80 #[.val (.ref a1), .val (.ref ak), .val (.int s1), .val .null, .val (.int (0 : Int32))] [(.ref a1)])) rfl rfl (hb hby dc4_80)
  obtain ⟨cl117, Ar117, hin117, up117⟩ := La.up (j := (1 : Int32)) A114 ⟨by decide, by decide⟩
  obtain ⟨T118, h118, X118, e118, W118, st118⟩ := stI X116 hx hZ e116 Ar117 (j := (1 : Int32)) hin117 (g := (mkF m 90 #[.val (.ref a1), .val (.ref ak), .val (.int s1), .val .null, .val (.int (0 : Int32))] [(.int s1), (.int (1 : Int32)), (.ref br)])) rfl rfl (hb hby dc4_90)
  have A118 : La Z h118 br .int (64 : Int32) ((xs.set ((0 : Int32)).toNatClampNeg j).set ((1 : Int32)).toNatClampNeg s1) := up117 _ (by first | rfl | decide) _ W118
  have N118 := Fr.snoc X118 N114 g2
  have f119 := (((tp0.2.2.2.1.other W105 (Or.inr (slot_ne (Or.inl (hw _ (List.mem_of_getElem? (i := 24) rfl))) (Or.inl (hw _ (List.mem_of_getElem? (i := 33) rfl))) (by decide) (t := (.array (.object "java/lang/String"))) (t' := .int) (by decide) (by decide)))).other W114 (Or.inl ne1)).other W118 (Or.inl ne1))
  obtain ⟨T120, X120, e120, st120⟩ := getF X118 hx hZ hown (host := "") (Or.inl (hw _ (List.mem_of_getElem? (i := 23) rfl))) Via.refl e118 f119 (g := (mkF m 92 #[.val (.ref a1), .val (.ref ak), .val (.int s1), .val .null, .val (.int (0 : Int32))] [(.ref a1)])) rfl rfl (hb hby dc4_92)
  have f121 := (((tp0.2.2.2.2.2.2.2.other W105 (Ne.symm ne2)).other W114 (Ne.symm ne3)).other W118 (Ne.symm ne3))
  obtain ⟨cl122, Ar122, S122⟩ := id f121
  have hin122 : ¬ ((0 : Int32) < 0 ∨ cl122.slots.size ≤ ((0 : Int32)).toNatClampNeg) := by rw [S122]; decide
  obtain ⟨T123, h123, X123, e123, W123, st123⟩ := Jvm.RoadKit.stR X120 hx hZ e120 Ar122 (j := (0 : Int32)) (v := .null) hin122 rfl (Or.inl rfl) (g := (mkF m 98 #[.val (.ref a1), .val (.ref ak), .val (.int s1), .val .null, .val (.int (0 : Int32))] [.null, (.int (0 : Int32)), (.ref bn)])) rfl rfl (hb hby dc4_98)
  have V123 : Nm Z h123 bn := Nm.set Ar122 S122 W123
  have N123 := Fr.snoc X123 N118 g3
  obtain ⟨fs, hr, hrun, hended, hW, hsame⟩ := X123.leave (v := some (.int (0 : Int32))) (fun h => by rw [Bd.returns] at h; cases h)
  have K124 : Keep h0 h123 [a1, br, bn] := (Keep.wr (Keep.wr (Keep.wr (Keep.wr (Keep.refl h0 [a1, br, bn]) W105 (Or.inl (List.mem_of_getElem? (i := 0) rfl))) W114 (Or.inl (List.mem_of_getElem? (i := 1) rfl))) W118 (Or.inl (List.mem_of_getElem? (i := 1) rfl))) W123 (Or.inl (List.mem_of_getElem? (i := 2) rfl)))
  have f125 := ((((tp0.1.wr W105).wr W114).wr W118).wr W123)
  have f126 := ((((tp0.2.1.other W105 (Or.inr (slot_ne (Or.inl (hw _ (List.mem_of_getElem? (i := 31) rfl))) (Or.inl (hw _ (List.mem_of_getElem? (i := 33) rfl))) (by decide) (t := (.array .byte)) (t' := .int) (by decide) (by decide)))).other W114 (Or.inl ne1)).other W118 (Or.inl ne1)).other W123 (Or.inl ne2))
  have f127 := ((f115.other W118 (Or.inl ne1)).other W123 (Or.inl ne2))
  have f128 := (f119.other W123 (Or.inl ne2))
  have f129 := (((Fw105.other W114 (Or.inl ne1)).other W118 (Or.inl ne1)).other W123 (Or.inl ne2))
  have f130 := ((((tp0.2.2.2.2.2.1.other W105 (Or.inr (slot_ne (Or.inl (hw _ (List.mem_of_getElem? (i := 35) rfl))) (Or.inl (hw _ (List.mem_of_getElem? (i := 33) rfl))) (by decide) (t := .int) (t' := .int) (by decide) (by decide)))).other W114 (Or.inl ne1)).other W118 (Or.inl ne1)).other W123 (Or.inl ne2))
  have f131 := (A118.other W123 ne3)
  refine ⟨_, _, pre0 _ ?_, hrun, hended, _, _, rfl, ?_, ⟨_, rfl⟩, hW, hsame.mono (by decide) (by decide)⟩
  · skip
    show Steps p.tables e below (s₁.setTop (mkF m 0 #[.val (.ref a1), .val (.ref ak), .val (.int s1), .val .null, .unset] [])) _
    refine XS.aloadN X0.here hx rfl (hb hby dc4_0) rfl rfl ?_
    show Steps p.tables e below (s₁.setTop (mkF m 1 #[.val (.ref a1), .val (.ref ak), .val (.int s1), .val .null, .unset] [(.ref a1)])) _
    refine st101 _ ?_
    show Steps p.tables e below (T101.setTop (mkF m 4 #[.val (.ref a1), .val (.ref ak), .val (.int s1), .val .null, .unset] [(.int (0 : Int32))])) _
    refine XS.aloadN X101.here hx rfl (hb hby dc4_4) rfl rfl ?_
    show Steps p.tables e below (T101.setTop (mkF m 5 #[.val (.ref a1), .val (.ref ak), .val (.int s1), .val .null, .unset] [(.ref a1), (.int (0 : Int32))])) _
    refine st102 _ ?_
    show Steps p.tables e below (T102.setTop (mkF m 8 #[.val (.ref a1), .val (.ref ak), .val (.int s1), .val .null, .unset] [(.ref bn), (.int (0 : Int32))])) _
    refine X102.arraylength hx (by rw [e102]; exact Ar103.1) (State.isArrayOf_alike hZ.alike Ar103.2.1) (g := (mkF m 8 #[.val (.ref a1), .val (.ref ak), .val (.int s1), .val .null, .unset] [(.ref bn), (.int (0 : Int32))])) rfl rfl (hb hby dc4_8) _ ?_
    rw [len_of S103 (by decide)]
    show Steps p.tables e below (T102.setTop (mkF m 9 #[.val (.ref a1), .val (.ref ak), .val (.int s1), .val .null, .unset] [(.int (16 : Int32)), (.int (0 : Int32))])) _
    refine XS.icmpYes X102.here hx rfl (pc0 := 9) (pc' := 51) rfl (hb hby dc4_9) rfl (by decide) (by decide) (by decide) ?_
    show Steps p.tables e below (T102.setTop (mkF m 51 #[.val (.ref a1), .val (.ref ak), .val (.int s1), .val .null, .unset] [])) _
    refine XS.aloadN X102.here hx rfl (hb hby dc4_51) rfl rfl ?_
    show Steps p.tables e below (T102.setTop (mkF m 52 #[.val (.ref a1), .val (.ref ak), .val (.int s1), .val .null, .unset] [(.ref a1)])) _
    refine XS.dup X102.here hx rfl (hb hby dc4_52) rfl rfl ?_
    show Steps p.tables e below (T102.setTop (mkF m 53 #[.val (.ref a1), .val (.ref ak), .val (.int s1), .val .null, .unset] [(.ref a1), (.ref a1)])) _
    refine st104 _ ?_
    show Steps p.tables e below (T104.setTop (mkF m 56 #[.val (.ref a1), .val (.ref ak), .val (.int s1), .val .null, .unset] [(.int (0 : Int32)), (.ref a1)])) _
    refine XS.dupX1 X104.here hx rfl (hb hby dc4_56) rfl rfl rfl ?_
    show Steps p.tables e below (T104.setTop (mkF m 57 #[.val (.ref a1), .val (.ref ak), .val (.int s1), .val .null, .unset] [(.int (0 : Int32)), (.ref a1), (.int (0 : Int32))])) _
    refine XS.iconst X104.here hx rfl (hb hby dc4_57) ?_
    show Steps p.tables e below (T104.setTop (mkF m 58 #[.val (.ref a1), .val (.ref ak), .val (.int s1), .val .null, .unset] [(.int (1 : Int32)), (.int (0 : Int32)), (.ref a1), (.int (0 : Int32))])) _
    refine XS.iadd X104.here hx rfl (hb hby dc4_58) rfl ?_
    show Steps p.tables e below (T104.setTop (mkF m 59 #[.val (.ref a1), .val (.ref ak), .val (.int s1), .val .null, .unset] [(.int (1 : Int32)), (.ref a1), (.int (0 : Int32))])) _
    refine st105 _ ?_
    show Steps p.tables e below (T105.setTop (mkF m 62 #[.val (.ref a1), .val (.ref ak), .val (.int s1), .val .null, .unset] [(.int (0 : Int32))])) _
    refine XS.istore X105.here hx rfl (hb hby dc4_62) rfl (l' := #[.val (.ref a1), .val (.ref ak), .val (.int s1), .val .null, .val (.int (0 : Int32))]) rfl ?_
    show Steps p.tables e below (T105.setTop (mkF m 64 #[.val (.ref a1), .val (.ref ak), .val (.int s1), .val .null, .val (.int (0 : Int32))] [])) _
    refine XS.aloadN X105.here hx rfl (hb hby dc4_64) rfl rfl ?_
    show Steps p.tables e below (T105.setTop (mkF m 65 #[.val (.ref a1), .val (.ref ak), .val (.int s1), .val .null, .val (.int (0 : Int32))] [(.ref a1)])) _
    refine st107 _ ?_
    show Steps p.tables e below (T107.setTop (mkF m 68 #[.val (.ref a1), .val (.ref ak), .val (.int s1), .val .null, .val (.int (0 : Int32))] [(.ref br)])) _
    refine XS.iconst X107.here hx rfl (hb hby dc4_68) ?_
    show Steps p.tables e below (T107.setTop (mkF m 69 #[.val (.ref a1), .val (.ref ak), .val (.int s1), .val .null, .val (.int (0 : Int32))] [(.int (4 : Int32)), (.ref br)])) _
    refine XS.iload X107.here hx rfl (hb hby dc4_69) rfl ?_
    show Steps p.tables e below (T107.setTop (mkF m 71 #[.val (.ref a1), .val (.ref ak), .val (.int s1), .val .null, .val (.int (0 : Int32))] [(.int (0 : Int32)), (.int (4 : Int32)), (.ref br)])) _
    refine XS.imul X107.here hx rfl (hb hby dc4_71) rfl ?_
    show Steps p.tables e below (T107.setTop (mkF m 72 #[.val (.ref a1), .val (.ref ak), .val (.int s1), .val .null, .val (.int (0 : Int32))] [(.int (0 : Int32)), (.ref br)])) _
    refine XS.iconst X107.here hx rfl (hb hby dc4_72) ?_
    show Steps p.tables e below (T107.setTop (mkF m 73 #[.val (.ref a1), .val (.ref ak), .val (.int s1), .val .null, .val (.int (0 : Int32))] [(.int (0 : Int32)), (.int (0 : Int32)), (.ref br)])) _
    refine XS.iadd X107.here hx rfl (hb hby dc4_73) rfl ?_
    show Steps p.tables e below (T107.setTop (mkF m 74 #[.val (.ref a1), .val (.ref ak), .val (.int s1), .val .null, .val (.int (0 : Int32))] [(.int (0 : Int32)), (.ref br)])) _
    refine XS.aloadN X107.here hx rfl (hb hby dc4_74) rfl rfl ?_
    show Steps p.tables e below (T107.setTop (mkF m 75 #[.val (.ref a1), .val (.ref ak), .val (.int s1), .val .null, .val (.int (0 : Int32))] [(.ref ak), (.int (0 : Int32)), (.ref br)])) _
    refine st110.trans ?_
    show Steps p.tables e below (T110.setTop (mkF m 78 #[.val (.ref a1), .val (.ref ak), .val (.int s1), .val .null, .val (.int (0 : Int32))] [(.int j), (.int (0 : Int32)), (.ref br)])) _
    refine st114 _ ?_
    show Steps p.tables e below (T114.setTop (mkF m 79 #[.val (.ref a1), .val (.ref ak), .val (.int s1), .val .null, .val (.int (0 : Int32))] [])) _
    refine XS.aloadN X114.here hx rfl (hb hby dc4_79) rfl rfl ?_
    show Steps p.tables e below (T114.setTop (mkF m 80 #[.val (.ref a1), .val (.ref ak), .val (.int s1), .val .null, .val (.int (0 : Int32))] [(.ref a1)])) _
    refine st116 _ ?_
    show Steps p.tables e below (T116.setTop (mkF m 83 #[.val (.ref a1), .val (.ref ak), .val (.int s1), .val .null, .val (.int (0 : Int32))] [(.ref br)])) _
    refine XS.iconst X116.here hx rfl (hb hby dc4_83) ?_
    show Steps p.tables e below (T116.setTop (mkF m 84 #[.val (.ref a1), .val (.ref ak), .val (.int s1), .val .null, .val (.int (0 : Int32))] [(.int (4 : Int32)), (.ref br)])) _
    refine XS.iload X116.here hx rfl (hb hby dc4_84) rfl ?_
    show Steps p.tables e below (T116.setTop (mkF m 86 #[.val (.ref a1), .val (.ref ak), .val (.int s1), .val .null, .val (.int (0 : Int32))] [(.int (0 : Int32)), (.int (4 : Int32)), (.ref br)])) _
    refine XS.imul X116.here hx rfl (hb hby dc4_86) rfl ?_
    show Steps p.tables e below (T116.setTop (mkF m 87 #[.val (.ref a1), .val (.ref ak), .val (.int s1), .val .null, .val (.int (0 : Int32))] [(.int (0 : Int32)), (.ref br)])) _
    refine XS.iconst X116.here hx rfl (hb hby dc4_87) ?_
    show Steps p.tables e below (T116.setTop (mkF m 88 #[.val (.ref a1), .val (.ref ak), .val (.int s1), .val .null, .val (.int (0 : Int32))] [(.int (1 : Int32)), (.int (0 : Int32)), (.ref br)])) _
    refine XS.iadd X116.here hx rfl (hb hby dc4_88) rfl ?_
    show Steps p.tables e below (T116.setTop (mkF m 89 #[.val (.ref a1), .val (.ref ak), .val (.int s1), .val .null, .val (.int (0 : Int32))] [(.int (1 : Int32)), (.ref br)])) _
    refine XS.iloadN X116.here hx rfl (hb hby dc4_89) rfl ?_
    show Steps p.tables e below (T116.setTop (mkF m 90 #[.val (.ref a1), .val (.ref ak), .val (.int s1), .val .null, .val (.int (0 : Int32))] [(.int s1), (.int (1 : Int32)), (.ref br)])) _
    refine st118 _ ?_
    show Steps p.tables e below (T118.setTop (mkF m 91 #[.val (.ref a1), .val (.ref ak), .val (.int s1), .val .null, .val (.int (0 : Int32))] [])) _
    refine XS.aloadN X118.here hx rfl (hb hby dc4_91) rfl rfl ?_
    show Steps p.tables e below (T118.setTop (mkF m 92 #[.val (.ref a1), .val (.ref ak), .val (.int s1), .val .null, .val (.int (0 : Int32))] [(.ref a1)])) _
    refine st120 _ ?_
    show Steps p.tables e below (T120.setTop (mkF m 95 #[.val (.ref a1), .val (.ref ak), .val (.int s1), .val .null, .val (.int (0 : Int32))] [(.ref bn)])) _
    refine XS.iload X120.here hx rfl (hb hby dc4_95) rfl ?_
    show Steps p.tables e below (T120.setTop (mkF m 97 #[.val (.ref a1), .val (.ref ak), .val (.int s1), .val .null, .val (.int (0 : Int32))] [(.int (0 : Int32)), (.ref bn)])) _
    refine XS.aloadN X120.here hx rfl (hb hby dc4_97) rfl rfl ?_
    show Steps p.tables e below (T120.setTop (mkF m 98 #[.val (.ref a1), .val (.ref ak), .val (.int s1), .val .null, .val (.int (0 : Int32))] [.null, (.int (0 : Int32)), (.ref bn)])) _
    refine st123 _ ?_
    show Steps p.tables e below (T123.setTop (mkF m 99 #[.val (.ref a1), .val (.ref ak), .val (.int s1), .val .null, .val (.int (0 : Int32))] [])) _
    refine XS.iload X123.here hx rfl (hb hby dc4_99) rfl ?_
    show Steps p.tables e below (T123.setTop (mkF m 101 #[.val (.ref a1), .val (.ref ak), .val (.int s1), .val .null, .val (.int (0 : Int32))] [(.int (0 : Int32))])) _
    exact retI X123 hx Bd.returns (hb hby dc4_101) hr
  · show Q_ad0 Z a1 br bn src gen j s1 xs h0 n0 _ T123.heap _
    rw [e123]
    exact ⟨rfl, N123, K124, ⟨f125, f126, f127, f128, f129, f130, f131, V123⟩⟩
def Q_ad1 (Z : State) (a1 br bn : Addr) (src : Value) (gen j s1 : Int32) (xs : List Int32) (h0 : Heap) (n0 : Nat) (v : Option Value) (h : Heap) (L : List Loc) : Prop := v = some (.int (1 : Int32)) ∧ Fr n0 L ∧ Keep h0 h [a1, br, bn] ∧ Tp Z h a1 br bn src (2 : Int32) gen ((xs.set ((4 : Int32)).toNatClampNeg j).set ((5 : Int32)).toNatClampNeg s1)
set_option maxRecDepth 65536 in
set_option maxHeartbeats 40000000 in
theorem rmAd1 (l : Launch) (Z : State) (a0 : Array Value) (hw : ∀ d ∈ tables_1, d.before a0 Z = true) (ws : List Jvm.Cond) (aK ak a1 br bn : Addr) (src : Value) (gen j s1 : Int32) (xs : List Int32) (h0 : Heap) (n0 : Nat) (O0 : Old Z n0 h0) (Kq : Knd Z aK ak j) (tp0 : Tp Z h0 a1 br bn src (1 : Int32) gen xs) (ne1 : a1 ≠ br) (ne2 : a1 ≠ bn) (ne3 : br ≠ bn) (g1 : n0 ≤ a1) (g2 : n0 ≤ br) (g3 : n0 ≤ bn) :
    MetFree l (⟨"com/example/keyfold/keyfold/JsonValue$Tape", "add", "(Lcom/example/keyfold/keyfold/JsonValue$Kind;ILjava/lang/String;)I"⟩ : MethodName) (head1 (Jvm.Cond.code (⟨"com/example/keyfold/keyfold/JsonValue$Tape", "add", "(Lcom/example/keyfold/keyfold/JsonValue$Kind;ILjava/lang/String;)I"⟩ : MethodName) prog_50_method_3_code 5 (some .int) :: ws) ({ frames := 1, cells := 0, slots := 0, locals := 14 } : Room)) (fun a U => a = #[(.ref a1), (.ref ak), (.int s1), .null] ∧ Z.Warmed39 U.vm ∧ U.heap = h0) (fun _ _ _ _ _ => True) (fun _ U o U' => ∃ v L, o = .returned v ∧ Q_ad1 Z a1 br bn src gen j s1 xs h0 n0 v U'.heap L ∧ FrameEnd U o U' L ({ frames := 1, cells := 0, slots := 0, locals := 14 } : Room).cells ({ frames := 1, cells := 0, slots := 0, locals := 14 } : Room).slots) := by
  refine MetFree.of_bodySF (plainFor_of_name pn_1) hisR ?_
  intro p e s m args below meth c s₁ Bd hml0 hP hK
  obtain ⟨rfl, hZ, hh⟩ := hP
  have hx := Bd.exec
  have hby := Bd.bytes
  have hml : c.maxLocals = 5 := hml0
  have hown : s.vm.findClass "com/example/keyfold/keyfold/JsonValue$Tape" = some m.cls := findClass_of_methodNamed Bd.named
  have hnm := (name_of_methodNamed Bd.named Bd.method).1
  have X0 : Stand p l e ({ frames := 1, cells := 0, slots := 0, locals := 14 } : Room) s m #[(.ref a1), (.ref ak), (.int s1), .null] below meth c s₁ [] 0 0 := Stand.of_body Bd
  have e0 : s₁.heap = h0 := by rw [← hh, Bd.state]; rfl
  have N0 := Fr.nil n0
  have pre0 : ∀ t, Steps p.tables e below (s₁.setTop (mkF m 0 #[.val (.ref a1), .val (.ref ak), .val (.int s1), .val .null, .unset] [])) t → Steps p.tables e below (s₁.setTop (entryFrame m #[(.ref a1), (.ref ak), (.int s1), .null] 5)) t := fun t k => castTop (ef_3 m a1 ak s1) k
  obtain ⟨Ek, Fk, -⟩ := id Kq
  have hkn : ak < n0 := by rw [← O0.1]; exact Ek.lt
  have na1 : ak ≠ a1 := Nat.ne_of_lt (Nat.lt_of_lt_of_le hkn g1)
  have na2 : ak ≠ br := Nat.ne_of_lt (Nat.lt_of_lt_of_le hkn g2)
  have na3 : ak ≠ bn := Nat.ne_of_lt (Nat.lt_of_lt_of_le hkn g3)
  obtain ⟨T101, X101, e101, st101⟩ := getF X0 hx hZ hown (host := "") (Or.inl (hw _ (List.mem_of_getElem? (i := 32) rfl))) Via.refl e0 tp0.2.2.2.2.1 (g := (mkF m 1 #[.val (.ref a1), .val (.ref ak), .val (.int s1), .val .null, .unset] [(.ref a1)])) rfl rfl (hb hby dc4_1)
  obtain ⟨T102, X102, e102, st102⟩ := getF X101 hx hZ hown (host := "") (Or.inl (hw _ (List.mem_of_getElem? (i := 23) rfl))) Via.refl e101 tp0.2.2.2.1 (g := (mkF m 5 #[.val (.ref a1), .val (.ref ak), .val (.int s1), .val .null, .unset] [(.ref a1), (.int (1 : Int32))])) rfl rfl (hb hby dc4_5)
  obtain ⟨cl103, Ar103, S103⟩ := id tp0.2.2.2.2.2.2.2
  obtain ⟨T104, X104, e104, st104⟩ := getF X102 hx hZ hown (host := "") (Or.inl (hw _ (List.mem_of_getElem? (i := 32) rfl))) Via.refl e102 tp0.2.2.2.2.1 (g := (mkF m 53 #[.val (.ref a1), .val (.ref ak), .val (.int s1), .val .null, .unset] [(.ref a1), (.ref a1)])) rfl rfl (hb hby dc4_53)
  obtain ⟨T105, h105, X105, e105, W105, st105⟩ := putF X104 hx hZ hown (host := "") (Or.inl (hw _ (List.mem_of_getElem? (i := 32) rfl))) Via.refl e104 tp0.2.2.2.2.1 tp0.1 (Or.inl (hw _ (List.mem_of_getElem? (i := 33) rfl))) (hw _ (List.mem_of_getElem? (i := 10) rfl)) (ty := .int) (by decide) rfl rfl (g := (mkF m 59 #[.val (.ref a1), .val (.ref ak), .val (.int s1), .val .null, .unset] [(.int (2 : Int32)), (.ref a1), (.int (1 : Int32))])) rfl rfl (hb hby dc4_59)
  have Fw105 : Fld Z h105 a1 "com/example/keyfold/keyfold/JsonValue$Tape" "count" "I" (.int (2 : Int32)) := Fld.same W105 tp0.2.2.2.2.1
  have N105 := Fr.snoc X105 N0 g1
  have f106 := (tp0.2.2.1.other W105 (Or.inr (slot_ne (Or.inl (hw _ (List.mem_of_getElem? (i := 20) rfl))) (Or.inl (hw _ (List.mem_of_getElem? (i := 33) rfl))) (by decide) (t := (.array .int)) (t' := .int) (by decide) (by decide))))
  obtain ⟨T107, X107, e107, st107⟩ := getF X105 hx hZ hown (host := "") (Or.inl (hw _ (List.mem_of_getElem? (i := 19) rfl))) Via.refl e105 f106 (g := (mkF m 65 #[.val (.ref a1), .val (.ref ak), .val (.int s1), .val .null, .val (.int (1 : Int32))] [(.ref a1)])) rfl rfl (hb hby dc4_65)
  have f108 := ((Fld.ext O0.2 Fk).other W105 (Or.inl na1))
  have O109 : Old Z n0 h105 := (O0.wr W105 g1)
  have f111 := ((Exa.ext O0.2 Ek).wr W105)
  obtain ⟨cq110, kq110, q110a, q110b, q110c⟩ := isOf hZ e107 f111
  obtain ⟨_, _, ⟨T110, L110, k110, n110⟩, -, X110, ⟨Lc110, hQ110, l110, y110, z110⟩, st110⟩ := X107.virtualBackUp hx (x := (⟨"com/example/keyfold/keyfold/JsonValue$Kind", "ordinal", "()I"⟩ : MethodName)) (y := (⟨"java/lang/Enum", "ordinal", "()I"⟩ : MethodName)) (owner := "java/lang/Enum") hown (mvT hZ (hw _ (List.mem_of_getElem? (i := 41) rfl))) (mvT hZ (hw _ (List.mem_of_getElem? (i := 42) rfl))) (mvT hZ (hw _ (List.mem_of_getElem? (i := 43) rfl))) (by decide) (mvT hZ (hw _ (List.mem_of_getElem? (i := 45) rfl))) (mvT hZ (hw _ (List.mem_of_getElem? (i := 44) rfl))) (backOf (W := 2) (rmOd l Z a0 hw [] ak j h105 n0 O109 f108) hZ (hw _ (List.mem_of_getElem? (i := 47) rfl)) (hw _ (List.mem_of_getElem? (i := 46) rfl)) (by decide) (by decide)) q110a q110c (g := (mkF m 75 #[.val (.ref a1), .val (.ref ak), .val (.int s1), .val .null, .val (.int (1 : Int32))] [(.ref ak), (.int (4 : Int32)), (.ref br)])) rfl (by rw [hml]; rfl) (Steps.refl _) (argsL := []) (rest := [(.int (4 : Int32)), (.ref br)]) (lenOf pd_0 rfl) rfl (by show 2 * 0 + _ ≤ _; exact Nat.le_of_eq rfl) (hb hby dc4_75) (fun _ _ => ⟨rfl, e107, (by decide : 0 + 0 ≤ _), (by decide : 0 + 0 ≤ _)⟩)
  dsimp only [Pt.U, Pt.locs, Pt.cells, Pt.slots] at X110 l110 y110 z110 st110 hQ110
  subst l110 y110 z110
  obtain ⟨rfl, N110q, hh110⟩ := hQ110
  have N110 := Fr.app N105 N110q
  have f112 := (tp0.2.2.2.2.2.2.1.other W105 (Ne.symm ne1))
  obtain ⟨cl113, Ar113, hin113, up113⟩ := La.up (j := (4 : Int32)) f112 ⟨by decide, by decide⟩
  obtain ⟨T114, h114, X114, e114, W114, st114⟩ := stI X110 hx hZ hh110 Ar113 (j := (4 : Int32)) hin113 (g := (mkF m 78 #[.val (.ref a1), .val (.ref ak), .val (.int s1), .val .null, .val (.int (1 : Int32))] [(.int j), (.int (4 : Int32)), (.ref br)])) rfl rfl (hb hby dc4_78)
  have A114 : La Z h114 br .int (64 : Int32) (xs.set ((4 : Int32)).toNatClampNeg j) := up113 _ (by first | rfl | decide) _ W114
  have N114 := Fr.snoc X114 N110 g2
  have f115 := (f106.other W114 (Or.inl ne1))
  obtain ⟨T116, X116, e116, st116⟩ := getF X114 hx hZ hown (host := "") (Or.inl (hw _ (List.mem_of_getElem? (i := 19) rfl))) Via.refl e114 f115 (g := (mkF m 80 #[.val (.ref a1), .val (.ref ak), .val (.int s1), .val .null, .val (.int (1 : Int32))] [(.ref a1)])) rfl rfl (hb hby dc4_80)
  obtain ⟨cl117, Ar117, hin117, up117⟩ := La.up (j := (5 : Int32)) A114 ⟨by decide, by decide⟩
  obtain ⟨T118, h118, X118, e118, W118, st118⟩ := stI X116 hx hZ e116 Ar117 (j := (5 : Int32)) hin117 (g := (mkF m 90 #[.val (.ref a1), .val (.ref ak), .val (.int s1), .val .null, .val (.int (1 : Int32))] [(.int s1), (.int (5 : Int32)), (.ref br)])) rfl rfl (hb hby dc4_90)
  have A118 : La Z h118 br .int (64 : Int32) ((xs.set ((4 : Int32)).toNatClampNeg j).set ((5 : Int32)).toNatClampNeg s1) := up117 _ (by first | rfl | decide) _ W118
  have N118 := Fr.snoc X118 N114 g2
  have f119 := (((tp0.2.2.2.1.other W105 (Or.inr (slot_ne (Or.inl (hw _ (List.mem_of_getElem? (i := 24) rfl))) (Or.inl (hw _ (List.mem_of_getElem? (i := 33) rfl))) (by decide) (t := (.array (.object "java/lang/String"))) (t' := .int) (by decide) (by decide)))).other W114 (Or.inl ne1)).other W118 (Or.inl ne1))
  obtain ⟨T120, X120, e120, st120⟩ := getF X118 hx hZ hown (host := "") (Or.inl (hw _ (List.mem_of_getElem? (i := 23) rfl))) Via.refl e118 f119 (g := (mkF m 92 #[.val (.ref a1), .val (.ref ak), .val (.int s1), .val .null, .val (.int (1 : Int32))] [(.ref a1)])) rfl rfl (hb hby dc4_92)
  have f121 := (((tp0.2.2.2.2.2.2.2.other W105 (Ne.symm ne2)).other W114 (Ne.symm ne3)).other W118 (Ne.symm ne3))
  obtain ⟨cl122, Ar122, S122⟩ := id f121
  have hin122 : ¬ ((1 : Int32) < 0 ∨ cl122.slots.size ≤ ((1 : Int32)).toNatClampNeg) := by rw [S122]; decide
  obtain ⟨T123, h123, X123, e123, W123, st123⟩ := Jvm.RoadKit.stR X120 hx hZ e120 Ar122 (j := (1 : Int32)) (v := .null) hin122 rfl (Or.inl rfl) (g := (mkF m 98 #[.val (.ref a1), .val (.ref ak), .val (.int s1), .val .null, .val (.int (1 : Int32))] [.null, (.int (1 : Int32)), (.ref bn)])) rfl rfl (hb hby dc4_98)
  have V123 : Nm Z h123 bn := Nm.set Ar122 S122 W123
  have N123 := Fr.snoc X123 N118 g3
  obtain ⟨fs, hr, hrun, hended, hW, hsame⟩ := X123.leave (v := some (.int (1 : Int32))) (fun h => by rw [Bd.returns] at h; cases h)
  have K124 : Keep h0 h123 [a1, br, bn] := (Keep.wr (Keep.wr (Keep.wr (Keep.wr (Keep.refl h0 [a1, br, bn]) W105 (Or.inl (List.mem_of_getElem? (i := 0) rfl))) W114 (Or.inl (List.mem_of_getElem? (i := 1) rfl))) W118 (Or.inl (List.mem_of_getElem? (i := 1) rfl))) W123 (Or.inl (List.mem_of_getElem? (i := 2) rfl)))
  have f125 := ((((tp0.1.wr W105).wr W114).wr W118).wr W123)
  have f126 := ((((tp0.2.1.other W105 (Or.inr (slot_ne (Or.inl (hw _ (List.mem_of_getElem? (i := 31) rfl))) (Or.inl (hw _ (List.mem_of_getElem? (i := 33) rfl))) (by decide) (t := (.array .byte)) (t' := .int) (by decide) (by decide)))).other W114 (Or.inl ne1)).other W118 (Or.inl ne1)).other W123 (Or.inl ne2))
  have f127 := ((f115.other W118 (Or.inl ne1)).other W123 (Or.inl ne2))
  have f128 := (f119.other W123 (Or.inl ne2))
  have f129 := (((Fw105.other W114 (Or.inl ne1)).other W118 (Or.inl ne1)).other W123 (Or.inl ne2))
  have f130 := ((((tp0.2.2.2.2.2.1.other W105 (Or.inr (slot_ne (Or.inl (hw _ (List.mem_of_getElem? (i := 35) rfl))) (Or.inl (hw _ (List.mem_of_getElem? (i := 33) rfl))) (by decide) (t := .int) (t' := .int) (by decide) (by decide)))).other W114 (Or.inl ne1)).other W118 (Or.inl ne1)).other W123 (Or.inl ne2))
  have f131 := (A118.other W123 ne3)
  refine ⟨_, _, pre0 _ ?_, hrun, hended, _, _, rfl, ?_, ⟨_, rfl⟩, hW, hsame.mono (by decide) (by decide)⟩
  · skip
    show Steps p.tables e below (s₁.setTop (mkF m 0 #[.val (.ref a1), .val (.ref ak), .val (.int s1), .val .null, .unset] [])) _
    refine XS.aloadN X0.here hx rfl (hb hby dc4_0) rfl rfl ?_
    show Steps p.tables e below (s₁.setTop (mkF m 1 #[.val (.ref a1), .val (.ref ak), .val (.int s1), .val .null, .unset] [(.ref a1)])) _
    refine st101 _ ?_
    show Steps p.tables e below (T101.setTop (mkF m 4 #[.val (.ref a1), .val (.ref ak), .val (.int s1), .val .null, .unset] [(.int (1 : Int32))])) _
    refine XS.aloadN X101.here hx rfl (hb hby dc4_4) rfl rfl ?_
    show Steps p.tables e below (T101.setTop (mkF m 5 #[.val (.ref a1), .val (.ref ak), .val (.int s1), .val .null, .unset] [(.ref a1), (.int (1 : Int32))])) _
    refine st102 _ ?_
    show Steps p.tables e below (T102.setTop (mkF m 8 #[.val (.ref a1), .val (.ref ak), .val (.int s1), .val .null, .unset] [(.ref bn), (.int (1 : Int32))])) _
    refine X102.arraylength hx (by rw [e102]; exact Ar103.1) (State.isArrayOf_alike hZ.alike Ar103.2.1) (g := (mkF m 8 #[.val (.ref a1), .val (.ref ak), .val (.int s1), .val .null, .unset] [(.ref bn), (.int (1 : Int32))])) rfl rfl (hb hby dc4_8) _ ?_
    rw [len_of S103 (by decide)]
    show Steps p.tables e below (T102.setTop (mkF m 9 #[.val (.ref a1), .val (.ref ak), .val (.int s1), .val .null, .unset] [(.int (16 : Int32)), (.int (1 : Int32))])) _
    refine XS.icmpYes X102.here hx rfl (pc0 := 9) (pc' := 51) rfl (hb hby dc4_9) rfl (by decide) (by decide) (by decide) ?_
    show Steps p.tables e below (T102.setTop (mkF m 51 #[.val (.ref a1), .val (.ref ak), .val (.int s1), .val .null, .unset] [])) _
    refine XS.aloadN X102.here hx rfl (hb hby dc4_51) rfl rfl ?_
    show Steps p.tables e below (T102.setTop (mkF m 52 #[.val (.ref a1), .val (.ref ak), .val (.int s1), .val .null, .unset] [(.ref a1)])) _
    refine XS.dup X102.here hx rfl (hb hby dc4_52) rfl rfl ?_
    show Steps p.tables e below (T102.setTop (mkF m 53 #[.val (.ref a1), .val (.ref ak), .val (.int s1), .val .null, .unset] [(.ref a1), (.ref a1)])) _
    refine st104 _ ?_
    show Steps p.tables e below (T104.setTop (mkF m 56 #[.val (.ref a1), .val (.ref ak), .val (.int s1), .val .null, .unset] [(.int (1 : Int32)), (.ref a1)])) _
    refine XS.dupX1 X104.here hx rfl (hb hby dc4_56) rfl rfl rfl ?_
    show Steps p.tables e below (T104.setTop (mkF m 57 #[.val (.ref a1), .val (.ref ak), .val (.int s1), .val .null, .unset] [(.int (1 : Int32)), (.ref a1), (.int (1 : Int32))])) _
    refine XS.iconst X104.here hx rfl (hb hby dc4_57) ?_
    show Steps p.tables e below (T104.setTop (mkF m 58 #[.val (.ref a1), .val (.ref ak), .val (.int s1), .val .null, .unset] [(.int (1 : Int32)), (.int (1 : Int32)), (.ref a1), (.int (1 : Int32))])) _
    refine XS.iadd X104.here hx rfl (hb hby dc4_58) rfl ?_
    show Steps p.tables e below (T104.setTop (mkF m 59 #[.val (.ref a1), .val (.ref ak), .val (.int s1), .val .null, .unset] [(.int (2 : Int32)), (.ref a1), (.int (1 : Int32))])) _
    refine st105 _ ?_
    show Steps p.tables e below (T105.setTop (mkF m 62 #[.val (.ref a1), .val (.ref ak), .val (.int s1), .val .null, .unset] [(.int (1 : Int32))])) _
    refine XS.istore X105.here hx rfl (hb hby dc4_62) rfl (l' := #[.val (.ref a1), .val (.ref ak), .val (.int s1), .val .null, .val (.int (1 : Int32))]) rfl ?_
    show Steps p.tables e below (T105.setTop (mkF m 64 #[.val (.ref a1), .val (.ref ak), .val (.int s1), .val .null, .val (.int (1 : Int32))] [])) _
    refine XS.aloadN X105.here hx rfl (hb hby dc4_64) rfl rfl ?_
    show Steps p.tables e below (T105.setTop (mkF m 65 #[.val (.ref a1), .val (.ref ak), .val (.int s1), .val .null, .val (.int (1 : Int32))] [(.ref a1)])) _
    refine st107 _ ?_
    show Steps p.tables e below (T107.setTop (mkF m 68 #[.val (.ref a1), .val (.ref ak), .val (.int s1), .val .null, .val (.int (1 : Int32))] [(.ref br)])) _
    refine XS.iconst X107.here hx rfl (hb hby dc4_68) ?_
    show Steps p.tables e below (T107.setTop (mkF m 69 #[.val (.ref a1), .val (.ref ak), .val (.int s1), .val .null, .val (.int (1 : Int32))] [(.int (4 : Int32)), (.ref br)])) _
    refine XS.iload X107.here hx rfl (hb hby dc4_69) rfl ?_
    show Steps p.tables e below (T107.setTop (mkF m 71 #[.val (.ref a1), .val (.ref ak), .val (.int s1), .val .null, .val (.int (1 : Int32))] [(.int (1 : Int32)), (.int (4 : Int32)), (.ref br)])) _
    refine XS.imul X107.here hx rfl (hb hby dc4_71) rfl ?_
    show Steps p.tables e below (T107.setTop (mkF m 72 #[.val (.ref a1), .val (.ref ak), .val (.int s1), .val .null, .val (.int (1 : Int32))] [(.int (4 : Int32)), (.ref br)])) _
    refine XS.iconst X107.here hx rfl (hb hby dc4_72) ?_
    show Steps p.tables e below (T107.setTop (mkF m 73 #[.val (.ref a1), .val (.ref ak), .val (.int s1), .val .null, .val (.int (1 : Int32))] [(.int (0 : Int32)), (.int (4 : Int32)), (.ref br)])) _
    refine XS.iadd X107.here hx rfl (hb hby dc4_73) rfl ?_
    show Steps p.tables e below (T107.setTop (mkF m 74 #[.val (.ref a1), .val (.ref ak), .val (.int s1), .val .null, .val (.int (1 : Int32))] [(.int (4 : Int32)), (.ref br)])) _
    refine XS.aloadN X107.here hx rfl (hb hby dc4_74) rfl rfl ?_
    show Steps p.tables e below (T107.setTop (mkF m 75 #[.val (.ref a1), .val (.ref ak), .val (.int s1), .val .null, .val (.int (1 : Int32))] [(.ref ak), (.int (4 : Int32)), (.ref br)])) _
    refine st110.trans ?_
    show Steps p.tables e below (T110.setTop (mkF m 78 #[.val (.ref a1), .val (.ref ak), .val (.int s1), .val .null, .val (.int (1 : Int32))] [(.int j), (.int (4 : Int32)), (.ref br)])) _
    refine st114 _ ?_
    show Steps p.tables e below (T114.setTop (mkF m 79 #[.val (.ref a1), .val (.ref ak), .val (.int s1), .val .null, .val (.int (1 : Int32))] [])) _
    refine XS.aloadN X114.here hx rfl (hb hby dc4_79) rfl rfl ?_
    show Steps p.tables e below (T114.setTop (mkF m 80 #[.val (.ref a1), .val (.ref ak), .val (.int s1), .val .null, .val (.int (1 : Int32))] [(.ref a1)])) _
    refine st116 _ ?_
    show Steps p.tables e below (T116.setTop (mkF m 83 #[.val (.ref a1), .val (.ref ak), .val (.int s1), .val .null, .val (.int (1 : Int32))] [(.ref br)])) _
    refine XS.iconst X116.here hx rfl (hb hby dc4_83) ?_
    show Steps p.tables e below (T116.setTop (mkF m 84 #[.val (.ref a1), .val (.ref ak), .val (.int s1), .val .null, .val (.int (1 : Int32))] [(.int (4 : Int32)), (.ref br)])) _
    refine XS.iload X116.here hx rfl (hb hby dc4_84) rfl ?_
    show Steps p.tables e below (T116.setTop (mkF m 86 #[.val (.ref a1), .val (.ref ak), .val (.int s1), .val .null, .val (.int (1 : Int32))] [(.int (1 : Int32)), (.int (4 : Int32)), (.ref br)])) _
    refine XS.imul X116.here hx rfl (hb hby dc4_86) rfl ?_
    show Steps p.tables e below (T116.setTop (mkF m 87 #[.val (.ref a1), .val (.ref ak), .val (.int s1), .val .null, .val (.int (1 : Int32))] [(.int (4 : Int32)), (.ref br)])) _
    refine XS.iconst X116.here hx rfl (hb hby dc4_87) ?_
    show Steps p.tables e below (T116.setTop (mkF m 88 #[.val (.ref a1), .val (.ref ak), .val (.int s1), .val .null, .val (.int (1 : Int32))] [(.int (1 : Int32)), (.int (4 : Int32)), (.ref br)])) _
    refine XS.iadd X116.here hx rfl (hb hby dc4_88) rfl ?_
    show Steps p.tables e below (T116.setTop (mkF m 89 #[.val (.ref a1), .val (.ref ak), .val (.int s1), .val .null, .val (.int (1 : Int32))] [(.int (5 : Int32)), (.ref br)])) _
    refine XS.iloadN X116.here hx rfl (hb hby dc4_89) rfl ?_
    show Steps p.tables e below (T116.setTop (mkF m 90 #[.val (.ref a1), .val (.ref ak), .val (.int s1), .val .null, .val (.int (1 : Int32))] [(.int s1), (.int (5 : Int32)), (.ref br)])) _
    refine st118 _ ?_
    show Steps p.tables e below (T118.setTop (mkF m 91 #[.val (.ref a1), .val (.ref ak), .val (.int s1), .val .null, .val (.int (1 : Int32))] [])) _
    refine XS.aloadN X118.here hx rfl (hb hby dc4_91) rfl rfl ?_
    show Steps p.tables e below (T118.setTop (mkF m 92 #[.val (.ref a1), .val (.ref ak), .val (.int s1), .val .null, .val (.int (1 : Int32))] [(.ref a1)])) _
    refine st120 _ ?_
    show Steps p.tables e below (T120.setTop (mkF m 95 #[.val (.ref a1), .val (.ref ak), .val (.int s1), .val .null, .val (.int (1 : Int32))] [(.ref bn)])) _
    refine XS.iload X120.here hx rfl (hb hby dc4_95) rfl ?_
    show Steps p.tables e below (T120.setTop (mkF m 97 #[.val (.ref a1), .val (.ref ak), .val (.int s1), .val .null, .val (.int (1 : Int32))] [(.int (1 : Int32)), (.ref bn)])) _
    refine XS.aloadN X120.here hx rfl (hb hby dc4_97) rfl rfl ?_
    show Steps p.tables e below (T120.setTop (mkF m 98 #[.val (.ref a1), .val (.ref ak), .val (.int s1), .val .null, .val (.int (1 : Int32))] [.null, (.int (1 : Int32)), (.ref bn)])) _
    refine st123 _ ?_
    show Steps p.tables e below (T123.setTop (mkF m 99 #[.val (.ref a1), .val (.ref ak), .val (.int s1), .val .null, .val (.int (1 : Int32))] [])) _
    refine XS.iload X123.here hx rfl (hb hby dc4_99) rfl ?_
    show Steps p.tables e below (T123.setTop (mkF m 101 #[.val (.ref a1), .val (.ref ak), .val (.int s1), .val .null, .val (.int (1 : Int32))] [(.int (1 : Int32))])) _
    exact retI X123 hx Bd.returns (hb hby dc4_101) hr
  · show Q_ad1 Z a1 br bn src gen j s1 xs h0 n0 _ T123.heap _
    rw [e123]
    exact ⟨rfl, N123, K124, ⟨f125, f126, f127, f128, f129, f130, f131, V123⟩⟩
def Q_te (Z : State) (a1 br bn : Addr) (src : Value) (gen cn j s1 e1 z1 : Int32) (h0 : Heap) (n0 : Nat) (v : Option Value) (h : Heap) (L : List Loc) : Prop := v = none ∧ Fr n0 L ∧ Keep h0 h [br] ∧ ∃ (xs' : List Int32) (r0 : Int32), Tp Z h a1 br bn src cn gen xs' ∧ Rec xs' r0 s1 e1 cn ∧ (z1 = (0 : Int32) ∧ r0 = j ∨ ¬ z1 = (0 : Int32) ∧ r0 = (j ||| 8))
theorem ef_4 (m : MethodId) (x0 : Addr) (x1 : Int32) (x2 : Int32) (x3 : Int32) : entryFrame m #[(.ref x0), (.int x1), (.int x2), (.int x3)] 4 = mkF m 0 #[.val (.ref x0), .val (.int x1), .val (.int x2), .val (.int x3)] [] := by first | (simp [entryFrame, mkF, argsToLocals, Value.category]; done) | rfl
theorem dc5_0 : decode prog_50_method_4_code 0 = .ok (.iload_n 3, 1) := by decide +kernel
theorem dc5_1 : decode prog_50_method_4_code 1 = .ok (.ifCond .eq 18, 3) := by decide +kernel
theorem dc5_19 : decode prog_50_method_4_code 19 = .ok (.aload_n 0, 1) := by decide +kernel
theorem dc5_20 : decode prog_50_method_4_code 20 = .ok (.getfield 9, 3) := by decide +kernel
theorem dc5_23 : decode prog_50_method_4_code 23 = .ok (.iconst 4, 1) := by decide +kernel
theorem dc5_24 : decode prog_50_method_4_code 24 = .ok (.iload_n 1, 1) := by decide +kernel
theorem dc5_25 : decode prog_50_method_4_code 25 = .ok (.imul, 1) := by decide +kernel
theorem dc5_26 : decode prog_50_method_4_code 26 = .ok (.iconst 2, 1) := by decide +kernel
theorem dc5_27 : decode prog_50_method_4_code 27 = .ok (.iadd, 1) := by decide +kernel
theorem dc5_28 : decode prog_50_method_4_code 28 = .ok (.iload_n 2, 1) := by decide +kernel
theorem dc5_29 : decode prog_50_method_4_code 29 = .ok (.iastore, 1) := by decide +kernel
theorem dc5_30 : decode prog_50_method_4_code 30 = .ok (.aload_n 0, 1) := by decide +kernel
theorem dc5_31 : decode prog_50_method_4_code 31 = .ok (.getfield 9, 3) := by decide +kernel
theorem dc5_34 : decode prog_50_method_4_code 34 = .ok (.iconst 4, 1) := by decide +kernel
theorem dc5_35 : decode prog_50_method_4_code 35 = .ok (.iload_n 1, 1) := by decide +kernel
theorem dc5_36 : decode prog_50_method_4_code 36 = .ok (.imul, 1) := by decide +kernel
theorem dc5_37 : decode prog_50_method_4_code 37 = .ok (.iconst 3, 1) := by decide +kernel
theorem dc5_38 : decode prog_50_method_4_code 38 = .ok (.iadd, 1) := by decide +kernel
theorem dc5_39 : decode prog_50_method_4_code 39 = .ok (.aload_n 0, 1) := by decide +kernel
theorem dc5_40 : decode prog_50_method_4_code 40 = .ok (.getfield 23, 3) := by decide +kernel
theorem dc5_43 : decode prog_50_method_4_code 43 = .ok (.iastore, 1) := by decide +kernel
theorem dc5_44 : decode prog_50_method_4_code 44 = .ok (.return_, 1) := by decide +kernel
theorem dc5_4 : decode prog_50_method_4_code 4 = .ok (.aload_n 0, 1) := by decide +kernel
theorem dc5_5 : decode prog_50_method_4_code 5 = .ok (.getfield 9, 3) := by decide +kernel
theorem dc5_8 : decode prog_50_method_4_code 8 = .ok (.iconst 4, 1) := by decide +kernel
theorem dc5_9 : decode prog_50_method_4_code 9 = .ok (.iload_n 1, 1) := by decide +kernel
theorem dc5_10 : decode prog_50_method_4_code 10 = .ok (.imul, 1) := by decide +kernel
theorem dc5_11 : decode prog_50_method_4_code 11 = .ok (.iconst 0, 1) := by decide +kernel
theorem dc5_12 : decode prog_50_method_4_code 12 = .ok (.iadd, 1) := by decide +kernel
theorem dc5_13 : decode prog_50_method_4_code 13 = .ok (.dup2, 1) := by decide +kernel
theorem dc5_14 : decode prog_50_method_4_code 14 = .ok (.iaload, 1) := by decide +kernel
theorem dc5_15 : decode prog_50_method_4_code 15 = .ok (.bipush 8, 2) := by decide +kernel
theorem dc5_17 : decode prog_50_method_4_code 17 = .ok (.ior, 1) := by decide +kernel
theorem dc5_18 : decode prog_50_method_4_code 18 = .ok (.iastore, 1) := by decide +kernel
set_option maxRecDepth 65536 in
set_option maxHeartbeats 40000000 in
theorem rmTe (l : Launch) (Z : State) (a0 : Array Value) (hw : ∀ d ∈ tables_1, d.before a0 Z = true) (ws : List Jvm.Cond) (a1 br bn : Addr) (src : Value) (gen cn j s1 e1 z1 : Int32) (xs : List Int32) (h0 : Heap) (n0 : Nat) (O0 : Old Z n0 h0) (tp0 : Tp Z h0 a1 br bn src cn gen xs) (hxs : xs.getD 0 0 = j ∧ xs.getD 1 0 = s1) (ne1 : a1 ≠ br) (ne2 : a1 ≠ bn) (ne3 : br ≠ bn) (g1 : n0 ≤ a1) (g2 : n0 ≤ br) (g3 : n0 ≤ bn) :
    MetFree l (⟨"com/example/keyfold/keyfold/JsonValue$Tape", "end", "(IIZ)V"⟩ : MethodName) (head1 (Jvm.Cond.code (⟨"com/example/keyfold/keyfold/JsonValue$Tape", "end", "(IIZ)V"⟩ : MethodName) prog_50_method_4_code 4 none :: ws) ({ frames := 0, cells := 0, slots := 0, locals := 0 } : Room)) (fun a U => a = #[(.ref a1), (.int (0 : Int32)), (.int e1), (.int z1)] ∧ Z.Warmed39 U.vm ∧ U.heap = h0) (fun _ _ _ _ _ => True) (fun _ U o U' => ∃ v L, o = .returned v ∧ Q_te Z a1 br bn src gen cn j s1 e1 z1 h0 n0 v U'.heap L ∧ FrameEnd U o U' L ({ frames := 0, cells := 0, slots := 0, locals := 0 } : Room).cells ({ frames := 0, cells := 0, slots := 0, locals := 0 } : Room).slots) := by
  refine MetFree.of_bodySF (plainFor_of_name pn_1) hisR ?_
  intro p e s m args below meth c s₁ Bd hml0 hP hK
  obtain ⟨rfl, hZ, hh⟩ := hP
  have hx := Bd.exec
  have hby := Bd.bytes
  have hml : c.maxLocals = 4 := hml0
  have hown : s.vm.findClass "com/example/keyfold/keyfold/JsonValue$Tape" = some m.cls := findClass_of_methodNamed Bd.named
  have hnm := (name_of_methodNamed Bd.named Bd.method).1
  have X0 : Stand p l e ({ frames := 0, cells := 0, slots := 0, locals := 0 } : Room) s m #[(.ref a1), (.int (0 : Int32)), (.int e1), (.int z1)] below meth c s₁ [] 0 0 := Stand.of_body Bd
  have e0 : s₁.heap = h0 := by rw [← hh, Bd.state]; rfl
  have N0 := Fr.nil n0
  have pre0 : ∀ t, Steps p.tables e below (s₁.setTop (mkF m 0 #[.val (.ref a1), .val (.int (0 : Int32)), .val (.int e1), .val (.int z1)] [])) t → Steps p.tables e below (s₁.setTop (entryFrame m #[(.ref a1), (.int (0 : Int32)), (.int e1), (.int z1)] 4)) t := fun t k => castTop (ef_4 m a1 (0 : Int32) e1 z1) k
  have hl64 : xs.length = 64 := by obtain ⟨-, -, -, -, -, -, ⟨-, -, q⟩, -⟩ := id tp0; exact q
  have pre101 : ∀ t, Steps p.tables e below (s₁.setTop (mkF m 1 #[.val (.ref a1), .val (.int (0 : Int32)), .val (.int e1), .val (.int z1)] [(.int z1)])) t → Steps p.tables e below (s₁.setTop (entryFrame m #[(.ref a1), (.int (0 : Int32)), (.int e1), (.int z1)] 4)) t := fun t kt => pre0 t (by
      show Steps p.tables e below (s₁.setTop (mkF m 0 #[.val (.ref a1), .val (.int (0 : Int32)), .val (.int e1), .val (.int z1)] [])) _
      refine XS.iloadN X0.here hx rfl (hb hby dc5_0) rfl ?_
      exact kt)
  by_cases hc102 : z1 = (0 : Int32)
  · skip
    obtain ⟨T103, X103, e103, st103⟩ := getF X0 hx hZ hown (host := "") (Or.inl (hw _ (List.mem_of_getElem? (i := 19) rfl))) Via.refl e0 tp0.2.2.1 (g := (mkF m 20 #[.val (.ref a1), .val (.int (0 : Int32)), .val (.int e1), .val (.int z1)] [(.ref a1)])) rfl rfl (hb hby dc5_20)
    obtain ⟨cl104, Ar104, hin104, up104⟩ := La.up (j := (2 : Int32)) tp0.2.2.2.2.2.2.1 ⟨by decide, by decide⟩
    obtain ⟨T105, h105, X105, e105, W105, st105⟩ := stI X103 hx hZ e103 Ar104 (j := (2 : Int32)) hin104 (g := (mkF m 29 #[.val (.ref a1), .val (.int (0 : Int32)), .val (.int e1), .val (.int z1)] [(.int e1), (.int (2 : Int32)), (.ref br)])) rfl rfl (hb hby dc5_29)
    have A105 : La Z h105 br .int (64 : Int32) (xs.set ((2 : Int32)).toNatClampNeg e1) := up104 _ (by first | rfl | decide) _ W105
    have N105 := Fr.snoc X105 N0 g2
    have f106 := (tp0.2.2.1.other W105 (Or.inl ne1))
    obtain ⟨T107, X107, e107, st107⟩ := getF X105 hx hZ hown (host := "") (Or.inl (hw _ (List.mem_of_getElem? (i := 19) rfl))) Via.refl e105 f106 (g := (mkF m 31 #[.val (.ref a1), .val (.int (0 : Int32)), .val (.int e1), .val (.int z1)] [(.ref a1)])) rfl rfl (hb hby dc5_31)
    have f108 := (tp0.2.2.2.2.1.other W105 (Or.inl ne1))
    obtain ⟨T109, X109, e109, st109⟩ := getF X107 hx hZ hown (host := "") (Or.inl (hw _ (List.mem_of_getElem? (i := 32) rfl))) Via.refl e107 f108 (g := (mkF m 40 #[.val (.ref a1), .val (.int (0 : Int32)), .val (.int e1), .val (.int z1)] [(.ref a1), (.int (3 : Int32)), (.ref br)])) rfl rfl (hb hby dc5_40)
    obtain ⟨cl110, Ar110, hin110, up110⟩ := La.up (j := (3 : Int32)) A105 ⟨by decide, by decide⟩
    obtain ⟨T111, h111, X111, e111, W111, st111⟩ := stI X109 hx hZ e109 Ar110 (j := (3 : Int32)) hin110 (g := (mkF m 43 #[.val (.ref a1), .val (.int (0 : Int32)), .val (.int e1), .val (.int z1)] [(.int cn), (.int (3 : Int32)), (.ref br)])) rfl rfl (hb hby dc5_43)
    have A111 : La Z h111 br .int (64 : Int32) ((xs.set ((2 : Int32)).toNatClampNeg e1).set ((3 : Int32)).toNatClampNeg cn) := up110 _ (by first | rfl | decide) _ W111
    have N111 := Fr.snoc X111 N105 g2
    obtain ⟨fs, hr, hrun, hended, hW, hsame⟩ := X111.leave (v := none) (fun _ => rfl)
    have K112 : Keep h0 h111 [br] := (Keep.wr (Keep.wr (Keep.refl h0 [br]) W105 (Or.inl (List.mem_of_getElem? (i := 0) rfl))) W111 (Or.inl (List.mem_of_getElem? (i := 0) rfl)))
    have f113 := ((tp0.1.wr W105).wr W111)
    have f114 := ((tp0.2.1.other W105 (Or.inl ne1)).other W111 (Or.inl ne1))
    have f115 := (f106.other W111 (Or.inl ne1))
    have f116 := ((tp0.2.2.2.1.other W105 (Or.inl ne1)).other W111 (Or.inl ne1))
    have f117 := (f108.other W111 (Or.inl ne1))
    have f118 := ((tp0.2.2.2.2.2.1.other W105 (Or.inl ne1)).other W111 (Or.inl ne1))
    have f119 := ((tp0.2.2.2.2.2.2.2.other W105 (Ne.symm ne3)).other W111 (Ne.symm ne3))
    refine ⟨_, _, pre101 _ ?_, hrun, hended, _, _, rfl, ?_, ⟨_, rfl⟩, hW, hsame.mono (by decide) (by decide)⟩
    · skip
      show Steps p.tables e below (s₁.setTop (mkF m 1 #[.val (.ref a1), .val (.int (0 : Int32)), .val (.int e1), .val (.int z1)] [(.int z1)])) _
      refine XS.ifYes X0.here hx rfl (pc0 := 1) (pc' := 19) rfl (hb hby dc5_1) rfl ((if0 _ _).trans (teq hc102).1) (by decide) (by decide) ?_
      show Steps p.tables e below (s₁.setTop (mkF m 19 #[.val (.ref a1), .val (.int (0 : Int32)), .val (.int e1), .val (.int z1)] [])) _
      refine XS.aloadN X0.here hx rfl (hb hby dc5_19) rfl rfl ?_
      show Steps p.tables e below (s₁.setTop (mkF m 20 #[.val (.ref a1), .val (.int (0 : Int32)), .val (.int e1), .val (.int z1)] [(.ref a1)])) _
      refine st103 _ ?_
      show Steps p.tables e below (T103.setTop (mkF m 23 #[.val (.ref a1), .val (.int (0 : Int32)), .val (.int e1), .val (.int z1)] [(.ref br)])) _
      refine XS.iconst X103.here hx rfl (hb hby dc5_23) ?_
      show Steps p.tables e below (T103.setTop (mkF m 24 #[.val (.ref a1), .val (.int (0 : Int32)), .val (.int e1), .val (.int z1)] [(.int (4 : Int32)), (.ref br)])) _
      refine XS.iloadN X103.here hx rfl (hb hby dc5_24) rfl ?_
      show Steps p.tables e below (T103.setTop (mkF m 25 #[.val (.ref a1), .val (.int (0 : Int32)), .val (.int e1), .val (.int z1)] [(.int (0 : Int32)), (.int (4 : Int32)), (.ref br)])) _
      refine XS.imul X103.here hx rfl (hb hby dc5_25) rfl ?_
      show Steps p.tables e below (T103.setTop (mkF m 26 #[.val (.ref a1), .val (.int (0 : Int32)), .val (.int e1), .val (.int z1)] [(.int (0 : Int32)), (.ref br)])) _
      refine XS.iconst X103.here hx rfl (hb hby dc5_26) ?_
      show Steps p.tables e below (T103.setTop (mkF m 27 #[.val (.ref a1), .val (.int (0 : Int32)), .val (.int e1), .val (.int z1)] [(.int (2 : Int32)), (.int (0 : Int32)), (.ref br)])) _
      refine XS.iadd X103.here hx rfl (hb hby dc5_27) rfl ?_
      show Steps p.tables e below (T103.setTop (mkF m 28 #[.val (.ref a1), .val (.int (0 : Int32)), .val (.int e1), .val (.int z1)] [(.int (2 : Int32)), (.ref br)])) _
      refine XS.iloadN X103.here hx rfl (hb hby dc5_28) rfl ?_
      show Steps p.tables e below (T103.setTop (mkF m 29 #[.val (.ref a1), .val (.int (0 : Int32)), .val (.int e1), .val (.int z1)] [(.int e1), (.int (2 : Int32)), (.ref br)])) _
      refine st105 _ ?_
      show Steps p.tables e below (T105.setTop (mkF m 30 #[.val (.ref a1), .val (.int (0 : Int32)), .val (.int e1), .val (.int z1)] [])) _
      refine XS.aloadN X105.here hx rfl (hb hby dc5_30) rfl rfl ?_
      show Steps p.tables e below (T105.setTop (mkF m 31 #[.val (.ref a1), .val (.int (0 : Int32)), .val (.int e1), .val (.int z1)] [(.ref a1)])) _
      refine st107 _ ?_
      show Steps p.tables e below (T107.setTop (mkF m 34 #[.val (.ref a1), .val (.int (0 : Int32)), .val (.int e1), .val (.int z1)] [(.ref br)])) _
      refine XS.iconst X107.here hx rfl (hb hby dc5_34) ?_
      show Steps p.tables e below (T107.setTop (mkF m 35 #[.val (.ref a1), .val (.int (0 : Int32)), .val (.int e1), .val (.int z1)] [(.int (4 : Int32)), (.ref br)])) _
      refine XS.iloadN X107.here hx rfl (hb hby dc5_35) rfl ?_
      show Steps p.tables e below (T107.setTop (mkF m 36 #[.val (.ref a1), .val (.int (0 : Int32)), .val (.int e1), .val (.int z1)] [(.int (0 : Int32)), (.int (4 : Int32)), (.ref br)])) _
      refine XS.imul X107.here hx rfl (hb hby dc5_36) rfl ?_
      show Steps p.tables e below (T107.setTop (mkF m 37 #[.val (.ref a1), .val (.int (0 : Int32)), .val (.int e1), .val (.int z1)] [(.int (0 : Int32)), (.ref br)])) _
      refine XS.iconst X107.here hx rfl (hb hby dc5_37) ?_
      show Steps p.tables e below (T107.setTop (mkF m 38 #[.val (.ref a1), .val (.int (0 : Int32)), .val (.int e1), .val (.int z1)] [(.int (3 : Int32)), (.int (0 : Int32)), (.ref br)])) _
      refine XS.iadd X107.here hx rfl (hb hby dc5_38) rfl ?_
      show Steps p.tables e below (T107.setTop (mkF m 39 #[.val (.ref a1), .val (.int (0 : Int32)), .val (.int e1), .val (.int z1)] [(.int (3 : Int32)), (.ref br)])) _
      refine XS.aloadN X107.here hx rfl (hb hby dc5_39) rfl rfl ?_
      show Steps p.tables e below (T107.setTop (mkF m 40 #[.val (.ref a1), .val (.int (0 : Int32)), .val (.int e1), .val (.int z1)] [(.ref a1), (.int (3 : Int32)), (.ref br)])) _
      refine st109 _ ?_
      show Steps p.tables e below (T109.setTop (mkF m 43 #[.val (.ref a1), .val (.int (0 : Int32)), .val (.int e1), .val (.int z1)] [(.int cn), (.int (3 : Int32)), (.ref br)])) _
      refine st111 _ ?_
      show Steps p.tables e below (T111.setTop (mkF m 44 #[.val (.ref a1), .val (.int (0 : Int32)), .val (.int e1), .val (.int z1)] [])) _
      exact X111.returnOut hx Bd.returns (hb hby dc5_44) hr
    · show Q_te Z a1 br bn src gen cn j s1 e1 z1 h0 n0 _ T111.heap _
      rw [e111]
      exact ⟨rfl, N111, K112, _, _, ⟨f113, f114, f115, f116, f117, f118, A111, f119⟩, (own_end0 (cn := cn) (e1 := e1) hl64 hxs.1 hxs.2), Or.inl ⟨hc102, rfl⟩⟩
  · skip
    obtain ⟨T120, X120, e120, st120⟩ := getF X0 hx hZ hown (host := "") (Or.inl (hw _ (List.mem_of_getElem? (i := 19) rfl))) Via.refl e0 tp0.2.2.1 (g := (mkF m 5 #[.val (.ref a1), .val (.int (0 : Int32)), .val (.int e1), .val (.int z1)] [(.ref a1)])) rfl rfl (hb hby dc5_5)
    obtain ⟨cl121, Ar121, hin121, hat121⟩ := La.at (j := (0 : Int32)) tp0.2.2.2.2.2.2.1 ⟨by decide, by decide⟩
    obtain ⟨cl122, Ar122, hin122, up122⟩ := La.up (j := (0 : Int32)) tp0.2.2.2.2.2.2.1 ⟨by decide, by decide⟩
    obtain ⟨T123, h123, X123, e123, W123, st123⟩ := stI X120 hx hZ e120 Ar122 (j := (0 : Int32)) hin122 (g := (mkF m 18 #[.val (.ref a1), .val (.int (0 : Int32)), .val (.int e1), .val (.int z1)] [(.int ((xs.getD ((0 : Int32)).toNatClampNeg 0) ||| (8 : Int32))), (.int (0 : Int32)), (.ref br)])) rfl rfl (hb hby dc5_18)
    have A123 : La Z h123 br .int (64 : Int32) (xs.set ((0 : Int32)).toNatClampNeg ((xs.getD ((0 : Int32)).toNatClampNeg 0) ||| (8 : Int32))) := up122 _ (by first | rfl | decide) _ W123
    have N123 := Fr.snoc X123 N0 g2
    have f124 := (tp0.2.2.1.other W123 (Or.inl ne1))
    obtain ⟨T125, X125, e125, st125⟩ := getF X123 hx hZ hown (host := "") (Or.inl (hw _ (List.mem_of_getElem? (i := 19) rfl))) Via.refl e123 f124 (g := (mkF m 20 #[.val (.ref a1), .val (.int (0 : Int32)), .val (.int e1), .val (.int z1)] [(.ref a1)])) rfl rfl (hb hby dc5_20)
    obtain ⟨cl126, Ar126, hin126, up126⟩ := La.up (j := (2 : Int32)) A123 ⟨by decide, by decide⟩
    obtain ⟨T127, h127, X127, e127, W127, st127⟩ := stI X125 hx hZ e125 Ar126 (j := (2 : Int32)) hin126 (g := (mkF m 29 #[.val (.ref a1), .val (.int (0 : Int32)), .val (.int e1), .val (.int z1)] [(.int e1), (.int (2 : Int32)), (.ref br)])) rfl rfl (hb hby dc5_29)
    have A127 : La Z h127 br .int (64 : Int32) ((xs.set ((0 : Int32)).toNatClampNeg ((xs.getD ((0 : Int32)).toNatClampNeg 0) ||| (8 : Int32))).set ((2 : Int32)).toNatClampNeg e1) := up126 _ (by first | rfl | decide) _ W127
    have N127 := Fr.snoc X127 N123 g2
    have f128 := (f124.other W127 (Or.inl ne1))
    obtain ⟨T129, X129, e129, st129⟩ := getF X127 hx hZ hown (host := "") (Or.inl (hw _ (List.mem_of_getElem? (i := 19) rfl))) Via.refl e127 f128 (g := (mkF m 31 #[.val (.ref a1), .val (.int (0 : Int32)), .val (.int e1), .val (.int z1)] [(.ref a1)])) rfl rfl (hb hby dc5_31)
    have f130 := ((tp0.2.2.2.2.1.other W123 (Or.inl ne1)).other W127 (Or.inl ne1))
    obtain ⟨T131, X131, e131, st131⟩ := getF X129 hx hZ hown (host := "") (Or.inl (hw _ (List.mem_of_getElem? (i := 32) rfl))) Via.refl e129 f130 (g := (mkF m 40 #[.val (.ref a1), .val (.int (0 : Int32)), .val (.int e1), .val (.int z1)] [(.ref a1), (.int (3 : Int32)), (.ref br)])) rfl rfl (hb hby dc5_40)
    obtain ⟨cl132, Ar132, hin132, up132⟩ := La.up (j := (3 : Int32)) A127 ⟨by decide, by decide⟩
    obtain ⟨T133, h133, X133, e133, W133, st133⟩ := stI X131 hx hZ e131 Ar132 (j := (3 : Int32)) hin132 (g := (mkF m 43 #[.val (.ref a1), .val (.int (0 : Int32)), .val (.int e1), .val (.int z1)] [(.int cn), (.int (3 : Int32)), (.ref br)])) rfl rfl (hb hby dc5_43)
    have A133 : La Z h133 br .int (64 : Int32) (((xs.set ((0 : Int32)).toNatClampNeg ((xs.getD ((0 : Int32)).toNatClampNeg 0) ||| (8 : Int32))).set ((2 : Int32)).toNatClampNeg e1).set ((3 : Int32)).toNatClampNeg cn) := up132 _ (by first | rfl | decide) _ W133
    have N133 := Fr.snoc X133 N127 g2
    obtain ⟨fs, hr, hrun, hended, hW, hsame⟩ := X133.leave (v := none) (fun _ => rfl)
    have K134 : Keep h0 h133 [br] := (Keep.wr (Keep.wr (Keep.wr (Keep.refl h0 [br]) W123 (Or.inl (List.mem_of_getElem? (i := 0) rfl))) W127 (Or.inl (List.mem_of_getElem? (i := 0) rfl))) W133 (Or.inl (List.mem_of_getElem? (i := 0) rfl)))
    have f135 := (((tp0.1.wr W123).wr W127).wr W133)
    have f136 := (((tp0.2.1.other W123 (Or.inl ne1)).other W127 (Or.inl ne1)).other W133 (Or.inl ne1))
    have f137 := (f128.other W133 (Or.inl ne1))
    have f138 := (((tp0.2.2.2.1.other W123 (Or.inl ne1)).other W127 (Or.inl ne1)).other W133 (Or.inl ne1))
    have f139 := (f130.other W133 (Or.inl ne1))
    have f140 := (((tp0.2.2.2.2.2.1.other W123 (Or.inl ne1)).other W127 (Or.inl ne1)).other W133 (Or.inl ne1))
    have f141 := (((tp0.2.2.2.2.2.2.2.other W123 (Ne.symm ne3)).other W127 (Ne.symm ne3)).other W133 (Ne.symm ne3))
    refine ⟨_, _, pre101 _ ?_, hrun, hended, _, _, rfl, ?_, ⟨_, rfl⟩, hW, hsame.mono (by decide) (by decide)⟩
    · skip
      show Steps p.tables e below (s₁.setTop (mkF m 1 #[.val (.ref a1), .val (.int (0 : Int32)), .val (.int e1), .val (.int z1)] [(.int z1)])) _
      refine XS.ifNo X0.here hx rfl (hb hby dc5_1) rfl ((if0 _ _).trans (feq hc102).1) ?_
      show Steps p.tables e below (s₁.setTop (mkF m 4 #[.val (.ref a1), .val (.int (0 : Int32)), .val (.int e1), .val (.int z1)] [])) _
      refine XS.aloadN X0.here hx rfl (hb hby dc5_4) rfl rfl ?_
      show Steps p.tables e below (s₁.setTop (mkF m 5 #[.val (.ref a1), .val (.int (0 : Int32)), .val (.int e1), .val (.int z1)] [(.ref a1)])) _
      refine st120 _ ?_
      show Steps p.tables e below (T120.setTop (mkF m 8 #[.val (.ref a1), .val (.int (0 : Int32)), .val (.int e1), .val (.int z1)] [(.ref br)])) _
      refine XS.iconst X120.here hx rfl (hb hby dc5_8) ?_
      show Steps p.tables e below (T120.setTop (mkF m 9 #[.val (.ref a1), .val (.int (0 : Int32)), .val (.int e1), .val (.int z1)] [(.int (4 : Int32)), (.ref br)])) _
      refine XS.iloadN X120.here hx rfl (hb hby dc5_9) rfl ?_
      show Steps p.tables e below (T120.setTop (mkF m 10 #[.val (.ref a1), .val (.int (0 : Int32)), .val (.int e1), .val (.int z1)] [(.int (0 : Int32)), (.int (4 : Int32)), (.ref br)])) _
      refine XS.imul X120.here hx rfl (hb hby dc5_10) rfl ?_
      show Steps p.tables e below (T120.setTop (mkF m 11 #[.val (.ref a1), .val (.int (0 : Int32)), .val (.int e1), .val (.int z1)] [(.int (0 : Int32)), (.ref br)])) _
      refine XS.iconst X120.here hx rfl (hb hby dc5_11) ?_
      show Steps p.tables e below (T120.setTop (mkF m 12 #[.val (.ref a1), .val (.int (0 : Int32)), .val (.int e1), .val (.int z1)] [(.int (0 : Int32)), (.int (0 : Int32)), (.ref br)])) _
      refine XS.iadd X120.here hx rfl (hb hby dc5_12) rfl ?_
      show Steps p.tables e below (T120.setTop (mkF m 13 #[.val (.ref a1), .val (.int (0 : Int32)), .val (.int e1), .val (.int z1)] [(.int (0 : Int32)), (.ref br)])) _
      jvm_step X120.here [X120.here.top, hx, (hb hby dc5_13), Value.category]
      show Steps p.tables e below (T120.setTop (mkF m 14 #[.val (.ref a1), .val (.int (0 : Int32)), .val (.int e1), .val (.int z1)] [(.int (0 : Int32)), (.ref br), (.int (0 : Int32)), (.ref br)])) _
      refine X120.iaload hx (j := (0 : Int32)) (v := (.int (xs.getD ((0 : Int32)).toNatClampNeg 0))) (by rw [e120]; exact Ar121.1) (State.isArrayOf_alike hZ.alike Ar121.2.1) Ar121.2.2 hin121 hat121 (g := (mkF m 14 #[.val (.ref a1), .val (.int (0 : Int32)), .val (.int e1), .val (.int z1)] [(.int (0 : Int32)), (.ref br), (.int (0 : Int32)), (.ref br)])) rfl rfl (hb hby dc5_14) _ ?_
      show Steps p.tables e below (T120.setTop (mkF m 15 #[.val (.ref a1), .val (.int (0 : Int32)), .val (.int e1), .val (.int z1)] [(.int (xs.getD ((0 : Int32)).toNatClampNeg 0)), (.int (0 : Int32)), (.ref br)])) _
      refine XS.bipush X120.here hx rfl (hb hby dc5_15) ?_
      show Steps p.tables e below (T120.setTop (mkF m 17 #[.val (.ref a1), .val (.int (0 : Int32)), .val (.int e1), .val (.int z1)] [(.int (8 : Int32)), (.int (xs.getD ((0 : Int32)).toNatClampNeg 0)), (.int (0 : Int32)), (.ref br)])) _
      refine XS.ior X120.here hx rfl (hb hby dc5_17) rfl ?_
      show Steps p.tables e below (T120.setTop (mkF m 18 #[.val (.ref a1), .val (.int (0 : Int32)), .val (.int e1), .val (.int z1)] [(.int ((xs.getD ((0 : Int32)).toNatClampNeg 0) ||| (8 : Int32))), (.int (0 : Int32)), (.ref br)])) _
      refine st123 _ ?_
      show Steps p.tables e below (T123.setTop (mkF m 19 #[.val (.ref a1), .val (.int (0 : Int32)), .val (.int e1), .val (.int z1)] [])) _
      refine XS.aloadN X123.here hx rfl (hb hby dc5_19) rfl rfl ?_
      show Steps p.tables e below (T123.setTop (mkF m 20 #[.val (.ref a1), .val (.int (0 : Int32)), .val (.int e1), .val (.int z1)] [(.ref a1)])) _
      refine st125 _ ?_
      show Steps p.tables e below (T125.setTop (mkF m 23 #[.val (.ref a1), .val (.int (0 : Int32)), .val (.int e1), .val (.int z1)] [(.ref br)])) _
      refine XS.iconst X125.here hx rfl (hb hby dc5_23) ?_
      show Steps p.tables e below (T125.setTop (mkF m 24 #[.val (.ref a1), .val (.int (0 : Int32)), .val (.int e1), .val (.int z1)] [(.int (4 : Int32)), (.ref br)])) _
      refine XS.iloadN X125.here hx rfl (hb hby dc5_24) rfl ?_
      show Steps p.tables e below (T125.setTop (mkF m 25 #[.val (.ref a1), .val (.int (0 : Int32)), .val (.int e1), .val (.int z1)] [(.int (0 : Int32)), (.int (4 : Int32)), (.ref br)])) _
      refine XS.imul X125.here hx rfl (hb hby dc5_25) rfl ?_
      show Steps p.tables e below (T125.setTop (mkF m 26 #[.val (.ref a1), .val (.int (0 : Int32)), .val (.int e1), .val (.int z1)] [(.int (0 : Int32)), (.ref br)])) _
      refine XS.iconst X125.here hx rfl (hb hby dc5_26) ?_
      show Steps p.tables e below (T125.setTop (mkF m 27 #[.val (.ref a1), .val (.int (0 : Int32)), .val (.int e1), .val (.int z1)] [(.int (2 : Int32)), (.int (0 : Int32)), (.ref br)])) _
      refine XS.iadd X125.here hx rfl (hb hby dc5_27) rfl ?_
      show Steps p.tables e below (T125.setTop (mkF m 28 #[.val (.ref a1), .val (.int (0 : Int32)), .val (.int e1), .val (.int z1)] [(.int (2 : Int32)), (.ref br)])) _
      refine XS.iloadN X125.here hx rfl (hb hby dc5_28) rfl ?_
      show Steps p.tables e below (T125.setTop (mkF m 29 #[.val (.ref a1), .val (.int (0 : Int32)), .val (.int e1), .val (.int z1)] [(.int e1), (.int (2 : Int32)), (.ref br)])) _
      refine st127 _ ?_
      show Steps p.tables e below (T127.setTop (mkF m 30 #[.val (.ref a1), .val (.int (0 : Int32)), .val (.int e1), .val (.int z1)] [])) _
      refine XS.aloadN X127.here hx rfl (hb hby dc5_30) rfl rfl ?_
      show Steps p.tables e below (T127.setTop (mkF m 31 #[.val (.ref a1), .val (.int (0 : Int32)), .val (.int e1), .val (.int z1)] [(.ref a1)])) _
      refine st129 _ ?_
      show Steps p.tables e below (T129.setTop (mkF m 34 #[.val (.ref a1), .val (.int (0 : Int32)), .val (.int e1), .val (.int z1)] [(.ref br)])) _
      refine XS.iconst X129.here hx rfl (hb hby dc5_34) ?_
      show Steps p.tables e below (T129.setTop (mkF m 35 #[.val (.ref a1), .val (.int (0 : Int32)), .val (.int e1), .val (.int z1)] [(.int (4 : Int32)), (.ref br)])) _
      refine XS.iloadN X129.here hx rfl (hb hby dc5_35) rfl ?_
      show Steps p.tables e below (T129.setTop (mkF m 36 #[.val (.ref a1), .val (.int (0 : Int32)), .val (.int e1), .val (.int z1)] [(.int (0 : Int32)), (.int (4 : Int32)), (.ref br)])) _
      refine XS.imul X129.here hx rfl (hb hby dc5_36) rfl ?_
      show Steps p.tables e below (T129.setTop (mkF m 37 #[.val (.ref a1), .val (.int (0 : Int32)), .val (.int e1), .val (.int z1)] [(.int (0 : Int32)), (.ref br)])) _
      refine XS.iconst X129.here hx rfl (hb hby dc5_37) ?_
      show Steps p.tables e below (T129.setTop (mkF m 38 #[.val (.ref a1), .val (.int (0 : Int32)), .val (.int e1), .val (.int z1)] [(.int (3 : Int32)), (.int (0 : Int32)), (.ref br)])) _
      refine XS.iadd X129.here hx rfl (hb hby dc5_38) rfl ?_
      show Steps p.tables e below (T129.setTop (mkF m 39 #[.val (.ref a1), .val (.int (0 : Int32)), .val (.int e1), .val (.int z1)] [(.int (3 : Int32)), (.ref br)])) _
      refine XS.aloadN X129.here hx rfl (hb hby dc5_39) rfl rfl ?_
      show Steps p.tables e below (T129.setTop (mkF m 40 #[.val (.ref a1), .val (.int (0 : Int32)), .val (.int e1), .val (.int z1)] [(.ref a1), (.int (3 : Int32)), (.ref br)])) _
      refine st131 _ ?_
      show Steps p.tables e below (T131.setTop (mkF m 43 #[.val (.ref a1), .val (.int (0 : Int32)), .val (.int e1), .val (.int z1)] [(.int cn), (.int (3 : Int32)), (.ref br)])) _
      refine st133 _ ?_
      show Steps p.tables e below (T133.setTop (mkF m 44 #[.val (.ref a1), .val (.int (0 : Int32)), .val (.int e1), .val (.int z1)] [])) _
      exact X133.returnOut hx Bd.returns (hb hby dc5_44) hr
    · show Q_te Z a1 br bn src gen cn j s1 e1 z1 h0 n0 _ T133.heap _
      rw [e133]
      exact ⟨rfl, N133, K134, _, _, ⟨f135, f136, f137, f138, f139, f140, A133, f141⟩, (own_end1 (cn := cn) (e1 := e1) hl64 hxs.1 hxs.2), Or.inr ⟨hc102, rfl⟩⟩
def Q_ji (Z : State) (a1 t1 : Addr) (gn : Int32) (h0 : Heap) (n0 : Nat) (v : Option Value) (h : Heap) (L : List Loc) : Prop := v = none ∧ Fr n0 L ∧ Keep h0 h [a1] ∧ Exa Z h a1 "com/example/keyfold/keyfold/JsonValue" ∧ Fld Z h a1 "com/example/keyfold/keyfold/JsonValue" "tape" "Lcom/example/keyfold/keyfold/JsonValue$Tape;" (.ref t1) ∧ Fld Z h a1 "com/example/keyfold/keyfold/JsonValue" "index" "I" (.int (0 : Int32)) ∧ Fld Z h a1 "com/example/keyfold/keyfold/JsonValue" "generation" "I" (.int gn)
theorem pn_3 : plainName "com/example/keyfold/keyfold/JsonValue" = true := by first | (simp [plainName, overriddenIn]; done) | decide +kernel
theorem ef_5 (m : MethodId) (x0 : Addr) (x1 : Addr) (x2 : Int32) : entryFrame m #[(.ref x0), (.ref x1), (.int x2)] 3 = mkF m 0 #[.val (.ref x0), .val (.ref x1), .val (.int x2)] [] := by first | (simp [entryFrame, mkF, argsToLocals, Value.category]; done) | rfl
theorem dc6_0 : decode prog_47_method_1_code 0 = .ok (.aload_n 0, 1) := by decide +kernel
theorem dc6_1 : decode prog_47_method_1_code 1 = .ok (.invokespecial 1, 3) := by decide +kernel
theorem dc6_4 : decode prog_47_method_1_code 4 = .ok (.aload_n 0, 1) := by decide +kernel
theorem dc6_5 : decode prog_47_method_1_code 5 = .ok (.aload_n 1, 1) := by decide +kernel
theorem dc6_6 : decode prog_47_method_1_code 6 = .ok (.putfield 7, 3) := by decide +kernel
theorem dc6_9 : decode prog_47_method_1_code 9 = .ok (.aload_n 0, 1) := by decide +kernel
theorem dc6_10 : decode prog_47_method_1_code 10 = .ok (.iload_n 2, 1) := by decide +kernel
theorem dc6_11 : decode prog_47_method_1_code 11 = .ok (.putfield 13, 3) := by decide +kernel
theorem dc6_14 : decode prog_47_method_1_code 14 = .ok (.aload_n 0, 1) := by decide +kernel
theorem dc6_15 : decode prog_47_method_1_code 15 = .ok (.aload_n 1, 1) := by decide +kernel
theorem dc6_16 : decode prog_47_method_1_code 16 = .ok (.getfield 17, 3) := by decide +kernel
theorem dc6_19 : decode prog_47_method_1_code 19 = .ok (.putfield 22, 3) := by decide +kernel
theorem dc6_22 : decode prog_47_method_1_code 22 = .ok (.return_, 1) := by decide +kernel
set_option maxRecDepth 65536 in
set_option maxHeartbeats 40000000 in
theorem rmJi (l : Launch) (Z : State) (a0 : Array Value) (hw : ∀ d ∈ tables_1, d.before a0 Z = true) (ws : List Jvm.Cond) (a1 t1 : Addr) (gn : Int32) (h0 : Heap) (n0 : Nat) (O0 : Old Z n0 h0) (E1 : Exa Z h0 a1 "com/example/keyfold/keyfold/JsonValue") (F_tape : Fld Z h0 a1 "com/example/keyfold/keyfold/JsonValue" "tape" "Lcom/example/keyfold/keyfold/JsonValue$Tape;" .null) (F_index : Fld Z h0 a1 "com/example/keyfold/keyfold/JsonValue" "index" "I" (.int (0 : Int32))) (F_generation : Fld Z h0 a1 "com/example/keyfold/keyfold/JsonValue" "generation" "I" (.int (0 : Int32))) (g1 : n0 ≤ a1) (ne1 : a1 ≠ t1) (Fg : Fld Z h0 t1 "com/example/keyfold/keyfold/JsonValue$Tape" "generation" "I" (.int gn)) :
    MetFree l (⟨"com/example/keyfold/keyfold/JsonValue", "<init>", "(Lcom/example/keyfold/keyfold/JsonValue$Tape;I)V"⟩ : MethodName) (head1 (Jvm.Cond.code (⟨"com/example/keyfold/keyfold/JsonValue", "<init>", "(Lcom/example/keyfold/keyfold/JsonValue$Tape;I)V"⟩ : MethodName) prog_47_method_1_code 3 none :: ws) ({ frames := 1, cells := 0, slots := 0, locals := 12 } : Room)) (fun a U => a = #[(.ref a1), (.ref t1), (.int (0 : Int32))] ∧ Z.Warmed39 U.vm ∧ U.heap = h0) (fun _ _ _ _ _ => True) (fun _ U o U' => ∃ v L, o = .returned v ∧ Q_ji Z a1 t1 gn h0 n0 v U'.heap L ∧ FrameEnd U o U' L ({ frames := 1, cells := 0, slots := 0, locals := 12 } : Room).cells ({ frames := 1, cells := 0, slots := 0, locals := 12 } : Room).slots) := by
  refine MetFree.of_bodySF (plainFor_of_name pn_3) hisR ?_
  intro p e s m args below meth c s₁ Bd hml0 hP hK
  obtain ⟨rfl, hZ, hh⟩ := hP
  have hx := Bd.exec
  have hby := Bd.bytes
  have hml : c.maxLocals = 3 := hml0
  have hown : s.vm.findClass "com/example/keyfold/keyfold/JsonValue" = some m.cls := findClass_of_methodNamed Bd.named
  have hnm := (name_of_methodNamed Bd.named Bd.method).1
  have X0 : Stand p l e ({ frames := 1, cells := 0, slots := 0, locals := 12 } : Room) s m #[(.ref a1), (.ref t1), (.int (0 : Int32))] below meth c s₁ [] 0 0 := Stand.of_body Bd
  have e0 : s₁.heap = h0 := by rw [← hh, Bd.state]; rfl
  have N0 := Fr.nil n0
  have pre0 : ∀ t, Steps p.tables e below (s₁.setTop (mkF m 0 #[.val (.ref a1), .val (.ref t1), .val (.int (0 : Int32))] [])) t → Steps p.tables e below (s₁.setTop (entryFrame m #[(.ref a1), (.ref t1), (.int (0 : Int32))] 3)) t := fun t k => castTop (ef_5 m a1 t1 (0 : Int32)) k
  obtain ⟨T101, X101, e101, st101⟩ := initO X0 hx hZ hown (hw _ (List.mem_of_getElem? (i := 66) rfl)) (hw _ (List.mem_of_getElem? (i := 16) rfl)) (hw _ (List.mem_of_getElem? (i := 17) rfl)) e0 (g := (mkF m 1 #[.val (.ref a1), .val (.ref t1), .val (.int (0 : Int32))] [(.ref a1)])) rfl (by rw [hml]; rfl) rfl (hb hby dc6_1) (by decide) (W := 0) (by show 2 * 0 + _ ≤ _; exact Nat.le_of_eq rfl) (by decide)
  obtain ⟨T102, h102, X102, e102, W102, st102⟩ := putF X101 hx hZ hown (host := "") (Or.inl (hw _ (List.mem_of_getElem? (i := 67) rfl))) Via.refl e101 F_tape E1 (Or.inr ⟨(hw _ (List.mem_of_getElem? (i := 68) rfl)), rfl, hnm⟩) (hw _ (List.mem_of_getElem? (i := 61) rfl)) (ty := (.object "com/example/keyfold/keyfold/JsonValue$Tape")) (by decide) rfl rfl (g := (mkF m 6 #[.val (.ref a1), .val (.ref t1), .val (.int (0 : Int32))] [(.ref t1), (.ref a1)])) rfl rfl (hb hby dc6_6)
  have Fw102 : Fld Z h102 a1 "com/example/keyfold/keyfold/JsonValue" "tape" "Lcom/example/keyfold/keyfold/JsonValue$Tape;" (.ref t1) := Fld.same W102 F_tape
  have N102 := Fr.snoc X102 N0 g1
  have f103 := (E1.wr W102)
  have f104 := (F_index.other W102 (Or.inr (slot_ne (Or.inr (hw _ (List.mem_of_getElem? (i := 70) rfl))) (Or.inr (hw _ (List.mem_of_getElem? (i := 68) rfl))) (by decide) (t := .int) (t' := (.object "com/example/keyfold/keyfold/JsonValue$Tape")) (by decide) (by decide))))
  obtain ⟨T105, h105, X105, e105, W105, st105⟩ := putF X102 hx hZ hown (host := "") (Or.inl (hw _ (List.mem_of_getElem? (i := 69) rfl))) Via.refl e102 f104 f103 (Or.inr ⟨(hw _ (List.mem_of_getElem? (i := 70) rfl)), rfl, hnm⟩) (hw _ (List.mem_of_getElem? (i := 61) rfl)) (ty := .int) (by decide) rfl rfl (g := (mkF m 11 #[.val (.ref a1), .val (.ref t1), .val (.int (0 : Int32))] [(.int (0 : Int32)), (.ref a1)])) rfl rfl (hb hby dc6_11)
  have Fw105 : Fld Z h105 a1 "com/example/keyfold/keyfold/JsonValue" "index" "I" (.int (0 : Int32)) := Fld.same W105 f104
  have N105 := Fr.snoc X105 N102 g1
  have f106 := ((Fg.other W102 (Or.inl (Ne.symm ne1))).other W105 (Or.inl (Ne.symm ne1)))
  obtain ⟨T107, X107, e107, st107⟩ := getRef X105 hx hZ hown (hw _ (List.mem_of_getElem? (i := 71) rfl)) e105 f106 (g := (mkF m 16 #[.val (.ref a1), .val (.ref t1), .val (.int (0 : Int32))] [(.ref t1), (.ref a1)])) rfl rfl (hb hby dc6_16)
  have f108 := (f103.wr W105)
  have f109 := ((F_generation.other W102 (Or.inr (slot_ne (Or.inr (hw _ (List.mem_of_getElem? (i := 73) rfl))) (Or.inr (hw _ (List.mem_of_getElem? (i := 68) rfl))) (by decide) (t := .int) (t' := (.object "com/example/keyfold/keyfold/JsonValue$Tape")) (by decide) (by decide)))).other W105 (Or.inr (slot_ne (Or.inr (hw _ (List.mem_of_getElem? (i := 73) rfl))) (Or.inr (hw _ (List.mem_of_getElem? (i := 70) rfl))) (by decide) (t := .int) (t' := .int) (by decide) (by decide))))
  obtain ⟨T110, h110, X110, e110, W110, st110⟩ := putF X107 hx hZ hown (host := "") (Or.inl (hw _ (List.mem_of_getElem? (i := 72) rfl))) Via.refl e107 f109 f108 (Or.inr ⟨(hw _ (List.mem_of_getElem? (i := 73) rfl)), rfl, hnm⟩) (hw _ (List.mem_of_getElem? (i := 61) rfl)) (ty := .int) (by decide) rfl rfl (g := (mkF m 19 #[.val (.ref a1), .val (.ref t1), .val (.int (0 : Int32))] [(.int gn), (.ref a1)])) rfl rfl (hb hby dc6_19)
  have Fw110 : Fld Z h110 a1 "com/example/keyfold/keyfold/JsonValue" "generation" "I" (.int gn) := Fld.same W110 f109
  have N110 := Fr.snoc X110 N105 g1
  obtain ⟨fs, hr, hrun, hended, hW, hsame⟩ := X110.leave (v := none) (fun _ => rfl)
  have K111 : Keep h0 h110 [a1] := (Keep.wr (Keep.wr (Keep.wr (Keep.refl h0 [a1]) W102 (Or.inl (List.mem_of_getElem? (i := 0) rfl))) W105 (Or.inl (List.mem_of_getElem? (i := 0) rfl))) W110 (Or.inl (List.mem_of_getElem? (i := 0) rfl)))
  have f112 := (f108.wr W110)
  have f113 := ((Fw102.other W105 (Or.inr (slot_ne (Or.inr (hw _ (List.mem_of_getElem? (i := 68) rfl))) (Or.inr (hw _ (List.mem_of_getElem? (i := 70) rfl))) (by decide) (t := (.object "com/example/keyfold/keyfold/JsonValue$Tape")) (t' := .int) (by decide) (by decide)))).other W110 (Or.inr (slot_ne (Or.inr (hw _ (List.mem_of_getElem? (i := 68) rfl))) (Or.inr (hw _ (List.mem_of_getElem? (i := 73) rfl))) (by decide) (t := (.object "com/example/keyfold/keyfold/JsonValue$Tape")) (t' := .int) (by decide) (by decide))))
  have f114 := (Fw105.other W110 (Or.inr (slot_ne (Or.inr (hw _ (List.mem_of_getElem? (i := 70) rfl))) (Or.inr (hw _ (List.mem_of_getElem? (i := 73) rfl))) (by decide) (t := .int) (t' := .int) (by decide) (by decide))))
  refine ⟨_, _, pre0 _ ?_, hrun, hended, _, _, rfl, ?_, ⟨_, rfl⟩, hW, hsame.mono (by decide) (by decide)⟩
  · skip
    show Steps p.tables e below (s₁.setTop (mkF m 0 #[.val (.ref a1), .val (.ref t1), .val (.int (0 : Int32))] [])) _
    refine XS.aloadN X0.here hx rfl (hb hby dc6_0) rfl rfl ?_
    show Steps p.tables e below (s₁.setTop (mkF m 1 #[.val (.ref a1), .val (.ref t1), .val (.int (0 : Int32))] [(.ref a1)])) _
    refine st101 _ ?_
    show Steps p.tables e below (T101.setTop (mkF m 4 #[.val (.ref a1), .val (.ref t1), .val (.int (0 : Int32))] [])) _
    refine XS.aloadN X101.here hx rfl (hb hby dc6_4) rfl rfl ?_
    show Steps p.tables e below (T101.setTop (mkF m 5 #[.val (.ref a1), .val (.ref t1), .val (.int (0 : Int32))] [(.ref a1)])) _
    refine XS.aloadN X101.here hx rfl (hb hby dc6_5) rfl rfl ?_
    show Steps p.tables e below (T101.setTop (mkF m 6 #[.val (.ref a1), .val (.ref t1), .val (.int (0 : Int32))] [(.ref t1), (.ref a1)])) _
    refine st102 _ ?_
    show Steps p.tables e below (T102.setTop (mkF m 9 #[.val (.ref a1), .val (.ref t1), .val (.int (0 : Int32))] [])) _
    refine XS.aloadN X102.here hx rfl (hb hby dc6_9) rfl rfl ?_
    show Steps p.tables e below (T102.setTop (mkF m 10 #[.val (.ref a1), .val (.ref t1), .val (.int (0 : Int32))] [(.ref a1)])) _
    refine XS.iloadN X102.here hx rfl (hb hby dc6_10) rfl ?_
    show Steps p.tables e below (T102.setTop (mkF m 11 #[.val (.ref a1), .val (.ref t1), .val (.int (0 : Int32))] [(.int (0 : Int32)), (.ref a1)])) _
    refine st105 _ ?_
    show Steps p.tables e below (T105.setTop (mkF m 14 #[.val (.ref a1), .val (.ref t1), .val (.int (0 : Int32))] [])) _
    refine XS.aloadN X105.here hx rfl (hb hby dc6_14) rfl rfl ?_
    show Steps p.tables e below (T105.setTop (mkF m 15 #[.val (.ref a1), .val (.ref t1), .val (.int (0 : Int32))] [(.ref a1)])) _
    refine XS.aloadN X105.here hx rfl (hb hby dc6_15) rfl rfl ?_
    show Steps p.tables e below (T105.setTop (mkF m 16 #[.val (.ref a1), .val (.ref t1), .val (.int (0 : Int32))] [(.ref t1), (.ref a1)])) _
    refine st107 _ ?_
    show Steps p.tables e below (T107.setTop (mkF m 19 #[.val (.ref a1), .val (.ref t1), .val (.int (0 : Int32))] [(.int gn), (.ref a1)])) _
    refine st110 _ ?_
    show Steps p.tables e below (T110.setTop (mkF m 22 #[.val (.ref a1), .val (.ref t1), .val (.int (0 : Int32))] [])) _
    exact X110.returnOut hx Bd.returns (hb hby dc6_22) hr
  · show Q_ji Z a1 t1 gn h0 n0 _ T110.heap _
    rw [e110]
    exact ⟨rfl, N110, K111, f112, f113, f114, Fw110⟩
def Q_fi (Z : State) (a1 : Addr) (gn : Int32) (h0 : Heap) (n0 : Nat) (v : Option Value) (h : Heap) (L : List Loc) : Prop := ∃ b : Addr, v = some (.ref b) ∧ Fr n0 L ∧ n0 ≤ b ∧ h0.size ≤ b ∧ Keep h0 h [] ∧ Exa Z h b "com/example/keyfold/keyfold/JsonValue" ∧ Fld Z h b "com/example/keyfold/keyfold/JsonValue" "tape" "Lcom/example/keyfold/keyfold/JsonValue$Tape;" (.ref a1) ∧ Fld Z h b "com/example/keyfold/keyfold/JsonValue" "index" "I" (.int (0 : Int32)) ∧ Fld Z h b "com/example/keyfold/keyfold/JsonValue" "generation" "I" (.int gn)
theorem dc7_0 : decode prog_50_method_6_code 0 = .ok (.new 46, 3) := by decide +kernel
theorem dc7_3 : decode prog_50_method_6_code 3 = .ok (.dup, 1) := by decide +kernel
theorem dc7_4 : decode prog_50_method_6_code 4 = .ok (.aload_n 0, 1) := by decide +kernel
theorem dc7_5 : decode prog_50_method_6_code 5 = .ok (.iconst 0, 1) := by decide +kernel
theorem dc7_6 : decode prog_50_method_6_code 6 = .ok (.invokespecial 48, 3) := by decide +kernel
theorem pd_1 : parseMethodDescriptor "(Lcom/example/keyfold/keyfold/JsonValue$Tape;I)V" = some ⟨[(.object "com/example/keyfold/keyfold/JsonValue$Tape"), .int], none⟩ := by decide +kernel
theorem dc7_9 : decode prog_50_method_6_code 9 = .ok (.areturn, 1) := by decide +kernel
set_option maxRecDepth 65536 in
set_option maxHeartbeats 40000000 in
theorem rmFi (l : Launch) (Z : State) (a0 : Array Value) (hw : ∀ d ∈ tables_1, d.before a0 Z = true) (ws : List Jvm.Cond) (a1 : Addr) (gn : Int32) (h0 : Heap) (n0 : Nat) (O0 : Old Z n0 h0) (Fg : Fld Z h0 a1 "com/example/keyfold/keyfold/JsonValue$Tape" "generation" "I" (.int gn)) :
    MetFree l (⟨"com/example/keyfold/keyfold/JsonValue$Tape", "first", "()Lcom/example/keyfold/keyfold/JsonValue;"⟩ : MethodName) (head1 (Jvm.Cond.code (⟨"com/example/keyfold/keyfold/JsonValue$Tape", "first", "()Lcom/example/keyfold/keyfold/JsonValue;"⟩ : MethodName) prog_50_method_6_code 1 (some (.object "com/example/keyfold/keyfold/JsonValue")) :: ws) ({ frames := 2, cells := 1, slots := 3, locals := 27 } : Room)) (fun a U => a = #[(.ref a1)] ∧ Z.Warmed39 U.vm ∧ U.heap = h0) (fun _ _ _ _ _ => True) (fun _ U o U' => ∃ v L, o = .returned v ∧ Q_fi Z a1 gn h0 n0 v U'.heap L ∧ FrameEnd U o U' L ({ frames := 2, cells := 1, slots := 3, locals := 27 } : Room).cells ({ frames := 2, cells := 1, slots := 3, locals := 27 } : Room).slots) := by
  refine MetFree.of_bodySF (plainFor_of_name pn_1) hisR ?_
  intro p e s m args below meth c s₁ Bd hml0 hP hK
  obtain ⟨rfl, hZ, hh⟩ := hP
  have hx := Bd.exec
  have hby := Bd.bytes
  have hml : c.maxLocals = 1 := hml0
  have hown : s.vm.findClass "com/example/keyfold/keyfold/JsonValue$Tape" = some m.cls := findClass_of_methodNamed Bd.named
  have hnm := (name_of_methodNamed Bd.named Bd.method).1
  have X0 : Stand p l e ({ frames := 2, cells := 1, slots := 3, locals := 27 } : Room) s m #[(.ref a1)] below meth c s₁ [] 0 0 := Stand.of_body Bd
  have e0 : s₁.heap = h0 := by rw [← hh, Bd.state]; rfl
  have N0 := Fr.nil n0
  have pre0 : ∀ t, Steps p.tables e below (s₁.setTop (mkF m 0 #[.val (.ref a1)] [])) t → Steps p.tables e below (s₁.setTop (entryFrame m #[(.ref a1)] 1)) t := fun t k => castTop (ef_1 m a1) k
  obtain ⟨T101, h101, X101, e101, E101, A101, D101, -, st101⟩ := newO X0 hx hZ hown (hw _ (List.mem_of_getElem? (i := 60) rfl)) (hw _ (List.mem_of_getElem? (i := 61) rfl)) (hw _ (List.mem_of_getElem? (i := 62) rfl)) e0 (g := (mkF m 0 #[.val (.ref a1)] [])) rfl (hb hby dc7_0) (by decide) (by decide)
  obtain ⟨b101, g101⟩ : ∃ z, z = h0.size := ⟨_, rfl⟩
  rw [← g101] at A101 D101 st101
  have gb101 : n0 ≤ b101 := by rw [g101, ← O0.1]; exact O0.2.1
  have ne101_a1 : a1 ≠ b101 := by rw [g101]; exact Nat.ne_of_lt (Fg).lt
  have sz101 : h0.size ≤ b101 := by rw [g101]; exact ((Keep.refl h0 [])).1
  have F101_tape : Fld Z h101 b101 "com/example/keyfold/keyfold/JsonValue" "tape" "Lcom/example/keyfold/keyfold/JsonValue$Tape;" .null := D101 (Or.inr (hw _ (List.mem_of_getElem? (i := 68) rfl))) (ty := (.object "com/example/keyfold/keyfold/JsonValue$Tape")) (by decide)
  have F101_index : Fld Z h101 b101 "com/example/keyfold/keyfold/JsonValue" "index" "I" (.int (0 : Int32)) := D101 (Or.inr (hw _ (List.mem_of_getElem? (i := 70) rfl))) (ty := .int) (by decide)
  have F101_generation : Fld Z h101 b101 "com/example/keyfold/keyfold/JsonValue" "generation" "I" (.int (0 : Int32)) := D101 (Or.inr (hw _ (List.mem_of_getElem? (i := 73) rfl))) (ty := .int) (by decide)
  have O102 : Old Z n0 h101 := (O0.ext E101)
  have f103 := (Fg.ext E101)
  obtain ⟨_, _, ⟨T104, L104, k104, n104⟩, -, X104, ⟨Lc104, hQ104, l104, y104, z104⟩, st104⟩ := X101.specialBack hx (y := (⟨"com/example/keyfold/keyfold/JsonValue", "<init>", "(Lcom/example/keyfold/keyfold/JsonValue$Tape;I)V"⟩ : MethodName)) rfl hown (mvT hZ (hw _ (List.mem_of_getElem? (i := 63) rfl))) (mvT hZ (hw _ (List.mem_of_getElem? (i := 64) rfl))) (mvT hZ (hw _ (List.mem_of_getElem? (i := 65) rfl))) (by decide) (backOf (W := 1) (rmJi l Z a0 hw [] b101 a1 gn h101 n0 O102 A101 F101_tape F101_index F101_generation gb101 (Ne.symm ne101_a1) f103) hZ (hw _ (List.mem_of_getElem? (i := 65) rfl)) (hw _ (List.mem_of_getElem? (i := 62) rfl)) (by decide) (by decide)) (g := (mkF m 6 #[.val (.ref a1)] [(.int (0 : Int32)), (.ref a1), (.ref b101), (.ref b101)])) rfl (by rw [hml]; rfl) (Steps.refl _) (a := b101) (argsL := [(.ref a1), (.int (0 : Int32))]) (rest := [(.ref b101)]) (lenOf pd_1 rfl) rfl (by show 2 * 0 + _ ≤ _; exact Nat.le_of_eq rfl) (hb hby dc7_6) (fun _ _ => ⟨rfl, e101, (by decide : 1 + 0 ≤ _), (by decide : 3 + 0 ≤ _)⟩)
  dsimp only [Pt.U, Pt.locs, Pt.cells, Pt.slots] at X104 l104 y104 z104 st104 hQ104
  subst l104 y104 z104
  obtain ⟨rfl, N104q, K104, Ex104, F104_tape, F104_index, F104_generation⟩ := hQ104
  have N104 := Fr.app N0 N104q
  obtain ⟨fs, hr, hrun, hended, hW, hsame⟩ := X104.leave (v := some (.ref b101)) (fun h => by rw [Bd.returns] at h; cases h)
  have K105 : Keep h0 T104.heap [] := (Keep.trans (Keep.ext (Keep.refl h0 []) E101) K104 (allS (P := fun x => x ∈ [] ∨ h0.size ≤ x) (Or.inr sz101) all0))
  refine ⟨_, _, pre0 _ ?_, hrun, hended, _, _, rfl, ?_, ⟨_, rfl⟩, hW, hsame.mono (by decide) (by decide)⟩
  · skip
    show Steps p.tables e below (s₁.setTop (mkF m 0 #[.val (.ref a1)] [])) _
    refine st101 _ ?_
    show Steps p.tables e below (T101.setTop (mkF m 3 #[.val (.ref a1)] [(.ref b101)])) _
    refine XS.dup X101.here hx rfl (hb hby dc7_3) rfl rfl ?_
    show Steps p.tables e below (T101.setTop (mkF m 4 #[.val (.ref a1)] [(.ref b101), (.ref b101)])) _
    refine XS.aloadN X101.here hx rfl (hb hby dc7_4) rfl rfl ?_
    show Steps p.tables e below (T101.setTop (mkF m 5 #[.val (.ref a1)] [(.ref a1), (.ref b101), (.ref b101)])) _
    refine XS.iconst X101.here hx rfl (hb hby dc7_5) ?_
    show Steps p.tables e below (T101.setTop (mkF m 6 #[.val (.ref a1)] [(.int (0 : Int32)), (.ref a1), (.ref b101), (.ref b101)])) _
    refine st104.trans ?_
    show Steps p.tables e below (T104.setTop (mkF m 9 #[.val (.ref a1)] [(.ref b101)])) _
    exact retOut X104 hx (t := (.object "com/example/keyfold/keyfold/JsonValue")) Bd.returns rfl (Or.inr (Or.inr (Or.inr (Or.inr ⟨rfl, rfl, rfl⟩)))) (hb hby dc7_9) hr
  · show Q_fi Z a1 gn h0 n0 _ T104.heap _
    exact ⟨_, rfl, N104, gb101, sz101, K105, Ex104, F104_tape, F104_index, F104_generation⟩
def Q_ck  (h0 : Heap) (n0 : Nat) (v : Option Value) (h : Heap) (L : List Loc) : Prop := v = none ∧ Fr n0 L ∧ h = h0
theorem dc8_0 : decode prog_47_method_20_code 0 = .ok (.getstatic 142, 3) := by decide +kernel
theorem dc8_3 : decode prog_47_method_20_code 3 = .ok (.ifCond .ne 27, 3) := by decide +kernel
theorem dc8_30 : decode prog_47_method_20_code 30 = .ok (.return_, 1) := by decide +kernel
set_option maxRecDepth 65536 in
set_option maxHeartbeats 40000000 in
theorem rmCk (l : Launch) (Z : State) (a0 : Array Value) (hw : ∀ d ∈ tables_1, d.before a0 Z = true) (ws : List Jvm.Cond) (aK a_OBJECT a_ARRAY a_STRING a_NUMBER a_TRUE a_FALSE a_NULL : Addr) (a1 : Addr) (h0 : Heap) (n0 : Nat) (O0 : Old Z n0 h0) (En : OwnEnv Z aK a_OBJECT a_ARRAY a_STRING a_NUMBER a_TRUE a_FALSE a_NULL) :
    MetFree l (⟨"com/example/keyfold/keyfold/JsonValue", "check", "()V"⟩ : MethodName) (head1 (Jvm.Cond.code (⟨"com/example/keyfold/keyfold/JsonValue", "check", "()V"⟩ : MethodName) prog_47_method_20_code 1 none :: ws) ({ frames := 0, cells := 0, slots := 0, locals := 0 } : Room)) (fun a U => a = #[(.ref a1)] ∧ Z.Warmed39 U.vm ∧ U.heap = h0) (fun _ _ _ _ _ => True) (fun _ U o U' => ∃ v L, o = .returned v ∧ Q_ck h0 n0 v U'.heap L ∧ FrameEnd U o U' L ({ frames := 0, cells := 0, slots := 0, locals := 0 } : Room).cells ({ frames := 0, cells := 0, slots := 0, locals := 0 } : Room).slots) := by
  refine MetFree.of_bodySF (plainFor_of_name pn_3) hisR ?_
  intro p e s m args below meth c s₁ Bd hml0 hP hK
  obtain ⟨rfl, hZ, hh⟩ := hP
  have hx := Bd.exec
  have hby := Bd.bytes
  have hml : c.maxLocals = 1 := hml0
  have hown : s.vm.findClass "com/example/keyfold/keyfold/JsonValue" = some m.cls := findClass_of_methodNamed Bd.named
  have hnm := (name_of_methodNamed Bd.named Bd.method).1
  have X0 : Stand p l e ({ frames := 0, cells := 0, slots := 0, locals := 0 } : Room) s m #[(.ref a1)] below meth c s₁ [] 0 0 := Stand.of_body Bd
  have e0 : s₁.heap = h0 := by rw [← hh, Bd.state]; rfl
  have N0 := Fr.nil n0
  have pre0 : ∀ t, Steps p.tables e below (s₁.setTop (mkF m 0 #[.val (.ref a1)] [])) t → Steps p.tables e below (s₁.setTop (entryFrame m #[(.ref a1)] 1)) t := fun t k => castTop (ef_1 m a1) k
  obtain ⟨S_K, S_D, S_OBJECT, K_OBJECT, S_ARRAY, K_ARRAY, S_STRING, K_STRING, S_NUMBER, K_NUMBER, S_TRUE, K_TRUE, S_FALSE, K_FALSE, S_NULL, K_NULL⟩ := id En
  obtain ⟨T101, X101, e101, st101⟩ := getS2 X0 hx hZ hown (host := "") (Or.inl (hw _ (List.mem_of_getElem? (i := 89) rfl))) Via.refl e0 (Sta.ext O0.2 S_D) (g := (mkF m 0 #[.val (.ref a1)] [])) rfl (hb hby dc8_0)
  obtain ⟨fs, hr, hrun, hended, hW, hsame⟩ := X101.leave (v := none) (fun _ => rfl)
  refine ⟨_, _, pre0 _ ?_, hrun, hended, _, _, rfl, ?_, ⟨_, rfl⟩, hW, hsame.mono (by decide) (by decide)⟩
  · skip
    show Steps p.tables e below (s₁.setTop (mkF m 0 #[.val (.ref a1)] [])) _
    refine st101 _ ?_
    show Steps p.tables e below (T101.setTop (mkF m 3 #[.val (.ref a1)] [(.int (1 : Int32))])) _
    refine XS.ifYes X101.here hx rfl (pc0 := 3) (pc' := 30) rfl (hb hby dc8_3) rfl (by decide) (by decide) (by decide) ?_
    show Steps p.tables e below (T101.setTop (mkF m 30 #[.val (.ref a1)] [])) _
    exact X101.returnOut hx Bd.returns (hb hby dc8_30) hr
  · show Q_ck h0 n0 _ T101.heap _
    rw [e101]
    exact ⟨rfl, N0, rfl⟩
def Q_fd0 (r : Int32) (h0 : Heap) (n0 : Nat) (v : Option Value) (h : Heap) (L : List Loc) : Prop := v = some (.int r) ∧ Fr n0 L ∧ h = h0
theorem ef_6 (m : MethodId) (x0 : Addr) (x1 : Int32) : entryFrame m #[(.ref x0), (.int x1)] 2 = mkF m 0 #[.val (.ref x0), .val (.int x1)] [] := by first | (simp [entryFrame, mkF, argsToLocals, Value.category]; done) | rfl
theorem dc9_0 : decode prog_47_method_19_code 0 = .ok (.aload_n 0, 1) := by decide +kernel
theorem dc9_1 : decode prog_47_method_19_code 1 = .ok (.invokevirtual 77, 3) := by decide +kernel
theorem pd_2 : parseMethodDescriptor "()V" = some ⟨[], none⟩ := by decide +kernel
theorem dc9_4 : decode prog_47_method_19_code 4 = .ok (.aload_n 0, 1) := by decide +kernel
theorem dc9_5 : decode prog_47_method_19_code 5 = .ok (.getfield 7, 3) := by decide +kernel
theorem dc9_8 : decode prog_47_method_19_code 8 = .ok (.getfield 80, 3) := by decide +kernel
theorem dc9_11 : decode prog_47_method_19_code 11 = .ok (.iconst 4, 1) := by decide +kernel
theorem dc9_12 : decode prog_47_method_19_code 12 = .ok (.aload_n 0, 1) := by decide +kernel
theorem dc9_13 : decode prog_47_method_19_code 13 = .ok (.getfield 13, 3) := by decide +kernel
theorem dc9_16 : decode prog_47_method_19_code 16 = .ok (.imul, 1) := by decide +kernel
theorem dc9_17 : decode prog_47_method_19_code 17 = .ok (.iload_n 1, 1) := by decide +kernel
theorem dc9_18 : decode prog_47_method_19_code 18 = .ok (.iadd, 1) := by decide +kernel
theorem dc9_19 : decode prog_47_method_19_code 19 = .ok (.iaload, 1) := by decide +kernel
theorem dc9_20 : decode prog_47_method_19_code 20 = .ok (.ireturn, 1) := by decide +kernel
set_option maxRecDepth 65536 in
set_option maxHeartbeats 40000000 in
theorem rmFd0 (l : Launch) (Z : State) (a0 : Array Value) (hw : ∀ d ∈ tables_1, d.before a0 Z = true) (ws : List Jvm.Cond) (aK a_OBJECT a_ARRAY a_STRING a_NUMBER a_TRUE a_FALSE a_NULL : Addr) (a1 t1 br : Addr) (xs : List Int32) (r : Int32) (h0 : Heap) (n0 : Nat) (O0 : Old Z n0 h0) (En : OwnEnv Z aK a_OBJECT a_ARRAY a_STRING a_NUMBER a_TRUE a_FALSE a_NULL) (Ev : Exa Z h0 a1 "com/example/keyfold/keyfold/JsonValue") (Ft : Fld Z h0 a1 "com/example/keyfold/keyfold/JsonValue" "tape" "Lcom/example/keyfold/keyfold/JsonValue$Tape;" (.ref t1)) (Fi : Fld Z h0 a1 "com/example/keyfold/keyfold/JsonValue" "index" "I" (.int (0 : Int32))) (Fq : Fld Z h0 t1 "com/example/keyfold/keyfold/JsonValue$Tape" "records" "[I" (.ref br)) (Lq : La Z h0 br .int (64 : Int32) xs) (hrr : (xs.getD ((0 : Int32)).toNatClampNeg 0) = r) :
    MetFree l (⟨"com/example/keyfold/keyfold/JsonValue", "field", "(I)I"⟩ : MethodName) (head1 (Jvm.Cond.code (⟨"com/example/keyfold/keyfold/JsonValue", "field", "(I)I"⟩ : MethodName) prog_47_method_19_code 2 (some .int) :: ws) ({ frames := 1, cells := 0, slots := 0, locals := 12 } : Room)) (fun a U => a = #[(.ref a1), (.int (0 : Int32))] ∧ Z.Warmed39 U.vm ∧ U.heap = h0) (fun _ _ _ _ _ => True) (fun _ U o U' => ∃ v L, o = .returned v ∧ Q_fd0 r h0 n0 v U'.heap L ∧ FrameEnd U o U' L ({ frames := 1, cells := 0, slots := 0, locals := 12 } : Room).cells ({ frames := 1, cells := 0, slots := 0, locals := 12 } : Room).slots) := by
  refine MetFree.of_bodySF (plainFor_of_name pn_3) hisR ?_
  intro p e s m args below meth c s₁ Bd hml0 hP hK
  obtain ⟨rfl, hZ, hh⟩ := hP
  have hx := Bd.exec
  have hby := Bd.bytes
  have hml : c.maxLocals = 2 := hml0
  have hown : s.vm.findClass "com/example/keyfold/keyfold/JsonValue" = some m.cls := findClass_of_methodNamed Bd.named
  have hnm := (name_of_methodNamed Bd.named Bd.method).1
  have X0 : Stand p l e ({ frames := 1, cells := 0, slots := 0, locals := 12 } : Room) s m #[(.ref a1), (.int (0 : Int32))] below meth c s₁ [] 0 0 := Stand.of_body Bd
  have e0 : s₁.heap = h0 := by rw [← hh, Bd.state]; rfl
  have N0 := Fr.nil n0
  have pre0 : ∀ t, Steps p.tables e below (s₁.setTop (mkF m 0 #[.val (.ref a1), .val (.int (0 : Int32))] [])) t → Steps p.tables e below (s₁.setTop (entryFrame m #[(.ref a1), (.int (0 : Int32))] 2)) t := fun t k => castTop (ef_6 m a1 (0 : Int32)) k
  obtain ⟨S_K, S_D, S_OBJECT, K_OBJECT, S_ARRAY, K_ARRAY, S_STRING, K_STRING, S_NUMBER, K_NUMBER, S_TRUE, K_TRUE, S_FALSE, K_FALSE, S_NULL, K_NULL⟩ := id En
  obtain ⟨cq101, q101, q101'⟩ := Exa.cell Ev
  obtain ⟨_, _, ⟨T101, L101, k101, n101⟩, -, X101, ⟨Lc101, hQ101, l101, y101, z101⟩, st101⟩ := X0.privateBack hx (y := (⟨"com/example/keyfold/keyfold/JsonValue", "check", "()V"⟩ : MethodName)) hown (mvT hZ (hw _ (List.mem_of_getElem? (i := 85) rfl))) (mvT hZ (hw _ (List.mem_of_getElem? (i := 86) rfl))) (mvT hZ (own_sel (y := (⟨"com/example/keyfold/keyfold/JsonValue", "check", "()V"⟩ : MethodName)) (hw _ (List.mem_of_getElem? (i := 61) rfl)) (hw _ (List.mem_of_getElem? (i := 87) rfl)) (hw _ (List.mem_of_getElem? (i := 86) rfl)) (by decide))) (Cond.privateMethod_at (mvP hZ (hw _ (List.mem_of_getElem? (i := 87) rfl)) (args := #[]))) (mvT hZ (hw _ (List.mem_of_getElem? (i := 88) rfl))) (by decide) (backOf (W := 0) (rmCk l Z a0 hw [] aK a_OBJECT a_ARRAY a_STRING a_NUMBER a_TRUE a_FALSE a_NULL a1 h0 n0 O0 En) hZ (hw _ (List.mem_of_getElem? (i := 88) rfl)) (hw _ (List.mem_of_getElem? (i := 62) rfl)) (by decide) (by decide)) (g := (mkF m 1 #[.val (.ref a1), .val (.int (0 : Int32))] [(.ref a1)])) rfl (by rw [hml]; rfl) (Steps.refl _) (a := a1) (by rw [e0]; exact q101) q101' (argsL := []) (rest := []) (lenOf pd_2 rfl) rfl (by show 2 * 0 + _ ≤ _; exact Nat.le_of_eq rfl) (hb hby dc9_1) (fun _ _ => ⟨rfl, e0, (by decide : 0 + 0 ≤ _), (by decide : 0 + 0 ≤ _)⟩)
  dsimp only [Pt.U, Pt.locs, Pt.cells, Pt.slots] at X101 l101 y101 z101 st101 hQ101
  subst l101 y101 z101
  obtain ⟨rfl, N101q, hh101⟩ := hQ101
  have N101 := Fr.app N0 N101q
  obtain ⟨T102, X102, e102, st102⟩ := getF X101 hx hZ hown (host := "") (Or.inl (hw _ (List.mem_of_getElem? (i := 67) rfl))) Via.refl hh101 Ft (g := (mkF m 5 #[.val (.ref a1), .val (.int (0 : Int32))] [(.ref a1)])) rfl rfl (hb hby dc9_5)
  obtain ⟨T103, X103, e103, st103⟩ := getRef X102 hx hZ hown (hw _ (List.mem_of_getElem? (i := 91) rfl)) e102 Fq (g := (mkF m 8 #[.val (.ref a1), .val (.int (0 : Int32))] [(.ref t1)])) rfl rfl (hb hby dc9_8)
  obtain ⟨T104, X104, e104, st104⟩ := getF X103 hx hZ hown (host := "") (Or.inl (hw _ (List.mem_of_getElem? (i := 69) rfl))) Via.refl e103 Fi (g := (mkF m 13 #[.val (.ref a1), .val (.int (0 : Int32))] [(.ref a1), (.int (4 : Int32)), (.ref br)])) rfl rfl (hb hby dc9_13)
  obtain ⟨cl105, Ar105, hin105, hat105⟩ := La.at (j := (0 : Int32)) Lq ⟨by decide, by decide⟩
  obtain ⟨fs, hr, hrun, hended, hW, hsame⟩ := X104.leave (v := some (.int r)) (fun h => by rw [Bd.returns] at h; cases h)
  refine ⟨_, _, pre0 _ ?_, hrun, hended, _, _, rfl, ?_, ⟨_, rfl⟩, hW, hsame.mono (by decide) (by decide)⟩
  · skip
    show Steps p.tables e below (s₁.setTop (mkF m 0 #[.val (.ref a1), .val (.int (0 : Int32))] [])) _
    refine XS.aloadN X0.here hx rfl (hb hby dc9_0) rfl rfl ?_
    show Steps p.tables e below (s₁.setTop (mkF m 1 #[.val (.ref a1), .val (.int (0 : Int32))] [(.ref a1)])) _
    refine st101.trans ?_
    show Steps p.tables e below (T101.setTop (mkF m 4 #[.val (.ref a1), .val (.int (0 : Int32))] [])) _
    refine XS.aloadN X101.here hx rfl (hb hby dc9_4) rfl rfl ?_
    show Steps p.tables e below (T101.setTop (mkF m 5 #[.val (.ref a1), .val (.int (0 : Int32))] [(.ref a1)])) _
    refine st102 _ ?_
    show Steps p.tables e below (T102.setTop (mkF m 8 #[.val (.ref a1), .val (.int (0 : Int32))] [(.ref t1)])) _
    refine st103 _ ?_
    show Steps p.tables e below (T103.setTop (mkF m 11 #[.val (.ref a1), .val (.int (0 : Int32))] [(.ref br)])) _
    refine XS.iconst X103.here hx rfl (hb hby dc9_11) ?_
    show Steps p.tables e below (T103.setTop (mkF m 12 #[.val (.ref a1), .val (.int (0 : Int32))] [(.int (4 : Int32)), (.ref br)])) _
    refine XS.aloadN X103.here hx rfl (hb hby dc9_12) rfl rfl ?_
    show Steps p.tables e below (T103.setTop (mkF m 13 #[.val (.ref a1), .val (.int (0 : Int32))] [(.ref a1), (.int (4 : Int32)), (.ref br)])) _
    refine st104 _ ?_
    show Steps p.tables e below (T104.setTop (mkF m 16 #[.val (.ref a1), .val (.int (0 : Int32))] [(.int (0 : Int32)), (.int (4 : Int32)), (.ref br)])) _
    refine XS.imul X104.here hx rfl (hb hby dc9_16) rfl ?_
    show Steps p.tables e below (T104.setTop (mkF m 17 #[.val (.ref a1), .val (.int (0 : Int32))] [(.int (0 : Int32)), (.ref br)])) _
    refine XS.iloadN X104.here hx rfl (hb hby dc9_17) rfl ?_
    show Steps p.tables e below (T104.setTop (mkF m 18 #[.val (.ref a1), .val (.int (0 : Int32))] [(.int (0 : Int32)), (.int (0 : Int32)), (.ref br)])) _
    refine XS.iadd X104.here hx rfl (hb hby dc9_18) rfl ?_
    show Steps p.tables e below (T104.setTop (mkF m 19 #[.val (.ref a1), .val (.int (0 : Int32))] [(.int (0 : Int32)), (.ref br)])) _
    refine X104.iaload hx (j := (0 : Int32)) (v := (.int (xs.getD ((0 : Int32)).toNatClampNeg 0))) (by rw [e104]; exact Ar105.1) (State.isArrayOf_alike hZ.alike Ar105.2.1) Ar105.2.2 hin105 hat105 (g := (mkF m 19 #[.val (.ref a1), .val (.int (0 : Int32))] [(.int (0 : Int32)), (.ref br)])) rfl rfl (hb hby dc9_19) _ ?_
    show Steps p.tables e below (T104.setTop (mkF m 20 #[.val (.ref a1), .val (.int (0 : Int32))] [(.int (xs.getD ((0 : Int32)).toNatClampNeg 0))])) _
    rw [hrr]
    show Steps p.tables e below (T104.setTop (mkF m 20 #[.val (.ref a1), .val (.int (0 : Int32))] [(.int r)])) _
    exact retI X104 hx Bd.returns (hb hby dc9_20) hr
  · show Q_fd0 r h0 n0 _ T104.heap _
    rw [e104]
    exact ⟨rfl, N101, rfl⟩
def Q_fd1 (r : Int32) (h0 : Heap) (n0 : Nat) (v : Option Value) (h : Heap) (L : List Loc) : Prop := v = some (.int r) ∧ Fr n0 L ∧ h = h0
set_option maxRecDepth 65536 in
set_option maxHeartbeats 40000000 in
theorem rmFd1 (l : Launch) (Z : State) (a0 : Array Value) (hw : ∀ d ∈ tables_1, d.before a0 Z = true) (ws : List Jvm.Cond) (aK a_OBJECT a_ARRAY a_STRING a_NUMBER a_TRUE a_FALSE a_NULL : Addr) (a1 t1 br : Addr) (xs : List Int32) (r : Int32) (h0 : Heap) (n0 : Nat) (O0 : Old Z n0 h0) (En : OwnEnv Z aK a_OBJECT a_ARRAY a_STRING a_NUMBER a_TRUE a_FALSE a_NULL) (Ev : Exa Z h0 a1 "com/example/keyfold/keyfold/JsonValue") (Ft : Fld Z h0 a1 "com/example/keyfold/keyfold/JsonValue" "tape" "Lcom/example/keyfold/keyfold/JsonValue$Tape;" (.ref t1)) (Fi : Fld Z h0 a1 "com/example/keyfold/keyfold/JsonValue" "index" "I" (.int (0 : Int32))) (Fq : Fld Z h0 t1 "com/example/keyfold/keyfold/JsonValue$Tape" "records" "[I" (.ref br)) (Lq : La Z h0 br .int (64 : Int32) xs) (hrr : (xs.getD ((1 : Int32)).toNatClampNeg 0) = r) :
    MetFree l (⟨"com/example/keyfold/keyfold/JsonValue", "field", "(I)I"⟩ : MethodName) (head1 (Jvm.Cond.code (⟨"com/example/keyfold/keyfold/JsonValue", "field", "(I)I"⟩ : MethodName) prog_47_method_19_code 2 (some .int) :: ws) ({ frames := 1, cells := 0, slots := 0, locals := 12 } : Room)) (fun a U => a = #[(.ref a1), (.int (1 : Int32))] ∧ Z.Warmed39 U.vm ∧ U.heap = h0) (fun _ _ _ _ _ => True) (fun _ U o U' => ∃ v L, o = .returned v ∧ Q_fd1 r h0 n0 v U'.heap L ∧ FrameEnd U o U' L ({ frames := 1, cells := 0, slots := 0, locals := 12 } : Room).cells ({ frames := 1, cells := 0, slots := 0, locals := 12 } : Room).slots) := by
  refine MetFree.of_bodySF (plainFor_of_name pn_3) hisR ?_
  intro p e s m args below meth c s₁ Bd hml0 hP hK
  obtain ⟨rfl, hZ, hh⟩ := hP
  have hx := Bd.exec
  have hby := Bd.bytes
  have hml : c.maxLocals = 2 := hml0
  have hown : s.vm.findClass "com/example/keyfold/keyfold/JsonValue" = some m.cls := findClass_of_methodNamed Bd.named
  have hnm := (name_of_methodNamed Bd.named Bd.method).1
  have X0 : Stand p l e ({ frames := 1, cells := 0, slots := 0, locals := 12 } : Room) s m #[(.ref a1), (.int (1 : Int32))] below meth c s₁ [] 0 0 := Stand.of_body Bd
  have e0 : s₁.heap = h0 := by rw [← hh, Bd.state]; rfl
  have N0 := Fr.nil n0
  have pre0 : ∀ t, Steps p.tables e below (s₁.setTop (mkF m 0 #[.val (.ref a1), .val (.int (1 : Int32))] [])) t → Steps p.tables e below (s₁.setTop (entryFrame m #[(.ref a1), (.int (1 : Int32))] 2)) t := fun t k => castTop (ef_6 m a1 (1 : Int32)) k
  obtain ⟨S_K, S_D, S_OBJECT, K_OBJECT, S_ARRAY, K_ARRAY, S_STRING, K_STRING, S_NUMBER, K_NUMBER, S_TRUE, K_TRUE, S_FALSE, K_FALSE, S_NULL, K_NULL⟩ := id En
  obtain ⟨cq101, q101, q101'⟩ := Exa.cell Ev
  obtain ⟨_, _, ⟨T101, L101, k101, n101⟩, -, X101, ⟨Lc101, hQ101, l101, y101, z101⟩, st101⟩ := X0.privateBack hx (y := (⟨"com/example/keyfold/keyfold/JsonValue", "check", "()V"⟩ : MethodName)) hown (mvT hZ (hw _ (List.mem_of_getElem? (i := 85) rfl))) (mvT hZ (hw _ (List.mem_of_getElem? (i := 86) rfl))) (mvT hZ (own_sel (y := (⟨"com/example/keyfold/keyfold/JsonValue", "check", "()V"⟩ : MethodName)) (hw _ (List.mem_of_getElem? (i := 61) rfl)) (hw _ (List.mem_of_getElem? (i := 87) rfl)) (hw _ (List.mem_of_getElem? (i := 86) rfl)) (by decide))) (Cond.privateMethod_at (mvP hZ (hw _ (List.mem_of_getElem? (i := 87) rfl)) (args := #[]))) (mvT hZ (hw _ (List.mem_of_getElem? (i := 88) rfl))) (by decide) (backOf (W := 0) (rmCk l Z a0 hw [] aK a_OBJECT a_ARRAY a_STRING a_NUMBER a_TRUE a_FALSE a_NULL a1 h0 n0 O0 En) hZ (hw _ (List.mem_of_getElem? (i := 88) rfl)) (hw _ (List.mem_of_getElem? (i := 62) rfl)) (by decide) (by decide)) (g := (mkF m 1 #[.val (.ref a1), .val (.int (1 : Int32))] [(.ref a1)])) rfl (by rw [hml]; rfl) (Steps.refl _) (a := a1) (by rw [e0]; exact q101) q101' (argsL := []) (rest := []) (lenOf pd_2 rfl) rfl (by show 2 * 0 + _ ≤ _; exact Nat.le_of_eq rfl) (hb hby dc9_1) (fun _ _ => ⟨rfl, e0, (by decide : 0 + 0 ≤ _), (by decide : 0 + 0 ≤ _)⟩)
  dsimp only [Pt.U, Pt.locs, Pt.cells, Pt.slots] at X101 l101 y101 z101 st101 hQ101
  subst l101 y101 z101
  obtain ⟨rfl, N101q, hh101⟩ := hQ101
  have N101 := Fr.app N0 N101q
  obtain ⟨T102, X102, e102, st102⟩ := getF X101 hx hZ hown (host := "") (Or.inl (hw _ (List.mem_of_getElem? (i := 67) rfl))) Via.refl hh101 Ft (g := (mkF m 5 #[.val (.ref a1), .val (.int (1 : Int32))] [(.ref a1)])) rfl rfl (hb hby dc9_5)
  obtain ⟨T103, X103, e103, st103⟩ := getRef X102 hx hZ hown (hw _ (List.mem_of_getElem? (i := 91) rfl)) e102 Fq (g := (mkF m 8 #[.val (.ref a1), .val (.int (1 : Int32))] [(.ref t1)])) rfl rfl (hb hby dc9_8)
  obtain ⟨T104, X104, e104, st104⟩ := getF X103 hx hZ hown (host := "") (Or.inl (hw _ (List.mem_of_getElem? (i := 69) rfl))) Via.refl e103 Fi (g := (mkF m 13 #[.val (.ref a1), .val (.int (1 : Int32))] [(.ref a1), (.int (4 : Int32)), (.ref br)])) rfl rfl (hb hby dc9_13)
  obtain ⟨cl105, Ar105, hin105, hat105⟩ := La.at (j := (1 : Int32)) Lq ⟨by decide, by decide⟩
  obtain ⟨fs, hr, hrun, hended, hW, hsame⟩ := X104.leave (v := some (.int r)) (fun h => by rw [Bd.returns] at h; cases h)
  refine ⟨_, _, pre0 _ ?_, hrun, hended, _, _, rfl, ?_, ⟨_, rfl⟩, hW, hsame.mono (by decide) (by decide)⟩
  · skip
    show Steps p.tables e below (s₁.setTop (mkF m 0 #[.val (.ref a1), .val (.int (1 : Int32))] [])) _
    refine XS.aloadN X0.here hx rfl (hb hby dc9_0) rfl rfl ?_
    show Steps p.tables e below (s₁.setTop (mkF m 1 #[.val (.ref a1), .val (.int (1 : Int32))] [(.ref a1)])) _
    refine st101.trans ?_
    show Steps p.tables e below (T101.setTop (mkF m 4 #[.val (.ref a1), .val (.int (1 : Int32))] [])) _
    refine XS.aloadN X101.here hx rfl (hb hby dc9_4) rfl rfl ?_
    show Steps p.tables e below (T101.setTop (mkF m 5 #[.val (.ref a1), .val (.int (1 : Int32))] [(.ref a1)])) _
    refine st102 _ ?_
    show Steps p.tables e below (T102.setTop (mkF m 8 #[.val (.ref a1), .val (.int (1 : Int32))] [(.ref t1)])) _
    refine st103 _ ?_
    show Steps p.tables e below (T103.setTop (mkF m 11 #[.val (.ref a1), .val (.int (1 : Int32))] [(.ref br)])) _
    refine XS.iconst X103.here hx rfl (hb hby dc9_11) ?_
    show Steps p.tables e below (T103.setTop (mkF m 12 #[.val (.ref a1), .val (.int (1 : Int32))] [(.int (4 : Int32)), (.ref br)])) _
    refine XS.aloadN X103.here hx rfl (hb hby dc9_12) rfl rfl ?_
    show Steps p.tables e below (T103.setTop (mkF m 13 #[.val (.ref a1), .val (.int (1 : Int32))] [(.ref a1), (.int (4 : Int32)), (.ref br)])) _
    refine st104 _ ?_
    show Steps p.tables e below (T104.setTop (mkF m 16 #[.val (.ref a1), .val (.int (1 : Int32))] [(.int (0 : Int32)), (.int (4 : Int32)), (.ref br)])) _
    refine XS.imul X104.here hx rfl (hb hby dc9_16) rfl ?_
    show Steps p.tables e below (T104.setTop (mkF m 17 #[.val (.ref a1), .val (.int (1 : Int32))] [(.int (0 : Int32)), (.ref br)])) _
    refine XS.iloadN X104.here hx rfl (hb hby dc9_17) rfl ?_
    show Steps p.tables e below (T104.setTop (mkF m 18 #[.val (.ref a1), .val (.int (1 : Int32))] [(.int (1 : Int32)), (.int (0 : Int32)), (.ref br)])) _
    refine XS.iadd X104.here hx rfl (hb hby dc9_18) rfl ?_
    show Steps p.tables e below (T104.setTop (mkF m 19 #[.val (.ref a1), .val (.int (1 : Int32))] [(.int (1 : Int32)), (.ref br)])) _
    refine X104.iaload hx (j := (1 : Int32)) (v := (.int (xs.getD ((1 : Int32)).toNatClampNeg 0))) (by rw [e104]; exact Ar105.1) (State.isArrayOf_alike hZ.alike Ar105.2.1) Ar105.2.2 hin105 hat105 (g := (mkF m 19 #[.val (.ref a1), .val (.int (1 : Int32))] [(.int (1 : Int32)), (.ref br)])) rfl rfl (hb hby dc9_19) _ ?_
    show Steps p.tables e below (T104.setTop (mkF m 20 #[.val (.ref a1), .val (.int (1 : Int32))] [(.int (xs.getD ((1 : Int32)).toNatClampNeg 0))])) _
    rw [hrr]
    show Steps p.tables e below (T104.setTop (mkF m 20 #[.val (.ref a1), .val (.int (1 : Int32))] [(.int r)])) _
    exact retI X104 hx Bd.returns (hb hby dc9_20) hr
  · show Q_fd1 r h0 n0 _ T104.heap _
    rw [e104]
    exact ⟨rfl, N101, rfl⟩
def Q_fd2 (r : Int32) (h0 : Heap) (n0 : Nat) (v : Option Value) (h : Heap) (L : List Loc) : Prop := v = some (.int r) ∧ Fr n0 L ∧ h = h0
set_option maxRecDepth 65536 in
set_option maxHeartbeats 40000000 in
theorem rmFd2 (l : Launch) (Z : State) (a0 : Array Value) (hw : ∀ d ∈ tables_1, d.before a0 Z = true) (ws : List Jvm.Cond) (aK a_OBJECT a_ARRAY a_STRING a_NUMBER a_TRUE a_FALSE a_NULL : Addr) (a1 t1 br : Addr) (xs : List Int32) (r : Int32) (h0 : Heap) (n0 : Nat) (O0 : Old Z n0 h0) (En : OwnEnv Z aK a_OBJECT a_ARRAY a_STRING a_NUMBER a_TRUE a_FALSE a_NULL) (Ev : Exa Z h0 a1 "com/example/keyfold/keyfold/JsonValue") (Ft : Fld Z h0 a1 "com/example/keyfold/keyfold/JsonValue" "tape" "Lcom/example/keyfold/keyfold/JsonValue$Tape;" (.ref t1)) (Fi : Fld Z h0 a1 "com/example/keyfold/keyfold/JsonValue" "index" "I" (.int (0 : Int32))) (Fq : Fld Z h0 t1 "com/example/keyfold/keyfold/JsonValue$Tape" "records" "[I" (.ref br)) (Lq : La Z h0 br .int (64 : Int32) xs) (hrr : (xs.getD ((2 : Int32)).toNatClampNeg 0) = r) :
    MetFree l (⟨"com/example/keyfold/keyfold/JsonValue", "field", "(I)I"⟩ : MethodName) (head1 (Jvm.Cond.code (⟨"com/example/keyfold/keyfold/JsonValue", "field", "(I)I"⟩ : MethodName) prog_47_method_19_code 2 (some .int) :: ws) ({ frames := 1, cells := 0, slots := 0, locals := 12 } : Room)) (fun a U => a = #[(.ref a1), (.int (2 : Int32))] ∧ Z.Warmed39 U.vm ∧ U.heap = h0) (fun _ _ _ _ _ => True) (fun _ U o U' => ∃ v L, o = .returned v ∧ Q_fd2 r h0 n0 v U'.heap L ∧ FrameEnd U o U' L ({ frames := 1, cells := 0, slots := 0, locals := 12 } : Room).cells ({ frames := 1, cells := 0, slots := 0, locals := 12 } : Room).slots) := by
  refine MetFree.of_bodySF (plainFor_of_name pn_3) hisR ?_
  intro p e s m args below meth c s₁ Bd hml0 hP hK
  obtain ⟨rfl, hZ, hh⟩ := hP
  have hx := Bd.exec
  have hby := Bd.bytes
  have hml : c.maxLocals = 2 := hml0
  have hown : s.vm.findClass "com/example/keyfold/keyfold/JsonValue" = some m.cls := findClass_of_methodNamed Bd.named
  have hnm := (name_of_methodNamed Bd.named Bd.method).1
  have X0 : Stand p l e ({ frames := 1, cells := 0, slots := 0, locals := 12 } : Room) s m #[(.ref a1), (.int (2 : Int32))] below meth c s₁ [] 0 0 := Stand.of_body Bd
  have e0 : s₁.heap = h0 := by rw [← hh, Bd.state]; rfl
  have N0 := Fr.nil n0
  have pre0 : ∀ t, Steps p.tables e below (s₁.setTop (mkF m 0 #[.val (.ref a1), .val (.int (2 : Int32))] [])) t → Steps p.tables e below (s₁.setTop (entryFrame m #[(.ref a1), (.int (2 : Int32))] 2)) t := fun t k => castTop (ef_6 m a1 (2 : Int32)) k
  obtain ⟨S_K, S_D, S_OBJECT, K_OBJECT, S_ARRAY, K_ARRAY, S_STRING, K_STRING, S_NUMBER, K_NUMBER, S_TRUE, K_TRUE, S_FALSE, K_FALSE, S_NULL, K_NULL⟩ := id En
  obtain ⟨cq101, q101, q101'⟩ := Exa.cell Ev
  obtain ⟨_, _, ⟨T101, L101, k101, n101⟩, -, X101, ⟨Lc101, hQ101, l101, y101, z101⟩, st101⟩ := X0.privateBack hx (y := (⟨"com/example/keyfold/keyfold/JsonValue", "check", "()V"⟩ : MethodName)) hown (mvT hZ (hw _ (List.mem_of_getElem? (i := 85) rfl))) (mvT hZ (hw _ (List.mem_of_getElem? (i := 86) rfl))) (mvT hZ (own_sel (y := (⟨"com/example/keyfold/keyfold/JsonValue", "check", "()V"⟩ : MethodName)) (hw _ (List.mem_of_getElem? (i := 61) rfl)) (hw _ (List.mem_of_getElem? (i := 87) rfl)) (hw _ (List.mem_of_getElem? (i := 86) rfl)) (by decide))) (Cond.privateMethod_at (mvP hZ (hw _ (List.mem_of_getElem? (i := 87) rfl)) (args := #[]))) (mvT hZ (hw _ (List.mem_of_getElem? (i := 88) rfl))) (by decide) (backOf (W := 0) (rmCk l Z a0 hw [] aK a_OBJECT a_ARRAY a_STRING a_NUMBER a_TRUE a_FALSE a_NULL a1 h0 n0 O0 En) hZ (hw _ (List.mem_of_getElem? (i := 88) rfl)) (hw _ (List.mem_of_getElem? (i := 62) rfl)) (by decide) (by decide)) (g := (mkF m 1 #[.val (.ref a1), .val (.int (2 : Int32))] [(.ref a1)])) rfl (by rw [hml]; rfl) (Steps.refl _) (a := a1) (by rw [e0]; exact q101) q101' (argsL := []) (rest := []) (lenOf pd_2 rfl) rfl (by show 2 * 0 + _ ≤ _; exact Nat.le_of_eq rfl) (hb hby dc9_1) (fun _ _ => ⟨rfl, e0, (by decide : 0 + 0 ≤ _), (by decide : 0 + 0 ≤ _)⟩)
  dsimp only [Pt.U, Pt.locs, Pt.cells, Pt.slots] at X101 l101 y101 z101 st101 hQ101
  subst l101 y101 z101
  obtain ⟨rfl, N101q, hh101⟩ := hQ101
  have N101 := Fr.app N0 N101q
  obtain ⟨T102, X102, e102, st102⟩ := getF X101 hx hZ hown (host := "") (Or.inl (hw _ (List.mem_of_getElem? (i := 67) rfl))) Via.refl hh101 Ft (g := (mkF m 5 #[.val (.ref a1), .val (.int (2 : Int32))] [(.ref a1)])) rfl rfl (hb hby dc9_5)
  obtain ⟨T103, X103, e103, st103⟩ := getRef X102 hx hZ hown (hw _ (List.mem_of_getElem? (i := 91) rfl)) e102 Fq (g := (mkF m 8 #[.val (.ref a1), .val (.int (2 : Int32))] [(.ref t1)])) rfl rfl (hb hby dc9_8)
  obtain ⟨T104, X104, e104, st104⟩ := getF X103 hx hZ hown (host := "") (Or.inl (hw _ (List.mem_of_getElem? (i := 69) rfl))) Via.refl e103 Fi (g := (mkF m 13 #[.val (.ref a1), .val (.int (2 : Int32))] [(.ref a1), (.int (4 : Int32)), (.ref br)])) rfl rfl (hb hby dc9_13)
  obtain ⟨cl105, Ar105, hin105, hat105⟩ := La.at (j := (2 : Int32)) Lq ⟨by decide, by decide⟩
  obtain ⟨fs, hr, hrun, hended, hW, hsame⟩ := X104.leave (v := some (.int r)) (fun h => by rw [Bd.returns] at h; cases h)
  refine ⟨_, _, pre0 _ ?_, hrun, hended, _, _, rfl, ?_, ⟨_, rfl⟩, hW, hsame.mono (by decide) (by decide)⟩
  · skip
    show Steps p.tables e below (s₁.setTop (mkF m 0 #[.val (.ref a1), .val (.int (2 : Int32))] [])) _
    refine XS.aloadN X0.here hx rfl (hb hby dc9_0) rfl rfl ?_
    show Steps p.tables e below (s₁.setTop (mkF m 1 #[.val (.ref a1), .val (.int (2 : Int32))] [(.ref a1)])) _
    refine st101.trans ?_
    show Steps p.tables e below (T101.setTop (mkF m 4 #[.val (.ref a1), .val (.int (2 : Int32))] [])) _
    refine XS.aloadN X101.here hx rfl (hb hby dc9_4) rfl rfl ?_
    show Steps p.tables e below (T101.setTop (mkF m 5 #[.val (.ref a1), .val (.int (2 : Int32))] [(.ref a1)])) _
    refine st102 _ ?_
    show Steps p.tables e below (T102.setTop (mkF m 8 #[.val (.ref a1), .val (.int (2 : Int32))] [(.ref t1)])) _
    refine st103 _ ?_
    show Steps p.tables e below (T103.setTop (mkF m 11 #[.val (.ref a1), .val (.int (2 : Int32))] [(.ref br)])) _
    refine XS.iconst X103.here hx rfl (hb hby dc9_11) ?_
    show Steps p.tables e below (T103.setTop (mkF m 12 #[.val (.ref a1), .val (.int (2 : Int32))] [(.int (4 : Int32)), (.ref br)])) _
    refine XS.aloadN X103.here hx rfl (hb hby dc9_12) rfl rfl ?_
    show Steps p.tables e below (T103.setTop (mkF m 13 #[.val (.ref a1), .val (.int (2 : Int32))] [(.ref a1), (.int (4 : Int32)), (.ref br)])) _
    refine st104 _ ?_
    show Steps p.tables e below (T104.setTop (mkF m 16 #[.val (.ref a1), .val (.int (2 : Int32))] [(.int (0 : Int32)), (.int (4 : Int32)), (.ref br)])) _
    refine XS.imul X104.here hx rfl (hb hby dc9_16) rfl ?_
    show Steps p.tables e below (T104.setTop (mkF m 17 #[.val (.ref a1), .val (.int (2 : Int32))] [(.int (0 : Int32)), (.ref br)])) _
    refine XS.iloadN X104.here hx rfl (hb hby dc9_17) rfl ?_
    show Steps p.tables e below (T104.setTop (mkF m 18 #[.val (.ref a1), .val (.int (2 : Int32))] [(.int (2 : Int32)), (.int (0 : Int32)), (.ref br)])) _
    refine XS.iadd X104.here hx rfl (hb hby dc9_18) rfl ?_
    show Steps p.tables e below (T104.setTop (mkF m 19 #[.val (.ref a1), .val (.int (2 : Int32))] [(.int (2 : Int32)), (.ref br)])) _
    refine X104.iaload hx (j := (2 : Int32)) (v := (.int (xs.getD ((2 : Int32)).toNatClampNeg 0))) (by rw [e104]; exact Ar105.1) (State.isArrayOf_alike hZ.alike Ar105.2.1) Ar105.2.2 hin105 hat105 (g := (mkF m 19 #[.val (.ref a1), .val (.int (2 : Int32))] [(.int (2 : Int32)), (.ref br)])) rfl rfl (hb hby dc9_19) _ ?_
    show Steps p.tables e below (T104.setTop (mkF m 20 #[.val (.ref a1), .val (.int (2 : Int32))] [(.int (xs.getD ((2 : Int32)).toNatClampNeg 0))])) _
    rw [hrr]
    show Steps p.tables e below (T104.setTop (mkF m 20 #[.val (.ref a1), .val (.int (2 : Int32))] [(.int r)])) _
    exact retI X104 hx Bd.returns (hb hby dc9_20) hr
  · show Q_fd2 r h0 n0 _ T104.heap _
    rw [e104]
    exact ⟨rfl, N101, rfl⟩
def Q_fd3 (r : Int32) (h0 : Heap) (n0 : Nat) (v : Option Value) (h : Heap) (L : List Loc) : Prop := v = some (.int r) ∧ Fr n0 L ∧ h = h0
set_option maxRecDepth 65536 in
set_option maxHeartbeats 40000000 in
theorem rmFd3 (l : Launch) (Z : State) (a0 : Array Value) (hw : ∀ d ∈ tables_1, d.before a0 Z = true) (ws : List Jvm.Cond) (aK a_OBJECT a_ARRAY a_STRING a_NUMBER a_TRUE a_FALSE a_NULL : Addr) (a1 t1 br : Addr) (xs : List Int32) (r : Int32) (h0 : Heap) (n0 : Nat) (O0 : Old Z n0 h0) (En : OwnEnv Z aK a_OBJECT a_ARRAY a_STRING a_NUMBER a_TRUE a_FALSE a_NULL) (Ev : Exa Z h0 a1 "com/example/keyfold/keyfold/JsonValue") (Ft : Fld Z h0 a1 "com/example/keyfold/keyfold/JsonValue" "tape" "Lcom/example/keyfold/keyfold/JsonValue$Tape;" (.ref t1)) (Fi : Fld Z h0 a1 "com/example/keyfold/keyfold/JsonValue" "index" "I" (.int (0 : Int32))) (Fq : Fld Z h0 t1 "com/example/keyfold/keyfold/JsonValue$Tape" "records" "[I" (.ref br)) (Lq : La Z h0 br .int (64 : Int32) xs) (hrr : (xs.getD ((3 : Int32)).toNatClampNeg 0) = r) :
    MetFree l (⟨"com/example/keyfold/keyfold/JsonValue", "field", "(I)I"⟩ : MethodName) (head1 (Jvm.Cond.code (⟨"com/example/keyfold/keyfold/JsonValue", "field", "(I)I"⟩ : MethodName) prog_47_method_19_code 2 (some .int) :: ws) ({ frames := 1, cells := 0, slots := 0, locals := 12 } : Room)) (fun a U => a = #[(.ref a1), (.int (3 : Int32))] ∧ Z.Warmed39 U.vm ∧ U.heap = h0) (fun _ _ _ _ _ => True) (fun _ U o U' => ∃ v L, o = .returned v ∧ Q_fd3 r h0 n0 v U'.heap L ∧ FrameEnd U o U' L ({ frames := 1, cells := 0, slots := 0, locals := 12 } : Room).cells ({ frames := 1, cells := 0, slots := 0, locals := 12 } : Room).slots) := by
  refine MetFree.of_bodySF (plainFor_of_name pn_3) hisR ?_
  intro p e s m args below meth c s₁ Bd hml0 hP hK
  obtain ⟨rfl, hZ, hh⟩ := hP
  have hx := Bd.exec
  have hby := Bd.bytes
  have hml : c.maxLocals = 2 := hml0
  have hown : s.vm.findClass "com/example/keyfold/keyfold/JsonValue" = some m.cls := findClass_of_methodNamed Bd.named
  have hnm := (name_of_methodNamed Bd.named Bd.method).1
  have X0 : Stand p l e ({ frames := 1, cells := 0, slots := 0, locals := 12 } : Room) s m #[(.ref a1), (.int (3 : Int32))] below meth c s₁ [] 0 0 := Stand.of_body Bd
  have e0 : s₁.heap = h0 := by rw [← hh, Bd.state]; rfl
  have N0 := Fr.nil n0
  have pre0 : ∀ t, Steps p.tables e below (s₁.setTop (mkF m 0 #[.val (.ref a1), .val (.int (3 : Int32))] [])) t → Steps p.tables e below (s₁.setTop (entryFrame m #[(.ref a1), (.int (3 : Int32))] 2)) t := fun t k => castTop (ef_6 m a1 (3 : Int32)) k
  obtain ⟨S_K, S_D, S_OBJECT, K_OBJECT, S_ARRAY, K_ARRAY, S_STRING, K_STRING, S_NUMBER, K_NUMBER, S_TRUE, K_TRUE, S_FALSE, K_FALSE, S_NULL, K_NULL⟩ := id En
  obtain ⟨cq101, q101, q101'⟩ := Exa.cell Ev
  obtain ⟨_, _, ⟨T101, L101, k101, n101⟩, -, X101, ⟨Lc101, hQ101, l101, y101, z101⟩, st101⟩ := X0.privateBack hx (y := (⟨"com/example/keyfold/keyfold/JsonValue", "check", "()V"⟩ : MethodName)) hown (mvT hZ (hw _ (List.mem_of_getElem? (i := 85) rfl))) (mvT hZ (hw _ (List.mem_of_getElem? (i := 86) rfl))) (mvT hZ (own_sel (y := (⟨"com/example/keyfold/keyfold/JsonValue", "check", "()V"⟩ : MethodName)) (hw _ (List.mem_of_getElem? (i := 61) rfl)) (hw _ (List.mem_of_getElem? (i := 87) rfl)) (hw _ (List.mem_of_getElem? (i := 86) rfl)) (by decide))) (Cond.privateMethod_at (mvP hZ (hw _ (List.mem_of_getElem? (i := 87) rfl)) (args := #[]))) (mvT hZ (hw _ (List.mem_of_getElem? (i := 88) rfl))) (by decide) (backOf (W := 0) (rmCk l Z a0 hw [] aK a_OBJECT a_ARRAY a_STRING a_NUMBER a_TRUE a_FALSE a_NULL a1 h0 n0 O0 En) hZ (hw _ (List.mem_of_getElem? (i := 88) rfl)) (hw _ (List.mem_of_getElem? (i := 62) rfl)) (by decide) (by decide)) (g := (mkF m 1 #[.val (.ref a1), .val (.int (3 : Int32))] [(.ref a1)])) rfl (by rw [hml]; rfl) (Steps.refl _) (a := a1) (by rw [e0]; exact q101) q101' (argsL := []) (rest := []) (lenOf pd_2 rfl) rfl (by show 2 * 0 + _ ≤ _; exact Nat.le_of_eq rfl) (hb hby dc9_1) (fun _ _ => ⟨rfl, e0, (by decide : 0 + 0 ≤ _), (by decide : 0 + 0 ≤ _)⟩)
  dsimp only [Pt.U, Pt.locs, Pt.cells, Pt.slots] at X101 l101 y101 z101 st101 hQ101
  subst l101 y101 z101
  obtain ⟨rfl, N101q, hh101⟩ := hQ101
  have N101 := Fr.app N0 N101q
  obtain ⟨T102, X102, e102, st102⟩ := getF X101 hx hZ hown (host := "") (Or.inl (hw _ (List.mem_of_getElem? (i := 67) rfl))) Via.refl hh101 Ft (g := (mkF m 5 #[.val (.ref a1), .val (.int (3 : Int32))] [(.ref a1)])) rfl rfl (hb hby dc9_5)
  obtain ⟨T103, X103, e103, st103⟩ := getRef X102 hx hZ hown (hw _ (List.mem_of_getElem? (i := 91) rfl)) e102 Fq (g := (mkF m 8 #[.val (.ref a1), .val (.int (3 : Int32))] [(.ref t1)])) rfl rfl (hb hby dc9_8)
  obtain ⟨T104, X104, e104, st104⟩ := getF X103 hx hZ hown (host := "") (Or.inl (hw _ (List.mem_of_getElem? (i := 69) rfl))) Via.refl e103 Fi (g := (mkF m 13 #[.val (.ref a1), .val (.int (3 : Int32))] [(.ref a1), (.int (4 : Int32)), (.ref br)])) rfl rfl (hb hby dc9_13)
  obtain ⟨cl105, Ar105, hin105, hat105⟩ := La.at (j := (3 : Int32)) Lq ⟨by decide, by decide⟩
  obtain ⟨fs, hr, hrun, hended, hW, hsame⟩ := X104.leave (v := some (.int r)) (fun h => by rw [Bd.returns] at h; cases h)
  refine ⟨_, _, pre0 _ ?_, hrun, hended, _, _, rfl, ?_, ⟨_, rfl⟩, hW, hsame.mono (by decide) (by decide)⟩
  · skip
    show Steps p.tables e below (s₁.setTop (mkF m 0 #[.val (.ref a1), .val (.int (3 : Int32))] [])) _
    refine XS.aloadN X0.here hx rfl (hb hby dc9_0) rfl rfl ?_
    show Steps p.tables e below (s₁.setTop (mkF m 1 #[.val (.ref a1), .val (.int (3 : Int32))] [(.ref a1)])) _
    refine st101.trans ?_
    show Steps p.tables e below (T101.setTop (mkF m 4 #[.val (.ref a1), .val (.int (3 : Int32))] [])) _
    refine XS.aloadN X101.here hx rfl (hb hby dc9_4) rfl rfl ?_
    show Steps p.tables e below (T101.setTop (mkF m 5 #[.val (.ref a1), .val (.int (3 : Int32))] [(.ref a1)])) _
    refine st102 _ ?_
    show Steps p.tables e below (T102.setTop (mkF m 8 #[.val (.ref a1), .val (.int (3 : Int32))] [(.ref t1)])) _
    refine st103 _ ?_
    show Steps p.tables e below (T103.setTop (mkF m 11 #[.val (.ref a1), .val (.int (3 : Int32))] [(.ref br)])) _
    refine XS.iconst X103.here hx rfl (hb hby dc9_11) ?_
    show Steps p.tables e below (T103.setTop (mkF m 12 #[.val (.ref a1), .val (.int (3 : Int32))] [(.int (4 : Int32)), (.ref br)])) _
    refine XS.aloadN X103.here hx rfl (hb hby dc9_12) rfl rfl ?_
    show Steps p.tables e below (T103.setTop (mkF m 13 #[.val (.ref a1), .val (.int (3 : Int32))] [(.ref a1), (.int (4 : Int32)), (.ref br)])) _
    refine st104 _ ?_
    show Steps p.tables e below (T104.setTop (mkF m 16 #[.val (.ref a1), .val (.int (3 : Int32))] [(.int (0 : Int32)), (.int (4 : Int32)), (.ref br)])) _
    refine XS.imul X104.here hx rfl (hb hby dc9_16) rfl ?_
    show Steps p.tables e below (T104.setTop (mkF m 17 #[.val (.ref a1), .val (.int (3 : Int32))] [(.int (0 : Int32)), (.ref br)])) _
    refine XS.iloadN X104.here hx rfl (hb hby dc9_17) rfl ?_
    show Steps p.tables e below (T104.setTop (mkF m 18 #[.val (.ref a1), .val (.int (3 : Int32))] [(.int (3 : Int32)), (.int (0 : Int32)), (.ref br)])) _
    refine XS.iadd X104.here hx rfl (hb hby dc9_18) rfl ?_
    show Steps p.tables e below (T104.setTop (mkF m 19 #[.val (.ref a1), .val (.int (3 : Int32))] [(.int (3 : Int32)), (.ref br)])) _
    refine X104.iaload hx (j := (3 : Int32)) (v := (.int (xs.getD ((3 : Int32)).toNatClampNeg 0))) (by rw [e104]; exact Ar105.1) (State.isArrayOf_alike hZ.alike Ar105.2.1) Ar105.2.2 hin105 hat105 (g := (mkF m 19 #[.val (.ref a1), .val (.int (3 : Int32))] [(.int (3 : Int32)), (.ref br)])) rfl rfl (hb hby dc9_19) _ ?_
    show Steps p.tables e below (T104.setTop (mkF m 20 #[.val (.ref a1), .val (.int (3 : Int32))] [(.int (xs.getD ((3 : Int32)).toNatClampNeg 0))])) _
    rw [hrr]
    show Steps p.tables e below (T104.setTop (mkF m 20 #[.val (.ref a1), .val (.int (3 : Int32))] [(.int r)])) _
    exact retI X104 hx Bd.returns (hb hby dc9_20) hr
  · show Q_fd3 r h0 n0 _ T104.heap _
    rw [e104]
    exact ⟨rfl, N101, rfl⟩
def Q_st (r0 r1 r2 r3 : Int32) (h0 : Heap) (n0 : Nat) (v : Option Value) (h : Heap) (L : List Loc) : Prop := v = some (.int r1) ∧ Fr n0 L ∧ h = h0
theorem dc10_0 : decode prog_47_method_17_code 0 = .ok (.aload_n 0, 1) := by decide +kernel
theorem dc10_1 : decode prog_47_method_17_code 1 = .ok (.iconst 1, 1) := by decide +kernel
theorem dc10_2 : decode prog_47_method_17_code 2 = .ok (.invokevirtual 27, 3) := by decide +kernel
theorem pd_3 : parseMethodDescriptor "(I)I" = some ⟨[.int], some .int⟩ := by decide +kernel
theorem dc10_5 : decode prog_47_method_17_code 5 = .ok (.ireturn, 1) := by decide +kernel
set_option maxRecDepth 65536 in
set_option maxHeartbeats 40000000 in
theorem rm_st (l : Launch) (Z : State) (a0 : Array Value) (hw : ∀ d ∈ tables_1, d.before a0 Z = true) (ws : List Jvm.Cond) (aK a_OBJECT a_ARRAY a_STRING a_NUMBER a_TRUE a_FALSE a_NULL : Addr) (a1 t1 br : Addr) (xs : List Int32) (r0 r1 r2 r3 : Int32) (h0 : Heap) (n0 : Nat) (O0 : Old Z n0 h0) (En : OwnEnv Z aK a_OBJECT a_ARRAY a_STRING a_NUMBER a_TRUE a_FALSE a_NULL) (Ev : Exa Z h0 a1 "com/example/keyfold/keyfold/JsonValue") (Ft : Fld Z h0 a1 "com/example/keyfold/keyfold/JsonValue" "tape" "Lcom/example/keyfold/keyfold/JsonValue$Tape;" (.ref t1)) (Fi : Fld Z h0 a1 "com/example/keyfold/keyfold/JsonValue" "index" "I" (.int (0 : Int32))) (Fq : Fld Z h0 t1 "com/example/keyfold/keyfold/JsonValue$Tape" "records" "[I" (.ref br)) (Lq : La Z h0 br .int (64 : Int32) xs) (Rc : Rec xs r0 r1 r2 r3) :
    MetFree l (⟨"com/example/keyfold/keyfold/JsonValue", "start", "()I"⟩ : MethodName) (head1 (Jvm.Cond.code (⟨"com/example/keyfold/keyfold/JsonValue", "start", "()I"⟩ : MethodName) prog_47_method_17_code 1 (some .int) :: ws) ({ frames := 2, cells := 0, slots := 0, locals := 25 } : Room)) (fun a U => a = #[(.ref a1)] ∧ Z.Warmed39 U.vm ∧ U.heap = h0) (fun _ _ _ _ _ => True) (fun _ U o U' => ∃ v L, o = .returned v ∧ Q_st r0 r1 r2 r3 h0 n0 v U'.heap L ∧ FrameEnd U o U' L ({ frames := 2, cells := 0, slots := 0, locals := 25 } : Room).cells ({ frames := 2, cells := 0, slots := 0, locals := 25 } : Room).slots) := by
  refine MetFree.of_bodySF (plainFor_of_name pn_3) hisR ?_
  intro p e s m args below meth c s₁ Bd hml0 hP hK
  obtain ⟨rfl, hZ, hh⟩ := hP
  have hx := Bd.exec
  have hby := Bd.bytes
  have hml : c.maxLocals = 1 := hml0
  have hown : s.vm.findClass "com/example/keyfold/keyfold/JsonValue" = some m.cls := findClass_of_methodNamed Bd.named
  have hnm := (name_of_methodNamed Bd.named Bd.method).1
  have X0 : Stand p l e ({ frames := 2, cells := 0, slots := 0, locals := 25 } : Room) s m #[(.ref a1)] below meth c s₁ [] 0 0 := Stand.of_body Bd
  have e0 : s₁.heap = h0 := by rw [← hh, Bd.state]; rfl
  have N0 := Fr.nil n0
  have pre0 : ∀ t, Steps p.tables e below (s₁.setTop (mkF m 0 #[.val (.ref a1)] [])) t → Steps p.tables e below (s₁.setTop (entryFrame m #[(.ref a1)] 1)) t := fun t k => castTop (ef_1 m a1) k
  obtain ⟨S_K, S_D, S_OBJECT, K_OBJECT, S_ARRAY, K_ARRAY, S_STRING, K_STRING, S_NUMBER, K_NUMBER, S_TRUE, K_TRUE, S_FALSE, K_FALSE, S_NULL, K_NULL⟩ := id En
  obtain ⟨cq101, q101, q101'⟩ := Exa.cell Ev
  obtain ⟨_, _, ⟨T101, L101, k101, n101⟩, -, X101, ⟨Lc101, hQ101, l101, y101, z101⟩, st101⟩ := X0.privateBack hx (y := (⟨"com/example/keyfold/keyfold/JsonValue", "field", "(I)I"⟩ : MethodName)) hown (mvT hZ (hw _ (List.mem_of_getElem? (i := 81) rfl))) (mvT hZ (hw _ (List.mem_of_getElem? (i := 82) rfl))) (mvT hZ (own_sel (y := (⟨"com/example/keyfold/keyfold/JsonValue", "field", "(I)I"⟩ : MethodName)) (hw _ (List.mem_of_getElem? (i := 61) rfl)) (hw _ (List.mem_of_getElem? (i := 83) rfl)) (hw _ (List.mem_of_getElem? (i := 82) rfl)) (by decide))) (Cond.privateMethod_at (mvP hZ (hw _ (List.mem_of_getElem? (i := 83) rfl)) (args := #[]))) (mvT hZ (hw _ (List.mem_of_getElem? (i := 84) rfl))) (by decide) (backOf (W := 0) (rmFd1 l Z a0 hw [] aK a_OBJECT a_ARRAY a_STRING a_NUMBER a_TRUE a_FALSE a_NULL a1 t1 br xs r1 h0 n0 O0 En Ev Ft Fi Fq Lq Rc.2.1) hZ (hw _ (List.mem_of_getElem? (i := 84) rfl)) (hw _ (List.mem_of_getElem? (i := 62) rfl)) (by decide) (by decide)) (g := (mkF m 2 #[.val (.ref a1)] [(.int (1 : Int32)), (.ref a1)])) rfl (by rw [hml]; rfl) (Steps.refl _) (a := a1) (by rw [e0]; exact q101) q101' (argsL := [(.int (1 : Int32))]) (rest := []) (lenOf pd_3 rfl) rfl (by show 2 * 0 + _ ≤ _; exact Nat.le_of_eq rfl) (hb hby dc10_2) (fun _ _ => ⟨rfl, e0, (by decide : 0 + 0 ≤ _), (by decide : 0 + 0 ≤ _)⟩)
  dsimp only [Pt.U, Pt.locs, Pt.cells, Pt.slots] at X101 l101 y101 z101 st101 hQ101
  subst l101 y101 z101
  obtain ⟨rfl, N101q, hh101⟩ := hQ101
  have N101 := Fr.app N0 N101q
  obtain ⟨fs, hr, hrun, hended, hW, hsame⟩ := X101.leave (v := some (.int r1)) (fun h => by rw [Bd.returns] at h; cases h)
  refine ⟨_, _, pre0 _ ?_, hrun, hended, _, _, rfl, ?_, ⟨_, rfl⟩, hW, hsame.mono (by decide) (by decide)⟩
  · skip
    show Steps p.tables e below (s₁.setTop (mkF m 0 #[.val (.ref a1)] [])) _
    refine XS.aloadN X0.here hx rfl (hb hby dc10_0) rfl rfl ?_
    show Steps p.tables e below (s₁.setTop (mkF m 1 #[.val (.ref a1)] [(.ref a1)])) _
    refine XS.iconst X0.here hx rfl (hb hby dc10_1) ?_
    show Steps p.tables e below (s₁.setTop (mkF m 2 #[.val (.ref a1)] [(.int (1 : Int32)), (.ref a1)])) _
    refine st101.trans ?_
    show Steps p.tables e below (T101.setTop (mkF m 5 #[.val (.ref a1)] [(.int r1)])) _
    exact retI X101 hx Bd.returns (hb hby dc10_5) hr
  · show Q_st r0 r1 r2 r3 h0 n0 _ T101.heap _
    rw [hh101]
    exact ⟨rfl, N101, rfl⟩
def Q_en (r0 r1 r2 r3 : Int32) (h0 : Heap) (n0 : Nat) (v : Option Value) (h : Heap) (L : List Loc) : Prop := v = some (.int r2) ∧ Fr n0 L ∧ h = h0
theorem dc11_0 : decode prog_47_method_18_code 0 = .ok (.aload_n 0, 1) := by decide +kernel
theorem dc11_1 : decode prog_47_method_18_code 1 = .ok (.iconst 2, 1) := by decide +kernel
theorem dc11_2 : decode prog_47_method_18_code 2 = .ok (.invokevirtual 27, 3) := by decide +kernel
theorem dc11_5 : decode prog_47_method_18_code 5 = .ok (.ireturn, 1) := by decide +kernel
set_option maxRecDepth 65536 in
set_option maxHeartbeats 40000000 in
theorem rm_en (l : Launch) (Z : State) (a0 : Array Value) (hw : ∀ d ∈ tables_1, d.before a0 Z = true) (ws : List Jvm.Cond) (aK a_OBJECT a_ARRAY a_STRING a_NUMBER a_TRUE a_FALSE a_NULL : Addr) (a1 t1 br : Addr) (xs : List Int32) (r0 r1 r2 r3 : Int32) (h0 : Heap) (n0 : Nat) (O0 : Old Z n0 h0) (En : OwnEnv Z aK a_OBJECT a_ARRAY a_STRING a_NUMBER a_TRUE a_FALSE a_NULL) (Ev : Exa Z h0 a1 "com/example/keyfold/keyfold/JsonValue") (Ft : Fld Z h0 a1 "com/example/keyfold/keyfold/JsonValue" "tape" "Lcom/example/keyfold/keyfold/JsonValue$Tape;" (.ref t1)) (Fi : Fld Z h0 a1 "com/example/keyfold/keyfold/JsonValue" "index" "I" (.int (0 : Int32))) (Fq : Fld Z h0 t1 "com/example/keyfold/keyfold/JsonValue$Tape" "records" "[I" (.ref br)) (Lq : La Z h0 br .int (64 : Int32) xs) (Rc : Rec xs r0 r1 r2 r3) :
    MetFree l (⟨"com/example/keyfold/keyfold/JsonValue", "end", "()I"⟩ : MethodName) (head1 (Jvm.Cond.code (⟨"com/example/keyfold/keyfold/JsonValue", "end", "()I"⟩ : MethodName) prog_47_method_18_code 1 (some .int) :: ws) ({ frames := 2, cells := 0, slots := 0, locals := 25 } : Room)) (fun a U => a = #[(.ref a1)] ∧ Z.Warmed39 U.vm ∧ U.heap = h0) (fun _ _ _ _ _ => True) (fun _ U o U' => ∃ v L, o = .returned v ∧ Q_en r0 r1 r2 r3 h0 n0 v U'.heap L ∧ FrameEnd U o U' L ({ frames := 2, cells := 0, slots := 0, locals := 25 } : Room).cells ({ frames := 2, cells := 0, slots := 0, locals := 25 } : Room).slots) := by
  refine MetFree.of_bodySF (plainFor_of_name pn_3) hisR ?_
  intro p e s m args below meth c s₁ Bd hml0 hP hK
  obtain ⟨rfl, hZ, hh⟩ := hP
  have hx := Bd.exec
  have hby := Bd.bytes
  have hml : c.maxLocals = 1 := hml0
  have hown : s.vm.findClass "com/example/keyfold/keyfold/JsonValue" = some m.cls := findClass_of_methodNamed Bd.named
  have hnm := (name_of_methodNamed Bd.named Bd.method).1
  have X0 : Stand p l e ({ frames := 2, cells := 0, slots := 0, locals := 25 } : Room) s m #[(.ref a1)] below meth c s₁ [] 0 0 := Stand.of_body Bd
  have e0 : s₁.heap = h0 := by rw [← hh, Bd.state]; rfl
  have N0 := Fr.nil n0
  have pre0 : ∀ t, Steps p.tables e below (s₁.setTop (mkF m 0 #[.val (.ref a1)] [])) t → Steps p.tables e below (s₁.setTop (entryFrame m #[(.ref a1)] 1)) t := fun t k => castTop (ef_1 m a1) k
  obtain ⟨S_K, S_D, S_OBJECT, K_OBJECT, S_ARRAY, K_ARRAY, S_STRING, K_STRING, S_NUMBER, K_NUMBER, S_TRUE, K_TRUE, S_FALSE, K_FALSE, S_NULL, K_NULL⟩ := id En
  obtain ⟨cq101, q101, q101'⟩ := Exa.cell Ev
  obtain ⟨_, _, ⟨T101, L101, k101, n101⟩, -, X101, ⟨Lc101, hQ101, l101, y101, z101⟩, st101⟩ := X0.privateBack hx (y := (⟨"com/example/keyfold/keyfold/JsonValue", "field", "(I)I"⟩ : MethodName)) hown (mvT hZ (hw _ (List.mem_of_getElem? (i := 81) rfl))) (mvT hZ (hw _ (List.mem_of_getElem? (i := 82) rfl))) (mvT hZ (own_sel (y := (⟨"com/example/keyfold/keyfold/JsonValue", "field", "(I)I"⟩ : MethodName)) (hw _ (List.mem_of_getElem? (i := 61) rfl)) (hw _ (List.mem_of_getElem? (i := 83) rfl)) (hw _ (List.mem_of_getElem? (i := 82) rfl)) (by decide))) (Cond.privateMethod_at (mvP hZ (hw _ (List.mem_of_getElem? (i := 83) rfl)) (args := #[]))) (mvT hZ (hw _ (List.mem_of_getElem? (i := 84) rfl))) (by decide) (backOf (W := 0) (rmFd2 l Z a0 hw [] aK a_OBJECT a_ARRAY a_STRING a_NUMBER a_TRUE a_FALSE a_NULL a1 t1 br xs r2 h0 n0 O0 En Ev Ft Fi Fq Lq Rc.2.2.1) hZ (hw _ (List.mem_of_getElem? (i := 84) rfl)) (hw _ (List.mem_of_getElem? (i := 62) rfl)) (by decide) (by decide)) (g := (mkF m 2 #[.val (.ref a1)] [(.int (2 : Int32)), (.ref a1)])) rfl (by rw [hml]; rfl) (Steps.refl _) (a := a1) (by rw [e0]; exact q101) q101' (argsL := [(.int (2 : Int32))]) (rest := []) (lenOf pd_3 rfl) rfl (by show 2 * 0 + _ ≤ _; exact Nat.le_of_eq rfl) (hb hby dc11_2) (fun _ _ => ⟨rfl, e0, (by decide : 0 + 0 ≤ _), (by decide : 0 + 0 ≤ _)⟩)
  dsimp only [Pt.U, Pt.locs, Pt.cells, Pt.slots] at X101 l101 y101 z101 st101 hQ101
  subst l101 y101 z101
  obtain ⟨rfl, N101q, hh101⟩ := hQ101
  have N101 := Fr.app N0 N101q
  obtain ⟨fs, hr, hrun, hended, hW, hsame⟩ := X101.leave (v := some (.int r2)) (fun h => by rw [Bd.returns] at h; cases h)
  refine ⟨_, _, pre0 _ ?_, hrun, hended, _, _, rfl, ?_, ⟨_, rfl⟩, hW, hsame.mono (by decide) (by decide)⟩
  · skip
    show Steps p.tables e below (s₁.setTop (mkF m 0 #[.val (.ref a1)] [])) _
    refine XS.aloadN X0.here hx rfl (hb hby dc11_0) rfl rfl ?_
    show Steps p.tables e below (s₁.setTop (mkF m 1 #[.val (.ref a1)] [(.ref a1)])) _
    refine XS.iconst X0.here hx rfl (hb hby dc11_1) ?_
    show Steps p.tables e below (s₁.setTop (mkF m 2 #[.val (.ref a1)] [(.int (2 : Int32)), (.ref a1)])) _
    refine st101.trans ?_
    show Steps p.tables e below (T101.setTop (mkF m 5 #[.val (.ref a1)] [(.int r2)])) _
    exact retI X101 hx Bd.returns (hb hby dc11_5) hr
  · show Q_en r0 r1 r2 r3 h0 n0 _ T101.heap _
    rw [hh101]
    exact ⟨rfl, N101, rfl⟩
def Q_fm1 (r0 r1 r2 : Int32) (h0 : Heap) (n0 : Nat) (v : Option Value) (h : Heap) (L : List Loc) : Prop := v = some (.int (-1 : Int32)) ∧ Fr n0 L ∧ h = h0
theorem ef_7 (m : MethodId) (x0 : Addr) : entryFrame m #[(.ref x0)] 2 = mkF m 0 #[.val (.ref x0), .unset] [] := by first | (simp [entryFrame, mkF, argsToLocals, Value.category]; done) | rfl
theorem dc12_0 : decode prog_47_method_5_code 0 = .ok (.aload_n 0, 1) := by decide +kernel
theorem dc12_1 : decode prog_47_method_5_code 1 = .ok (.getfield 13, 3) := by decide +kernel
theorem dc12_4 : decode prog_47_method_5_code 4 = .ok (.iconst 1, 1) := by decide +kernel
theorem dc12_5 : decode prog_47_method_5_code 5 = .ok (.iadd, 1) := by decide +kernel
theorem dc12_6 : decode prog_47_method_5_code 6 = .ok (.istore_n 1, 1) := by decide +kernel
theorem dc12_7 : decode prog_47_method_5_code 7 = .ok (.iload_n 1, 1) := by decide +kernel
theorem dc12_8 : decode prog_47_method_5_code 8 = .ok (.aload_n 0, 1) := by decide +kernel
theorem dc12_9 : decode prog_47_method_5_code 9 = .ok (.iconst 3, 1) := by decide +kernel
theorem dc12_10 : decode prog_47_method_5_code 10 = .ok (.invokevirtual 27, 3) := by decide +kernel
theorem dc12_13 : decode prog_47_method_5_code 13 = .ok (.if_icmp .ge 7, 3) := by decide +kernel
theorem dc12_20 : decode prog_47_method_5_code 20 = .ok (.iconst (-1), 1) := by decide +kernel
theorem dc12_21 : decode prog_47_method_5_code 21 = .ok (.ireturn, 1) := by decide +kernel
set_option maxRecDepth 65536 in
set_option maxHeartbeats 40000000 in
theorem rm_fm1 (l : Launch) (Z : State) (a0 : Array Value) (hw : ∀ d ∈ tables_1, d.before a0 Z = true) (ws : List Jvm.Cond) (aK a_OBJECT a_ARRAY a_STRING a_NUMBER a_TRUE a_FALSE a_NULL : Addr) (a1 t1 br : Addr) (xs : List Int32) (r0 r1 r2 : Int32) (h0 : Heap) (n0 : Nat) (O0 : Old Z n0 h0) (En : OwnEnv Z aK a_OBJECT a_ARRAY a_STRING a_NUMBER a_TRUE a_FALSE a_NULL) (Ev : Exa Z h0 a1 "com/example/keyfold/keyfold/JsonValue") (Ft : Fld Z h0 a1 "com/example/keyfold/keyfold/JsonValue" "tape" "Lcom/example/keyfold/keyfold/JsonValue$Tape;" (.ref t1)) (Fi : Fld Z h0 a1 "com/example/keyfold/keyfold/JsonValue" "index" "I" (.int (0 : Int32))) (Fq : Fld Z h0 t1 "com/example/keyfold/keyfold/JsonValue$Tape" "records" "[I" (.ref br)) (Lq : La Z h0 br .int (64 : Int32) xs) (Rc : Rec xs r0 r1 r2 (1 : Int32)) :
    MetFree l (⟨"com/example/keyfold/keyfold/JsonValue", "firstMember", "()I"⟩ : MethodName) (head1 (Jvm.Cond.code (⟨"com/example/keyfold/keyfold/JsonValue", "firstMember", "()I"⟩ : MethodName) prog_47_method_5_code 2 (some .int) :: ws) ({ frames := 2, cells := 0, slots := 0, locals := 26 } : Room)) (fun a U => a = #[(.ref a1)] ∧ Z.Warmed39 U.vm ∧ U.heap = h0) (fun _ _ _ _ _ => True) (fun _ U o U' => ∃ v L, o = .returned v ∧ Q_fm1 r0 r1 r2 h0 n0 v U'.heap L ∧ FrameEnd U o U' L ({ frames := 2, cells := 0, slots := 0, locals := 26 } : Room).cells ({ frames := 2, cells := 0, slots := 0, locals := 26 } : Room).slots) := by
  refine MetFree.of_bodySF (plainFor_of_name pn_3) hisR ?_
  intro p e s m args below meth c s₁ Bd hml0 hP hK
  obtain ⟨rfl, hZ, hh⟩ := hP
  have hx := Bd.exec
  have hby := Bd.bytes
  have hml : c.maxLocals = 2 := hml0
  have hown : s.vm.findClass "com/example/keyfold/keyfold/JsonValue" = some m.cls := findClass_of_methodNamed Bd.named
  have hnm := (name_of_methodNamed Bd.named Bd.method).1
  have X0 : Stand p l e ({ frames := 2, cells := 0, slots := 0, locals := 26 } : Room) s m #[(.ref a1)] below meth c s₁ [] 0 0 := Stand.of_body Bd
  have e0 : s₁.heap = h0 := by rw [← hh, Bd.state]; rfl
  have N0 := Fr.nil n0
  have pre0 : ∀ t, Steps p.tables e below (s₁.setTop (mkF m 0 #[.val (.ref a1), .unset] [])) t → Steps p.tables e below (s₁.setTop (entryFrame m #[(.ref a1)] 2)) t := fun t k => castTop (ef_7 m a1) k
  obtain ⟨S_K, S_D, S_OBJECT, K_OBJECT, S_ARRAY, K_ARRAY, S_STRING, K_STRING, S_NUMBER, K_NUMBER, S_TRUE, K_TRUE, S_FALSE, K_FALSE, S_NULL, K_NULL⟩ := id En
  obtain ⟨T101, X101, e101, st101⟩ := getF X0 hx hZ hown (host := "") (Or.inl (hw _ (List.mem_of_getElem? (i := 69) rfl))) Via.refl e0 Fi (g := (mkF m 1 #[.val (.ref a1), .unset] [(.ref a1)])) rfl rfl (hb hby dc12_1)
  obtain ⟨cq102, q102, q102'⟩ := Exa.cell Ev
  obtain ⟨_, _, ⟨T102, L102, k102, n102⟩, -, X102, ⟨Lc102, hQ102, l102, y102, z102⟩, st102⟩ := X101.privateBack hx (y := (⟨"com/example/keyfold/keyfold/JsonValue", "field", "(I)I"⟩ : MethodName)) hown (mvT hZ (hw _ (List.mem_of_getElem? (i := 81) rfl))) (mvT hZ (hw _ (List.mem_of_getElem? (i := 82) rfl))) (mvT hZ (own_sel (y := (⟨"com/example/keyfold/keyfold/JsonValue", "field", "(I)I"⟩ : MethodName)) (hw _ (List.mem_of_getElem? (i := 61) rfl)) (hw _ (List.mem_of_getElem? (i := 83) rfl)) (hw _ (List.mem_of_getElem? (i := 82) rfl)) (by decide))) (Cond.privateMethod_at (mvP hZ (hw _ (List.mem_of_getElem? (i := 83) rfl)) (args := #[]))) (mvT hZ (hw _ (List.mem_of_getElem? (i := 84) rfl))) (by decide) (backOf (W := 1) (rmFd3 l Z a0 hw [] aK a_OBJECT a_ARRAY a_STRING a_NUMBER a_TRUE a_FALSE a_NULL a1 t1 br xs (1 : Int32) h0 n0 O0 En Ev Ft Fi Fq Lq Rc.2.2.2) hZ (hw _ (List.mem_of_getElem? (i := 84) rfl)) (hw _ (List.mem_of_getElem? (i := 62) rfl)) (by decide) (by decide)) (g := (mkF m 10 #[.val (.ref a1), .val (.int (1 : Int32))] [(.int (3 : Int32)), (.ref a1), (.int (1 : Int32))])) rfl (by rw [hml]; rfl) (Steps.refl _) (a := a1) (by rw [e101]; exact q102) q102' (argsL := [(.int (3 : Int32))]) (rest := [(.int (1 : Int32))]) (lenOf pd_3 rfl) rfl (by show 2 * 0 + _ ≤ _; exact Nat.le_of_eq rfl) (hb hby dc12_10) (fun _ _ => ⟨rfl, e101, (by decide : 0 + 0 ≤ _), (by decide : 0 + 0 ≤ _)⟩)
  dsimp only [Pt.U, Pt.locs, Pt.cells, Pt.slots] at X102 l102 y102 z102 st102 hQ102
  subst l102 y102 z102
  obtain ⟨rfl, N102q, hh102⟩ := hQ102
  have N102 := Fr.app N0 N102q
  obtain ⟨fs, hr, hrun, hended, hW, hsame⟩ := X102.leave (v := some (.int (-1 : Int32))) (fun h => by rw [Bd.returns] at h; cases h)
  refine ⟨_, _, pre0 _ ?_, hrun, hended, _, _, rfl, ?_, ⟨_, rfl⟩, hW, hsame.mono (by decide) (by decide)⟩
  · skip
    show Steps p.tables e below (s₁.setTop (mkF m 0 #[.val (.ref a1), .unset] [])) _
    refine XS.aloadN X0.here hx rfl (hb hby dc12_0) rfl rfl ?_
    show Steps p.tables e below (s₁.setTop (mkF m 1 #[.val (.ref a1), .unset] [(.ref a1)])) _
    refine st101 _ ?_
    show Steps p.tables e below (T101.setTop (mkF m 4 #[.val (.ref a1), .unset] [(.int (0 : Int32))])) _
    refine XS.iconst X101.here hx rfl (hb hby dc12_4) ?_
    show Steps p.tables e below (T101.setTop (mkF m 5 #[.val (.ref a1), .unset] [(.int (1 : Int32)), (.int (0 : Int32))])) _
    refine XS.iadd X101.here hx rfl (hb hby dc12_5) rfl ?_
    show Steps p.tables e below (T101.setTop (mkF m 6 #[.val (.ref a1), .unset] [(.int (1 : Int32))])) _
    refine XS.istoreN X101.here hx rfl (hb hby dc12_6) rfl (l' := #[.val (.ref a1), .val (.int (1 : Int32))]) rfl ?_
    show Steps p.tables e below (T101.setTop (mkF m 7 #[.val (.ref a1), .val (.int (1 : Int32))] [])) _
    refine XS.iloadN X101.here hx rfl (hb hby dc12_7) rfl ?_
    show Steps p.tables e below (T101.setTop (mkF m 8 #[.val (.ref a1), .val (.int (1 : Int32))] [(.int (1 : Int32))])) _
    refine XS.aloadN X101.here hx rfl (hb hby dc12_8) rfl rfl ?_
    show Steps p.tables e below (T101.setTop (mkF m 9 #[.val (.ref a1), .val (.int (1 : Int32))] [(.ref a1), (.int (1 : Int32))])) _
    refine XS.iconst X101.here hx rfl (hb hby dc12_9) ?_
    show Steps p.tables e below (T101.setTop (mkF m 10 #[.val (.ref a1), .val (.int (1 : Int32))] [(.int (3 : Int32)), (.ref a1), (.int (1 : Int32))])) _
    refine st102.trans ?_
    show Steps p.tables e below (T102.setTop (mkF m 13 #[.val (.ref a1), .val (.int (1 : Int32))] [(.int (1 : Int32)), (.int (1 : Int32))])) _
    refine XS.icmpYes X102.here hx rfl (pc0 := 13) (pc' := 20) rfl (hb hby dc12_13) rfl (by decide) (by decide) (by decide) ?_
    show Steps p.tables e below (T102.setTop (mkF m 20 #[.val (.ref a1), .val (.int (1 : Int32))] [])) _
    refine XS.iconst X102.here hx rfl (hb hby dc12_20) ?_
    show Steps p.tables e below (T102.setTop (mkF m 21 #[.val (.ref a1), .val (.int (1 : Int32))] [(.int (-1 : Int32))])) _
    exact retI X102 hx Bd.returns (hb hby dc12_21) hr
  · show Q_fm1 r0 r1 r2 h0 n0 _ T102.heap _
    rw [hh102]
    exact ⟨rfl, N102, rfl⟩
def Q_fm2 (r0 r1 r2 : Int32) (h0 : Heap) (n0 : Nat) (v : Option Value) (h : Heap) (L : List Loc) : Prop := v = some (.int (1 : Int32)) ∧ Fr n0 L ∧ h = h0
theorem dc12_16 : decode prog_47_method_5_code 16 = .ok (.iload_n 1, 1) := by decide +kernel
theorem dc12_17 : decode prog_47_method_5_code 17 = .ok (.goto 4, 3) := by decide +kernel
set_option maxRecDepth 65536 in
set_option maxHeartbeats 40000000 in
theorem rm_fm2 (l : Launch) (Z : State) (a0 : Array Value) (hw : ∀ d ∈ tables_1, d.before a0 Z = true) (ws : List Jvm.Cond) (aK a_OBJECT a_ARRAY a_STRING a_NUMBER a_TRUE a_FALSE a_NULL : Addr) (a1 t1 br : Addr) (xs : List Int32) (r0 r1 r2 : Int32) (h0 : Heap) (n0 : Nat) (O0 : Old Z n0 h0) (En : OwnEnv Z aK a_OBJECT a_ARRAY a_STRING a_NUMBER a_TRUE a_FALSE a_NULL) (Ev : Exa Z h0 a1 "com/example/keyfold/keyfold/JsonValue") (Ft : Fld Z h0 a1 "com/example/keyfold/keyfold/JsonValue" "tape" "Lcom/example/keyfold/keyfold/JsonValue$Tape;" (.ref t1)) (Fi : Fld Z h0 a1 "com/example/keyfold/keyfold/JsonValue" "index" "I" (.int (0 : Int32))) (Fq : Fld Z h0 t1 "com/example/keyfold/keyfold/JsonValue$Tape" "records" "[I" (.ref br)) (Lq : La Z h0 br .int (64 : Int32) xs) (Rc : Rec xs r0 r1 r2 (2 : Int32)) :
    MetFree l (⟨"com/example/keyfold/keyfold/JsonValue", "firstMember", "()I"⟩ : MethodName) (head1 (Jvm.Cond.code (⟨"com/example/keyfold/keyfold/JsonValue", "firstMember", "()I"⟩ : MethodName) prog_47_method_5_code 2 (some .int) :: ws) ({ frames := 2, cells := 0, slots := 0, locals := 26 } : Room)) (fun a U => a = #[(.ref a1)] ∧ Z.Warmed39 U.vm ∧ U.heap = h0) (fun _ _ _ _ _ => True) (fun _ U o U' => ∃ v L, o = .returned v ∧ Q_fm2 r0 r1 r2 h0 n0 v U'.heap L ∧ FrameEnd U o U' L ({ frames := 2, cells := 0, slots := 0, locals := 26 } : Room).cells ({ frames := 2, cells := 0, slots := 0, locals := 26 } : Room).slots) := by
  refine MetFree.of_bodySF (plainFor_of_name pn_3) hisR ?_
  intro p e s m args below meth c s₁ Bd hml0 hP hK
  obtain ⟨rfl, hZ, hh⟩ := hP
  have hx := Bd.exec
  have hby := Bd.bytes
  have hml : c.maxLocals = 2 := hml0
  have hown : s.vm.findClass "com/example/keyfold/keyfold/JsonValue" = some m.cls := findClass_of_methodNamed Bd.named
  have hnm := (name_of_methodNamed Bd.named Bd.method).1
  have X0 : Stand p l e ({ frames := 2, cells := 0, slots := 0, locals := 26 } : Room) s m #[(.ref a1)] below meth c s₁ [] 0 0 := Stand.of_body Bd
  have e0 : s₁.heap = h0 := by rw [← hh, Bd.state]; rfl
  have N0 := Fr.nil n0
  have pre0 : ∀ t, Steps p.tables e below (s₁.setTop (mkF m 0 #[.val (.ref a1), .unset] [])) t → Steps p.tables e below (s₁.setTop (entryFrame m #[(.ref a1)] 2)) t := fun t k => castTop (ef_7 m a1) k
  obtain ⟨S_K, S_D, S_OBJECT, K_OBJECT, S_ARRAY, K_ARRAY, S_STRING, K_STRING, S_NUMBER, K_NUMBER, S_TRUE, K_TRUE, S_FALSE, K_FALSE, S_NULL, K_NULL⟩ := id En
  obtain ⟨T101, X101, e101, st101⟩ := getF X0 hx hZ hown (host := "") (Or.inl (hw _ (List.mem_of_getElem? (i := 69) rfl))) Via.refl e0 Fi (g := (mkF m 1 #[.val (.ref a1), .unset] [(.ref a1)])) rfl rfl (hb hby dc12_1)
  obtain ⟨cq102, q102, q102'⟩ := Exa.cell Ev
  obtain ⟨_, _, ⟨T102, L102, k102, n102⟩, -, X102, ⟨Lc102, hQ102, l102, y102, z102⟩, st102⟩ := X101.privateBack hx (y := (⟨"com/example/keyfold/keyfold/JsonValue", "field", "(I)I"⟩ : MethodName)) hown (mvT hZ (hw _ (List.mem_of_getElem? (i := 81) rfl))) (mvT hZ (hw _ (List.mem_of_getElem? (i := 82) rfl))) (mvT hZ (own_sel (y := (⟨"com/example/keyfold/keyfold/JsonValue", "field", "(I)I"⟩ : MethodName)) (hw _ (List.mem_of_getElem? (i := 61) rfl)) (hw _ (List.mem_of_getElem? (i := 83) rfl)) (hw _ (List.mem_of_getElem? (i := 82) rfl)) (by decide))) (Cond.privateMethod_at (mvP hZ (hw _ (List.mem_of_getElem? (i := 83) rfl)) (args := #[]))) (mvT hZ (hw _ (List.mem_of_getElem? (i := 84) rfl))) (by decide) (backOf (W := 1) (rmFd3 l Z a0 hw [] aK a_OBJECT a_ARRAY a_STRING a_NUMBER a_TRUE a_FALSE a_NULL a1 t1 br xs (2 : Int32) h0 n0 O0 En Ev Ft Fi Fq Lq Rc.2.2.2) hZ (hw _ (List.mem_of_getElem? (i := 84) rfl)) (hw _ (List.mem_of_getElem? (i := 62) rfl)) (by decide) (by decide)) (g := (mkF m 10 #[.val (.ref a1), .val (.int (1 : Int32))] [(.int (3 : Int32)), (.ref a1), (.int (1 : Int32))])) rfl (by rw [hml]; rfl) (Steps.refl _) (a := a1) (by rw [e101]; exact q102) q102' (argsL := [(.int (3 : Int32))]) (rest := [(.int (1 : Int32))]) (lenOf pd_3 rfl) rfl (by show 2 * 0 + _ ≤ _; exact Nat.le_of_eq rfl) (hb hby dc12_10) (fun _ _ => ⟨rfl, e101, (by decide : 0 + 0 ≤ _), (by decide : 0 + 0 ≤ _)⟩)
  dsimp only [Pt.U, Pt.locs, Pt.cells, Pt.slots] at X102 l102 y102 z102 st102 hQ102
  subst l102 y102 z102
  obtain ⟨rfl, N102q, hh102⟩ := hQ102
  have N102 := Fr.app N0 N102q
  obtain ⟨fs, hr, hrun, hended, hW, hsame⟩ := X102.leave (v := some (.int (1 : Int32))) (fun h => by rw [Bd.returns] at h; cases h)
  refine ⟨_, _, pre0 _ ?_, hrun, hended, _, _, rfl, ?_, ⟨_, rfl⟩, hW, hsame.mono (by decide) (by decide)⟩
  · skip
    show Steps p.tables e below (s₁.setTop (mkF m 0 #[.val (.ref a1), .unset] [])) _
    refine XS.aloadN X0.here hx rfl (hb hby dc12_0) rfl rfl ?_
    show Steps p.tables e below (s₁.setTop (mkF m 1 #[.val (.ref a1), .unset] [(.ref a1)])) _
    refine st101 _ ?_
    show Steps p.tables e below (T101.setTop (mkF m 4 #[.val (.ref a1), .unset] [(.int (0 : Int32))])) _
    refine XS.iconst X101.here hx rfl (hb hby dc12_4) ?_
    show Steps p.tables e below (T101.setTop (mkF m 5 #[.val (.ref a1), .unset] [(.int (1 : Int32)), (.int (0 : Int32))])) _
    refine XS.iadd X101.here hx rfl (hb hby dc12_5) rfl ?_
    show Steps p.tables e below (T101.setTop (mkF m 6 #[.val (.ref a1), .unset] [(.int (1 : Int32))])) _
    refine XS.istoreN X101.here hx rfl (hb hby dc12_6) rfl (l' := #[.val (.ref a1), .val (.int (1 : Int32))]) rfl ?_
    show Steps p.tables e below (T101.setTop (mkF m 7 #[.val (.ref a1), .val (.int (1 : Int32))] [])) _
    refine XS.iloadN X101.here hx rfl (hb hby dc12_7) rfl ?_
    show Steps p.tables e below (T101.setTop (mkF m 8 #[.val (.ref a1), .val (.int (1 : Int32))] [(.int (1 : Int32))])) _
    refine XS.aloadN X101.here hx rfl (hb hby dc12_8) rfl rfl ?_
    show Steps p.tables e below (T101.setTop (mkF m 9 #[.val (.ref a1), .val (.int (1 : Int32))] [(.ref a1), (.int (1 : Int32))])) _
    refine XS.iconst X101.here hx rfl (hb hby dc12_9) ?_
    show Steps p.tables e below (T101.setTop (mkF m 10 #[.val (.ref a1), .val (.int (1 : Int32))] [(.int (3 : Int32)), (.ref a1), (.int (1 : Int32))])) _
    refine st102.trans ?_
    show Steps p.tables e below (T102.setTop (mkF m 13 #[.val (.ref a1), .val (.int (1 : Int32))] [(.int (2 : Int32)), (.int (1 : Int32))])) _
    refine XS.icmpNo X102.here hx rfl (hb hby dc12_13) rfl (by decide) ?_
    show Steps p.tables e below (T102.setTop (mkF m 16 #[.val (.ref a1), .val (.int (1 : Int32))] [])) _
    refine XS.iloadN X102.here hx rfl (hb hby dc12_16) rfl ?_
    show Steps p.tables e below (T102.setTop (mkF m 17 #[.val (.ref a1), .val (.int (1 : Int32))] [(.int (1 : Int32))])) _
    refine XS.goto X102.here hx rfl (pc0 := 17) (pc' := 21) rfl (hb hby dc12_17) (by decide) (by decide) ?_
    show Steps p.tables e below (T102.setTop (mkF m 21 #[.val (.ref a1), .val (.int (1 : Int32))] [(.int (1 : Int32))])) _
    exact retI X102 hx Bd.returns (hb hby dc12_21) hr
  · show Q_fm2 r0 r1 r2 h0 n0 _ T102.heap _
    rw [hh102]
    exact ⟨rfl, N102, rfl⟩
def Q_sp0 (r0 r1 r2 r3 : Int32) (h0 : Heap) (n0 : Nat) (v : Option Value) (h : Heap) (L : List Loc) : Prop := v = some (.int (0 : Int32)) ∧ Fr n0 L ∧ h = h0
theorem dc13_0 : decode prog_47_method_16_code 0 = .ok (.aload_n 0, 1) := by decide +kernel
theorem dc13_1 : decode prog_47_method_16_code 1 = .ok (.iconst 0, 1) := by decide +kernel
theorem dc13_2 : decode prog_47_method_16_code 2 = .ok (.invokevirtual 27, 3) := by decide +kernel
theorem dc13_5 : decode prog_47_method_16_code 5 = .ok (.bipush 8, 2) := by decide +kernel
theorem dc13_7 : decode prog_47_method_16_code 7 = .ok (.iand, 1) := by decide +kernel
theorem dc13_8 : decode prog_47_method_16_code 8 = .ok (.ifCond .eq 7, 3) := by decide +kernel
theorem dc13_15 : decode prog_47_method_16_code 15 = .ok (.iconst 0, 1) := by decide +kernel
theorem dc13_16 : decode prog_47_method_16_code 16 = .ok (.ireturn, 1) := by decide +kernel
set_option maxRecDepth 65536 in
set_option maxHeartbeats 40000000 in
theorem rm_sp0 (l : Launch) (Z : State) (a0 : Array Value) (hw : ∀ d ∈ tables_1, d.before a0 Z = true) (ws : List Jvm.Cond) (aK a_OBJECT a_ARRAY a_STRING a_NUMBER a_TRUE a_FALSE a_NULL : Addr) (a1 t1 br : Addr) (xs : List Int32) (r0 r1 r2 r3 : Int32) (h0 : Heap) (n0 : Nat) (O0 : Old Z n0 h0) (En : OwnEnv Z aK a_OBJECT a_ARRAY a_STRING a_NUMBER a_TRUE a_FALSE a_NULL) (Ev : Exa Z h0 a1 "com/example/keyfold/keyfold/JsonValue") (Ft : Fld Z h0 a1 "com/example/keyfold/keyfold/JsonValue" "tape" "Lcom/example/keyfold/keyfold/JsonValue$Tape;" (.ref t1)) (Fi : Fld Z h0 a1 "com/example/keyfold/keyfold/JsonValue" "index" "I" (.int (0 : Int32))) (Fq : Fld Z h0 t1 "com/example/keyfold/keyfold/JsonValue$Tape" "records" "[I" (.ref br)) (Lq : La Z h0 br .int (64 : Int32) xs) (Rc : Rec xs r0 r1 r2 r3) (hsp : (r0 &&& (8 : Int32)) = (0 : Int32)) :
    MetFree l (⟨"com/example/keyfold/keyfold/JsonValue", "isSpaced", "()Z"⟩ : MethodName) (head1 (Jvm.Cond.code (⟨"com/example/keyfold/keyfold/JsonValue", "isSpaced", "()Z"⟩ : MethodName) prog_47_method_16_code 1 (some .boolean) :: ws) ({ frames := 2, cells := 0, slots := 0, locals := 25 } : Room)) (fun a U => a = #[(.ref a1)] ∧ Z.Warmed39 U.vm ∧ U.heap = h0) (fun _ _ _ _ _ => True) (fun _ U o U' => ∃ v L, o = .returned v ∧ Q_sp0 r0 r1 r2 r3 h0 n0 v U'.heap L ∧ FrameEnd U o U' L ({ frames := 2, cells := 0, slots := 0, locals := 25 } : Room).cells ({ frames := 2, cells := 0, slots := 0, locals := 25 } : Room).slots) := by
  refine MetFree.of_bodySF (plainFor_of_name pn_3) hisR ?_
  intro p e s m args below meth c s₁ Bd hml0 hP hK
  obtain ⟨rfl, hZ, hh⟩ := hP
  have hx := Bd.exec
  have hby := Bd.bytes
  have hml : c.maxLocals = 1 := hml0
  have hown : s.vm.findClass "com/example/keyfold/keyfold/JsonValue" = some m.cls := findClass_of_methodNamed Bd.named
  have hnm := (name_of_methodNamed Bd.named Bd.method).1
  have X0 : Stand p l e ({ frames := 2, cells := 0, slots := 0, locals := 25 } : Room) s m #[(.ref a1)] below meth c s₁ [] 0 0 := Stand.of_body Bd
  have e0 : s₁.heap = h0 := by rw [← hh, Bd.state]; rfl
  have N0 := Fr.nil n0
  have pre0 : ∀ t, Steps p.tables e below (s₁.setTop (mkF m 0 #[.val (.ref a1)] [])) t → Steps p.tables e below (s₁.setTop (entryFrame m #[(.ref a1)] 1)) t := fun t k => castTop (ef_1 m a1) k
  obtain ⟨S_K, S_D, S_OBJECT, K_OBJECT, S_ARRAY, K_ARRAY, S_STRING, K_STRING, S_NUMBER, K_NUMBER, S_TRUE, K_TRUE, S_FALSE, K_FALSE, S_NULL, K_NULL⟩ := id En
  obtain ⟨cq101, q101, q101'⟩ := Exa.cell Ev
  obtain ⟨_, _, ⟨T101, L101, k101, n101⟩, -, X101, ⟨Lc101, hQ101, l101, y101, z101⟩, st101⟩ := X0.privateBack hx (y := (⟨"com/example/keyfold/keyfold/JsonValue", "field", "(I)I"⟩ : MethodName)) hown (mvT hZ (hw _ (List.mem_of_getElem? (i := 81) rfl))) (mvT hZ (hw _ (List.mem_of_getElem? (i := 82) rfl))) (mvT hZ (own_sel (y := (⟨"com/example/keyfold/keyfold/JsonValue", "field", "(I)I"⟩ : MethodName)) (hw _ (List.mem_of_getElem? (i := 61) rfl)) (hw _ (List.mem_of_getElem? (i := 83) rfl)) (hw _ (List.mem_of_getElem? (i := 82) rfl)) (by decide))) (Cond.privateMethod_at (mvP hZ (hw _ (List.mem_of_getElem? (i := 83) rfl)) (args := #[]))) (mvT hZ (hw _ (List.mem_of_getElem? (i := 84) rfl))) (by decide) (backOf (W := 0) (rmFd0 l Z a0 hw [] aK a_OBJECT a_ARRAY a_STRING a_NUMBER a_TRUE a_FALSE a_NULL a1 t1 br xs r0 h0 n0 O0 En Ev Ft Fi Fq Lq Rc.1) hZ (hw _ (List.mem_of_getElem? (i := 84) rfl)) (hw _ (List.mem_of_getElem? (i := 62) rfl)) (by decide) (by decide)) (g := (mkF m 2 #[.val (.ref a1)] [(.int (0 : Int32)), (.ref a1)])) rfl (by rw [hml]; rfl) (Steps.refl _) (a := a1) (by rw [e0]; exact q101) q101' (argsL := [(.int (0 : Int32))]) (rest := []) (lenOf pd_3 rfl) rfl (by show 2 * 0 + _ ≤ _; exact Nat.le_of_eq rfl) (hb hby dc13_2) (fun _ _ => ⟨rfl, e0, (by decide : 0 + 0 ≤ _), (by decide : 0 + 0 ≤ _)⟩)
  dsimp only [Pt.U, Pt.locs, Pt.cells, Pt.slots] at X101 l101 y101 z101 st101 hQ101
  subst l101 y101 z101
  obtain ⟨rfl, N101q, hh101⟩ := hQ101
  have N101 := Fr.app N0 N101q
  obtain ⟨fs, hr, hrun, hended, hW, hsame⟩ := X101.leave (v := some (.int (0 : Int32))) (fun h => by rw [Bd.returns] at h; cases h)
  refine ⟨_, _, pre0 _ ?_, hrun, hended, _, _, rfl, ?_, ⟨_, rfl⟩, hW, hsame.mono (by decide) (by decide)⟩
  · skip
    show Steps p.tables e below (s₁.setTop (mkF m 0 #[.val (.ref a1)] [])) _
    refine XS.aloadN X0.here hx rfl (hb hby dc13_0) rfl rfl ?_
    show Steps p.tables e below (s₁.setTop (mkF m 1 #[.val (.ref a1)] [(.ref a1)])) _
    refine XS.iconst X0.here hx rfl (hb hby dc13_1) ?_
    show Steps p.tables e below (s₁.setTop (mkF m 2 #[.val (.ref a1)] [(.int (0 : Int32)), (.ref a1)])) _
    refine st101.trans ?_
    show Steps p.tables e below (T101.setTop (mkF m 5 #[.val (.ref a1)] [(.int r0)])) _
    refine XS.bipush X101.here hx rfl (hb hby dc13_5) ?_
    show Steps p.tables e below (T101.setTop (mkF m 7 #[.val (.ref a1)] [(.int (8 : Int32)), (.int r0)])) _
    refine XS.iand X101.here hx rfl (hb hby dc13_7) rfl ?_
    show Steps p.tables e below (T101.setTop (mkF m 8 #[.val (.ref a1)] [(.int (r0 &&& (8 : Int32)))])) _
    refine XS.ifYes X101.here hx rfl (pc0 := 8) (pc' := 15) rfl (hb hby dc13_8) rfl ((if0 _ _).trans (teq hsp).1) (by decide) (by decide) ?_
    show Steps p.tables e below (T101.setTop (mkF m 15 #[.val (.ref a1)] [])) _
    refine XS.iconst X101.here hx rfl (hb hby dc13_15) ?_
    show Steps p.tables e below (T101.setTop (mkF m 16 #[.val (.ref a1)] [(.int (0 : Int32))])) _
    exact retN X101 hx (t := .boolean) Bd.returns (by simp) (hb hby dc13_16) hr
  · show Q_sp0 r0 r1 r2 r3 h0 n0 _ T101.heap _
    rw [hh101]
    exact ⟨rfl, N101, rfl⟩
def Q_sp1 (r0 r1 r2 r3 : Int32) (h0 : Heap) (n0 : Nat) (v : Option Value) (h : Heap) (L : List Loc) : Prop := v = some (.int (1 : Int32)) ∧ Fr n0 L ∧ h = h0
theorem dc13_11 : decode prog_47_method_16_code 11 = .ok (.iconst 1, 1) := by decide +kernel
theorem dc13_12 : decode prog_47_method_16_code 12 = .ok (.goto 4, 3) := by decide +kernel
set_option maxRecDepth 65536 in
set_option maxHeartbeats 40000000 in
theorem rm_sp1 (l : Launch) (Z : State) (a0 : Array Value) (hw : ∀ d ∈ tables_1, d.before a0 Z = true) (ws : List Jvm.Cond) (aK a_OBJECT a_ARRAY a_STRING a_NUMBER a_TRUE a_FALSE a_NULL : Addr) (a1 t1 br : Addr) (xs : List Int32) (r0 r1 r2 r3 : Int32) (h0 : Heap) (n0 : Nat) (O0 : Old Z n0 h0) (En : OwnEnv Z aK a_OBJECT a_ARRAY a_STRING a_NUMBER a_TRUE a_FALSE a_NULL) (Ev : Exa Z h0 a1 "com/example/keyfold/keyfold/JsonValue") (Ft : Fld Z h0 a1 "com/example/keyfold/keyfold/JsonValue" "tape" "Lcom/example/keyfold/keyfold/JsonValue$Tape;" (.ref t1)) (Fi : Fld Z h0 a1 "com/example/keyfold/keyfold/JsonValue" "index" "I" (.int (0 : Int32))) (Fq : Fld Z h0 t1 "com/example/keyfold/keyfold/JsonValue$Tape" "records" "[I" (.ref br)) (Lq : La Z h0 br .int (64 : Int32) xs) (Rc : Rec xs r0 r1 r2 r3) (hsp : ¬ ((r0 &&& (8 : Int32)) = (0 : Int32))) :
    MetFree l (⟨"com/example/keyfold/keyfold/JsonValue", "isSpaced", "()Z"⟩ : MethodName) (head1 (Jvm.Cond.code (⟨"com/example/keyfold/keyfold/JsonValue", "isSpaced", "()Z"⟩ : MethodName) prog_47_method_16_code 1 (some .boolean) :: ws) ({ frames := 2, cells := 0, slots := 0, locals := 25 } : Room)) (fun a U => a = #[(.ref a1)] ∧ Z.Warmed39 U.vm ∧ U.heap = h0) (fun _ _ _ _ _ => True) (fun _ U o U' => ∃ v L, o = .returned v ∧ Q_sp1 r0 r1 r2 r3 h0 n0 v U'.heap L ∧ FrameEnd U o U' L ({ frames := 2, cells := 0, slots := 0, locals := 25 } : Room).cells ({ frames := 2, cells := 0, slots := 0, locals := 25 } : Room).slots) := by
  refine MetFree.of_bodySF (plainFor_of_name pn_3) hisR ?_
  intro p e s m args below meth c s₁ Bd hml0 hP hK
  obtain ⟨rfl, hZ, hh⟩ := hP
  have hx := Bd.exec
  have hby := Bd.bytes
  have hml : c.maxLocals = 1 := hml0
  have hown : s.vm.findClass "com/example/keyfold/keyfold/JsonValue" = some m.cls := findClass_of_methodNamed Bd.named
  have hnm := (name_of_methodNamed Bd.named Bd.method).1
  have X0 : Stand p l e ({ frames := 2, cells := 0, slots := 0, locals := 25 } : Room) s m #[(.ref a1)] below meth c s₁ [] 0 0 := Stand.of_body Bd
  have e0 : s₁.heap = h0 := by rw [← hh, Bd.state]; rfl
  have N0 := Fr.nil n0
  have pre0 : ∀ t, Steps p.tables e below (s₁.setTop (mkF m 0 #[.val (.ref a1)] [])) t → Steps p.tables e below (s₁.setTop (entryFrame m #[(.ref a1)] 1)) t := fun t k => castTop (ef_1 m a1) k
  obtain ⟨S_K, S_D, S_OBJECT, K_OBJECT, S_ARRAY, K_ARRAY, S_STRING, K_STRING, S_NUMBER, K_NUMBER, S_TRUE, K_TRUE, S_FALSE, K_FALSE, S_NULL, K_NULL⟩ := id En
  obtain ⟨cq101, q101, q101'⟩ := Exa.cell Ev
  obtain ⟨_, _, ⟨T101, L101, k101, n101⟩, -, X101, ⟨Lc101, hQ101, l101, y101, z101⟩, st101⟩ := X0.privateBack hx (y := (⟨"com/example/keyfold/keyfold/JsonValue", "field", "(I)I"⟩ : MethodName)) hown (mvT hZ (hw _ (List.mem_of_getElem? (i := 81) rfl))) (mvT hZ (hw _ (List.mem_of_getElem? (i := 82) rfl))) (mvT hZ (own_sel (y := (⟨"com/example/keyfold/keyfold/JsonValue", "field", "(I)I"⟩ : MethodName)) (hw _ (List.mem_of_getElem? (i := 61) rfl)) (hw _ (List.mem_of_getElem? (i := 83) rfl)) (hw _ (List.mem_of_getElem? (i := 82) rfl)) (by decide))) (Cond.privateMethod_at (mvP hZ (hw _ (List.mem_of_getElem? (i := 83) rfl)) (args := #[]))) (mvT hZ (hw _ (List.mem_of_getElem? (i := 84) rfl))) (by decide) (backOf (W := 0) (rmFd0 l Z a0 hw [] aK a_OBJECT a_ARRAY a_STRING a_NUMBER a_TRUE a_FALSE a_NULL a1 t1 br xs r0 h0 n0 O0 En Ev Ft Fi Fq Lq Rc.1) hZ (hw _ (List.mem_of_getElem? (i := 84) rfl)) (hw _ (List.mem_of_getElem? (i := 62) rfl)) (by decide) (by decide)) (g := (mkF m 2 #[.val (.ref a1)] [(.int (0 : Int32)), (.ref a1)])) rfl (by rw [hml]; rfl) (Steps.refl _) (a := a1) (by rw [e0]; exact q101) q101' (argsL := [(.int (0 : Int32))]) (rest := []) (lenOf pd_3 rfl) rfl (by show 2 * 0 + _ ≤ _; exact Nat.le_of_eq rfl) (hb hby dc13_2) (fun _ _ => ⟨rfl, e0, (by decide : 0 + 0 ≤ _), (by decide : 0 + 0 ≤ _)⟩)
  dsimp only [Pt.U, Pt.locs, Pt.cells, Pt.slots] at X101 l101 y101 z101 st101 hQ101
  subst l101 y101 z101
  obtain ⟨rfl, N101q, hh101⟩ := hQ101
  have N101 := Fr.app N0 N101q
  obtain ⟨fs, hr, hrun, hended, hW, hsame⟩ := X101.leave (v := some (.int (1 : Int32))) (fun h => by rw [Bd.returns] at h; cases h)
  refine ⟨_, _, pre0 _ ?_, hrun, hended, _, _, rfl, ?_, ⟨_, rfl⟩, hW, hsame.mono (by decide) (by decide)⟩
  · skip
    show Steps p.tables e below (s₁.setTop (mkF m 0 #[.val (.ref a1)] [])) _
    refine XS.aloadN X0.here hx rfl (hb hby dc13_0) rfl rfl ?_
    show Steps p.tables e below (s₁.setTop (mkF m 1 #[.val (.ref a1)] [(.ref a1)])) _
    refine XS.iconst X0.here hx rfl (hb hby dc13_1) ?_
    show Steps p.tables e below (s₁.setTop (mkF m 2 #[.val (.ref a1)] [(.int (0 : Int32)), (.ref a1)])) _
    refine st101.trans ?_
    show Steps p.tables e below (T101.setTop (mkF m 5 #[.val (.ref a1)] [(.int r0)])) _
    refine XS.bipush X101.here hx rfl (hb hby dc13_5) ?_
    show Steps p.tables e below (T101.setTop (mkF m 7 #[.val (.ref a1)] [(.int (8 : Int32)), (.int r0)])) _
    refine XS.iand X101.here hx rfl (hb hby dc13_7) rfl ?_
    show Steps p.tables e below (T101.setTop (mkF m 8 #[.val (.ref a1)] [(.int (r0 &&& (8 : Int32)))])) _
    refine XS.ifNo X101.here hx rfl (hb hby dc13_8) rfl ((if0 _ _).trans (feq hsp).1) ?_
    show Steps p.tables e below (T101.setTop (mkF m 11 #[.val (.ref a1)] [])) _
    refine XS.iconst X101.here hx rfl (hb hby dc13_11) ?_
    show Steps p.tables e below (T101.setTop (mkF m 12 #[.val (.ref a1)] [(.int (1 : Int32))])) _
    refine XS.goto X101.here hx rfl (pc0 := 12) (pc' := 16) rfl (hb hby dc13_12) (by decide) (by decide) ?_
    show Steps p.tables e below (T101.setTop (mkF m 16 #[.val (.ref a1)] [(.int (1 : Int32))])) _
    exact retN X101 hx (t := .boolean) Bd.returns (by simp) (hb hby dc13_16) hr
  · show Q_sp1 r0 r1 r2 r3 h0 n0 _ T101.heap _
    rw [hh101]
    exact ⟨rfl, N101, rfl⟩
def Q_kd (ak : Addr) (h0 : Heap) (n0 : Nat) (v : Option Value) (h : Heap) (L : List Loc) : Prop := v = some (.ref ak) ∧ Fr n0 L ∧ h = h0
theorem dc14_0 : decode prog_47_method_2_code 0 = .ok (.getstatic 23, 3) := by decide +kernel
theorem dc14_3 : decode prog_47_method_2_code 3 = .ok (.aload_n 0, 1) := by decide +kernel
theorem dc14_4 : decode prog_47_method_2_code 4 = .ok (.iconst 0, 1) := by decide +kernel
theorem dc14_5 : decode prog_47_method_2_code 5 = .ok (.invokevirtual 27, 3) := by decide +kernel
theorem dc14_8 : decode prog_47_method_2_code 8 = .ok (.bipush 7, 2) := by decide +kernel
theorem dc14_10 : decode prog_47_method_2_code 10 = .ok (.iand, 1) := by decide +kernel
theorem dc14_11 : decode prog_47_method_2_code 11 = .ok (.aaload, 1) := by decide +kernel
theorem dc14_12 : decode prog_47_method_2_code 12 = .ok (.areturn, 1) := by decide +kernel
set_option maxRecDepth 65536 in
set_option maxHeartbeats 40000000 in
theorem rmKd (l : Launch) (Z : State) (a0 : Array Value) (hw : ∀ d ∈ tables_1, d.before a0 Z = true) (ws : List Jvm.Cond) (aK a_OBJECT a_ARRAY a_STRING a_NUMBER a_TRUE a_FALSE a_NULL : Addr) (a1 t1 br : Addr) (xs : List Int32) (r0 r1 r2 r3 : Int32) (ak : Addr) (j : Int32) (h0 : Heap) (n0 : Nat) (O0 : Old Z n0 h0) (En : OwnEnv Z aK a_OBJECT a_ARRAY a_STRING a_NUMBER a_TRUE a_FALSE a_NULL) (Ev : Exa Z h0 a1 "com/example/keyfold/keyfold/JsonValue") (Ft : Fld Z h0 a1 "com/example/keyfold/keyfold/JsonValue" "tape" "Lcom/example/keyfold/keyfold/JsonValue$Tape;" (.ref t1)) (Fi : Fld Z h0 a1 "com/example/keyfold/keyfold/JsonValue" "index" "I" (.int (0 : Int32))) (Fq : Fld Z h0 t1 "com/example/keyfold/keyfold/JsonValue$Tape" "records" "[I" (.ref br)) (Lq : La Z h0 br .int (64 : Int32) xs) (Rc : Rec xs r0 r1 r2 r3) (Kq : Knd Z aK ak j) (hk7 : (r0 &&& (7 : Int32)) = j) :
    MetFree l (⟨"com/example/keyfold/keyfold/JsonValue", "kind", "()Lcom/example/keyfold/keyfold/JsonValue$Kind;"⟩ : MethodName) (head1 (Jvm.Cond.code (⟨"com/example/keyfold/keyfold/JsonValue", "kind", "()Lcom/example/keyfold/keyfold/JsonValue$Kind;"⟩ : MethodName) prog_47_method_2_code 1 (some (.object "com/example/keyfold/keyfold/JsonValue$Kind")) :: ws) ({ frames := 2, cells := 0, slots := 0, locals := 26 } : Room)) (fun a U => a = #[(.ref a1)] ∧ Z.Warmed39 U.vm ∧ U.heap = h0) (fun _ _ _ _ _ => True) (fun _ U o U' => ∃ v L, o = .returned v ∧ Q_kd ak h0 n0 v U'.heap L ∧ FrameEnd U o U' L ({ frames := 2, cells := 0, slots := 0, locals := 26 } : Room).cells ({ frames := 2, cells := 0, slots := 0, locals := 26 } : Room).slots) := by
  refine MetFree.of_bodySF (plainFor_of_name pn_3) hisR ?_
  intro p e s m args below meth c s₁ Bd hml0 hP hK
  obtain ⟨rfl, hZ, hh⟩ := hP
  have hx := Bd.exec
  have hby := Bd.bytes
  have hml : c.maxLocals = 1 := hml0
  have hown : s.vm.findClass "com/example/keyfold/keyfold/JsonValue" = some m.cls := findClass_of_methodNamed Bd.named
  have hnm := (name_of_methodNamed Bd.named Bd.method).1
  have X0 : Stand p l e ({ frames := 2, cells := 0, slots := 0, locals := 26 } : Room) s m #[(.ref a1)] below meth c s₁ [] 0 0 := Stand.of_body Bd
  have e0 : s₁.heap = h0 := by rw [← hh, Bd.state]; rfl
  have N0 := Fr.nil n0
  have pre0 : ∀ t, Steps p.tables e below (s₁.setTop (mkF m 0 #[.val (.ref a1)] [])) t → Steps p.tables e below (s₁.setTop (entryFrame m #[(.ref a1)] 1)) t := fun t k => castTop (ef_1 m a1) k
  obtain ⟨S_K, S_D, S_OBJECT, K_OBJECT, S_ARRAY, K_ARRAY, S_STRING, K_STRING, S_NUMBER, K_NUMBER, S_TRUE, K_TRUE, S_FALSE, K_FALSE, S_NULL, K_NULL⟩ := id En
  obtain ⟨-, -, clK, ArK, hiK, haK⟩ := id Kq
  obtain ⟨T101, X101, e101, st101⟩ := getS2 X0 hx hZ hown (host := "") (Or.inl (hw _ (List.mem_of_getElem? (i := 79) rfl))) Via.refl e0 (Sta.ext O0.2 S_K) (g := (mkF m 0 #[.val (.ref a1)] [])) rfl (hb hby dc14_0)
  obtain ⟨cq102, q102, q102'⟩ := Exa.cell Ev
  obtain ⟨_, _, ⟨T102, L102, k102, n102⟩, -, X102, ⟨Lc102, hQ102, l102, y102, z102⟩, st102⟩ := X101.privateBack hx (y := (⟨"com/example/keyfold/keyfold/JsonValue", "field", "(I)I"⟩ : MethodName)) hown (mvT hZ (hw _ (List.mem_of_getElem? (i := 81) rfl))) (mvT hZ (hw _ (List.mem_of_getElem? (i := 82) rfl))) (mvT hZ (own_sel (y := (⟨"com/example/keyfold/keyfold/JsonValue", "field", "(I)I"⟩ : MethodName)) (hw _ (List.mem_of_getElem? (i := 61) rfl)) (hw _ (List.mem_of_getElem? (i := 83) rfl)) (hw _ (List.mem_of_getElem? (i := 82) rfl)) (by decide))) (Cond.privateMethod_at (mvP hZ (hw _ (List.mem_of_getElem? (i := 83) rfl)) (args := #[]))) (mvT hZ (hw _ (List.mem_of_getElem? (i := 84) rfl))) (by decide) (backOf (W := 1) (rmFd0 l Z a0 hw [] aK a_OBJECT a_ARRAY a_STRING a_NUMBER a_TRUE a_FALSE a_NULL a1 t1 br xs r0 h0 n0 O0 En Ev Ft Fi Fq Lq Rc.1) hZ (hw _ (List.mem_of_getElem? (i := 84) rfl)) (hw _ (List.mem_of_getElem? (i := 62) rfl)) (by decide) (by decide)) (g := (mkF m 5 #[.val (.ref a1)] [(.int (0 : Int32)), (.ref a1), (.ref aK)])) rfl (by rw [hml]; rfl) (Steps.refl _) (a := a1) (by rw [e101]; exact q102) q102' (argsL := [(.int (0 : Int32))]) (rest := [(.ref aK)]) (lenOf pd_3 rfl) rfl (by show 2 * 0 + _ ≤ _; exact Nat.le_of_eq rfl) (hb hby dc14_5) (fun _ _ => ⟨rfl, e101, (by decide : 0 + 0 ≤ _), (by decide : 0 + 0 ≤ _)⟩)
  dsimp only [Pt.U, Pt.locs, Pt.cells, Pt.slots] at X102 l102 y102 z102 st102 hQ102
  subst l102 y102 z102
  obtain ⟨rfl, N102q, hh102⟩ := hQ102
  have N102 := Fr.app N0 N102q
  obtain ⟨fs, hr, hrun, hended, hW, hsame⟩ := X102.leave (v := some (.ref ak)) (fun h => by rw [Bd.returns] at h; cases h)
  refine ⟨_, _, pre0 _ ?_, hrun, hended, _, _, rfl, ?_, ⟨_, rfl⟩, hW, hsame.mono (by decide) (by decide)⟩
  · skip
    show Steps p.tables e below (s₁.setTop (mkF m 0 #[.val (.ref a1)] [])) _
    refine st101 _ ?_
    show Steps p.tables e below (T101.setTop (mkF m 3 #[.val (.ref a1)] [(.ref aK)])) _
    refine XS.aloadN X101.here hx rfl (hb hby dc14_3) rfl rfl ?_
    show Steps p.tables e below (T101.setTop (mkF m 4 #[.val (.ref a1)] [(.ref a1), (.ref aK)])) _
    refine XS.iconst X101.here hx rfl (hb hby dc14_4) ?_
    show Steps p.tables e below (T101.setTop (mkF m 5 #[.val (.ref a1)] [(.int (0 : Int32)), (.ref a1), (.ref aK)])) _
    refine st102.trans ?_
    show Steps p.tables e below (T102.setTop (mkF m 8 #[.val (.ref a1)] [(.int r0), (.ref aK)])) _
    refine XS.bipush X102.here hx rfl (hb hby dc14_8) ?_
    show Steps p.tables e below (T102.setTop (mkF m 10 #[.val (.ref a1)] [(.int (7 : Int32)), (.int r0), (.ref aK)])) _
    refine XS.iand X102.here hx rfl (hb hby dc14_10) rfl ?_
    show Steps p.tables e below (T102.setTop (mkF m 11 #[.val (.ref a1)] [(.int (r0 &&& (7 : Int32))), (.ref aK)])) _
    rw [hk7]
    show Steps p.tables e below (T102.setTop (mkF m 11 #[.val (.ref a1)] [(.int j), (.ref aK)])) _
    refine X102.aaload hx (j := j) (v := (.ref ak)) (by rw [hh102]; exact (ArK.ext O0.2).1) (State.isArrayOf_alike hZ.alike (ArK.ext O0.2).2.1) rfl (ArK.ext O0.2).2.2 hiK haK (g := (mkF m 11 #[.val (.ref a1)] [(.int j), (.ref aK)])) rfl rfl (hb hby dc14_11) _ ?_
    show Steps p.tables e below (T102.setTop (mkF m 12 #[.val (.ref a1)] [(.ref ak)])) _
    exact retOut X102 hx (t := (.object "com/example/keyfold/keyfold/JsonValue$Kind")) Bd.returns rfl (Or.inr (Or.inr (Or.inr (Or.inr ⟨rfl, rfl, rfl⟩)))) (hb hby dc14_12) hr
  · show Q_kd ak h0 n0 _ T102.heap _
    rw [hh102]
    exact ⟨rfl, N102, rfl⟩
theorem own_s9 {s1 : Int32} (h0 : ¬ s1 < 0) (h8 : ¬ (8 : Int32) < s1) : s1 = (0 : Int32) ∨ s1 = (1 : Int32) ∨ s1 = (2 : Int32) ∨ s1 = (3 : Int32) ∨ s1 = (4 : Int32) ∨ s1 = (5 : Int32) ∨ s1 = (6 : Int32) ∨ s1 = (7 : Int32) ∨ s1 = (8 : Int32) := by
  have e : ∀ k : Int32, s1.toInt = k.toInt → s1 = k := fun k q => Int32.toInt_inj.mp q
  rw [Int32.lt_iff_toInt_lt] at h0 h8
  have f0 : (0 : Int32).toInt = 0 := rfl
  have f8 : (8 : Int32).toInt = 8 := rfl
  have : s1.toInt = 0 ∨ s1.toInt = 1 ∨ s1.toInt = 2 ∨ s1.toInt = 3 ∨ s1.toInt = 4 ∨ s1.toInt = 5 ∨ s1.toInt = 6 ∨ s1.toInt = 7 ∨ s1.toInt = 8 := by omega
  rcases this with q | q | q | q | q | q | q | q | q
  · exact Or.inl (e (0 : Int32) (q.trans (rfl : (0 : Int) = Int32.toInt (0 : Int32))))
  · exact Or.inr (Or.inl (e (1 : Int32) (q.trans (rfl : (1 : Int) = Int32.toInt (1 : Int32)))))
  · exact Or.inr (Or.inr (Or.inl (e (2 : Int32) (q.trans (rfl : (2 : Int) = Int32.toInt (2 : Int32))))))
  · exact Or.inr (Or.inr (Or.inr (Or.inl (e (3 : Int32) (q.trans (rfl : (3 : Int) = Int32.toInt (3 : Int32)))))))
  · exact Or.inr (Or.inr (Or.inr (Or.inr (Or.inl (e (4 : Int32) (q.trans (rfl : (4 : Int) = Int32.toInt (4 : Int32))))))))
  · exact Or.inr (Or.inr (Or.inr (Or.inr (Or.inr (Or.inl (e (5 : Int32) (q.trans (rfl : (5 : Int) = Int32.toInt (5 : Int32)))))))))
  · exact Or.inr (Or.inr (Or.inr (Or.inr (Or.inr (Or.inr (Or.inl (e (6 : Int32) (q.trans (rfl : (6 : Int) = Int32.toInt (6 : Int32))))))))))
  · exact Or.inr (Or.inr (Or.inr (Or.inr (Or.inr (Or.inr (Or.inr (Or.inl (e (7 : Int32) (q.trans (rfl : (7 : Int) = Int32.toInt (7 : Int32)))))))))))
  · exact Or.inr (Or.inr (Or.inr (Or.inr (Or.inr (Or.inr (Or.inr (Or.inr ((e (8 : Int32) (q.trans (rfl : (8 : Int) = Int32.toInt (8 : Int32))))))))))))
theorem own_se {s1 e1 : Int32} (hs0 : ¬ s1 < (0 : Int32)) (hse : ¬ e1 < s1) (he8 : ¬ (8 : Int32) < e1) : (s1 = (0 : Int32) ∨ s1 = (1 : Int32) ∨ s1 = (2 : Int32) ∨ s1 = (3 : Int32) ∨ s1 = (4 : Int32) ∨ s1 = (5 : Int32) ∨ s1 = (6 : Int32) ∨ s1 = (7 : Int32) ∨ s1 = (8 : Int32)) ∧ (e1 = (0 : Int32) ∨ e1 = (1 : Int32) ∨ e1 = (2 : Int32) ∨ e1 = (3 : Int32) ∨ e1 = (4 : Int32) ∨ e1 = (5 : Int32) ∨ e1 = (6 : Int32) ∨ e1 = (7 : Int32) ∨ e1 = (8 : Int32)) := by
  refine ⟨own_s9 hs0 ?_, own_s9 ?_ he8⟩
  · intro q; exact he8 (Int32.lt_of_lt_of_le q (Int32.not_lt.mp hse))
  · intro q; exact hs0 (Int32.lt_of_le_of_lt (Int32.not_lt.mp hse) q)
def own_len (s1 e1 : Int32) : Int32 := (((e1 + (1 : Int32)) >>> ((1 : Int32) &&& 31)) - ((s1 + (1 : Int32)) >>> ((1 : Int32) &&& 31)))
def own_ok (s1 e1 : Int32) : Prop := ¬ (e1 - s1) < 0 ∧ (e1 - s1).toNatClampNeg ≤ 8 ∧ ¬ ((8 : Int32) - s1) < (e1 - s1) ∧ s1.toNatClampNeg + (e1 - s1).toNatClampNeg ≤ (8 : Int32).toNatClampNeg ∧ ¬ own_len s1 e1 < 0 ∧ ¬ (e1 - s1) < own_len s1 e1 ∧ (own_len s1 e1).toNatClampNeg ≤ 8 ∧ (0 : Int32).toNatClampNeg + (own_len s1 e1).toNatClampNeg ≤ (e1 - s1).toNatClampNeg
instance (s1 e1 : Int32) : Decidable (own_ok s1 e1) := by unfold own_ok; infer_instance
theorem own_oks {s1 e1 : Int32} (hs0 : ¬ s1 < (0 : Int32)) (hse : ¬ e1 < s1) (he8 : ¬ (8 : Int32) < e1) : own_ok s1 e1 := by
  obtain ⟨a, b⟩ := own_se hs0 hse he8
  rcases a with (rfl | rfl | rfl | rfl | rfl | rfl | rfl | rfl | rfl) <;> rcases b with (rfl | rfl | rfl | rfl | rfl | rfl | rfl | rfl | rfl) <;> first | decide | exact absurd (by decide) hse
theorem own_anti {x y : Int32} (h1 : ¬ x < y) (h2 : ¬ y < x) : x = y := Int32.le_antisymm (Int32.not_lt.mp h2) (Int32.not_lt.mp h1)
def Q_nb (Z : State) (n : Int32) (h0 : Heap) (n0 : Nat) (v : Option Value) (h : Heap) (L : List Loc) : Prop := ∃ b : Addr, v = some (.ref b) ∧ Fr n0 L ∧ n0 ≤ b ∧ h0.size ≤ b ∧ Keep h0 h [] ∧ Exa Z h b "[B" ∧ By Z h b n
def Q_cl  (h0 : Heap) (n0 : Nat) (v : Option Value) (h : Heap) (L : List Loc) : Prop := v = none ∧ Fr n0 L ∧ h = h0
theorem pn_4 : plainName "java/util/Arrays" = true := by first | (simp [plainName, overriddenIn]; done) | decide +kernel
theorem ef_8 (m : MethodId) (x0 : Int32) (x1 : Int32) : entryFrame m #[(.int x0), (.int x1)] 2 = mkF m 0 #[.val (.int x0), .val (.int x1)] [] := by first | (simp [entryFrame, mkF, argsToLocals, Value.category]; done) | rfl
theorem dc15_0 : decode jdk_65_method_131_code 0 = .ok (.iload_n 1, 1) := by decide +kernel
theorem dc15_1 : decode jdk_65_method_131_code 1 = .ok (.iload_n 0, 1) := by decide +kernel
theorem dc15_2 : decode jdk_65_method_131_code 2 = .ok (.if_icmp .ge 35, 3) := by decide +kernel
theorem dc15_37 : decode jdk_65_method_131_code 37 = .ok (.return_, 1) := by decide +kernel
set_option maxRecDepth 65536 in
set_option maxHeartbeats 40000000 in
theorem rmCl (l : Launch) (Z : State) (a0 : Array Value) (hw : ∀ d ∈ tables_1, d.before a0 Z = true) (ws : List Jvm.Cond) (s1 e1 : Int32) (h0 : Heap) (n0 : Nat) (O0 : Old Z n0 h0) (hse : ¬ e1 < s1) :
    MetFree l (⟨"java/util/Arrays", "checkLength", "(II)V"⟩ : MethodName) (head1 (Jvm.Cond.code (⟨"java/util/Arrays", "checkLength", "(II)V"⟩ : MethodName) jdk_65_method_131_code 2 none :: ws) ({ frames := 0, cells := 0, slots := 0, locals := 0 } : Room)) (fun a U => a = #[(.int s1), (.int e1)] ∧ Z.Warmed39 U.vm ∧ U.heap = h0) (fun _ _ _ _ _ => True) (fun _ U o U' => ∃ v L, o = .returned v ∧ Q_cl h0 n0 v U'.heap L ∧ FrameEnd U o U' L ({ frames := 0, cells := 0, slots := 0, locals := 0 } : Room).cells ({ frames := 0, cells := 0, slots := 0, locals := 0 } : Room).slots) := by
  refine MetFree.of_bodySF (plainFor_of_name pn_4) hisR ?_
  intro p e s m args below meth c s₁ Bd hml0 hP hK
  obtain ⟨rfl, hZ, hh⟩ := hP
  have hx := Bd.exec
  have hby := Bd.bytes
  have hml : c.maxLocals = 2 := hml0
  have hown : s.vm.findClass "java/util/Arrays" = some m.cls := findClass_of_methodNamed Bd.named
  have hnm := (name_of_methodNamed Bd.named Bd.method).1
  have X0 : Stand p l e ({ frames := 0, cells := 0, slots := 0, locals := 0 } : Room) s m #[(.int s1), (.int e1)] below meth c s₁ [] 0 0 := Stand.of_body Bd
  have e0 : s₁.heap = h0 := by rw [← hh, Bd.state]; rfl
  have N0 := Fr.nil n0
  have pre0 : ∀ t, Steps p.tables e below (s₁.setTop (mkF m 0 #[.val (.int s1), .val (.int e1)] [])) t → Steps p.tables e below (s₁.setTop (entryFrame m #[(.int s1), (.int e1)] 2)) t := fun t k => castTop (ef_8 m s1 e1) k
  obtain ⟨fs, hr, hrun, hended, hW, hsame⟩ := X0.leave (v := none) (fun _ => rfl)
  refine ⟨_, _, pre0 _ ?_, hrun, hended, _, _, rfl, ?_, ⟨_, rfl⟩, hW, hsame.mono (by decide) (by decide)⟩
  · skip
    show Steps p.tables e below (s₁.setTop (mkF m 0 #[.val (.int s1), .val (.int e1)] [])) _
    refine XS.iloadN X0.here hx rfl (hb hby dc15_0) rfl ?_
    show Steps p.tables e below (s₁.setTop (mkF m 1 #[.val (.int s1), .val (.int e1)] [(.int e1)])) _
    refine XS.iloadN X0.here hx rfl (hb hby dc15_1) rfl ?_
    show Steps p.tables e below (s₁.setTop (mkF m 2 #[.val (.int s1), .val (.int e1)] [(.int s1), (.int e1)])) _
    refine XS.icmpYes X0.here hx rfl (pc0 := 2) (pc' := 37) rfl (hb hby dc15_2) rfl (flt hse).2.1 (by decide) (by decide) ?_
    show Steps p.tables e below (s₁.setTop (mkF m 37 #[.val (.int s1), .val (.int e1)] [])) _
    exact X0.returnOut hx Bd.returns (hb hby dc15_37) hr
  · show Q_cl h0 n0 _ s₁.heap _
    rw [e0]
    exact ⟨rfl, N0, rfl⟩
def Q_mn (y1 : Int32) (h0 : Heap) (n0 : Nat) (v : Option Value) (h : Heap) (L : List Loc) : Prop := v = some (.int y1) ∧ Fr n0 L ∧ h = h0
theorem dc16_0 : decode jdk_29_method_69_code 0 = .ok (.iload_n 0, 1) := by decide +kernel
theorem dc16_1 : decode jdk_29_method_69_code 1 = .ok (.iload_n 1, 1) := by decide +kernel
theorem dc16_2 : decode jdk_29_method_69_code 2 = .ok (.if_icmp .gt 7, 3) := by decide +kernel
theorem dc16_9 : decode jdk_29_method_69_code 9 = .ok (.iload_n 1, 1) := by decide +kernel
theorem dc16_10 : decode jdk_29_method_69_code 10 = .ok (.ireturn, 1) := by decide +kernel
theorem dc16_5 : decode jdk_29_method_69_code 5 = .ok (.iload_n 0, 1) := by decide +kernel
theorem dc16_6 : decode jdk_29_method_69_code 6 = .ok (.goto 4, 3) := by decide +kernel
set_option maxRecDepth 65536 in
set_option maxHeartbeats 40000000 in
theorem rmMn (l : Launch) (Z : State) (a0 : Array Value) (hw : ∀ d ∈ tables_1, d.before a0 Z = true) (ws : List Jvm.Cond) (x1 y1 : Int32) (h0 : Heap) (n0 : Nat) (O0 : Old Z n0 h0) (hmn : ¬ x1 < y1) :
    MetFree l (⟨"java/lang/Math", "min", "(II)I"⟩ : MethodName) (head1 (Jvm.Cond.code (⟨"java/lang/Math", "min", "(II)I"⟩ : MethodName) jdk_29_method_69_code 2 (some .int) :: ws) ({ frames := 0, cells := 0, slots := 0, locals := 0 } : Room)) (fun a U => a = #[(.int x1), (.int y1)] ∧ Z.Warmed39 U.vm ∧ U.heap = h0) (fun _ _ _ _ _ => True) (fun _ U o U' => ∃ v L, o = .returned v ∧ Q_mn y1 h0 n0 v U'.heap L ∧ FrameEnd U o U' L ({ frames := 0, cells := 0, slots := 0, locals := 0 } : Room).cells ({ frames := 0, cells := 0, slots := 0, locals := 0 } : Room).slots) := by
  refine MetFree.of_bodySF (Jvm.Free.JP.mathPlain rfl (by decide +kernel)) hisR ?_
  intro p e s m args below meth c s₁ Bd hml0 hP hK
  obtain ⟨rfl, hZ, hh⟩ := hP
  have hx := Bd.exec
  have hby := Bd.bytes
  have hml : c.maxLocals = 2 := hml0
  have hown : s.vm.findClass "java/lang/Math" = some m.cls := findClass_of_methodNamed Bd.named
  have hnm := (name_of_methodNamed Bd.named Bd.method).1
  have X0 : Stand p l e ({ frames := 0, cells := 0, slots := 0, locals := 0 } : Room) s m #[(.int x1), (.int y1)] below meth c s₁ [] 0 0 := Stand.of_body Bd
  have e0 : s₁.heap = h0 := by rw [← hh, Bd.state]; rfl
  have N0 := Fr.nil n0
  have pre0 : ∀ t, Steps p.tables e below (s₁.setTop (mkF m 0 #[.val (.int x1), .val (.int y1)] [])) t → Steps p.tables e below (s₁.setTop (entryFrame m #[(.int x1), (.int y1)] 2)) t := fun t k => castTop (ef_8 m x1 y1) k
  have pre101 : ∀ t, Steps p.tables e below (s₁.setTop (mkF m 2 #[.val (.int x1), .val (.int y1)] [(.int y1), (.int x1)])) t → Steps p.tables e below (s₁.setTop (entryFrame m #[(.int x1), (.int y1)] 2)) t := fun t kt => pre0 t (by
      show Steps p.tables e below (s₁.setTop (mkF m 0 #[.val (.int x1), .val (.int y1)] [])) _
      refine XS.iloadN X0.here hx rfl (hb hby dc16_0) rfl ?_
      show Steps p.tables e below (s₁.setTop (mkF m 1 #[.val (.int x1), .val (.int y1)] [(.int x1)])) _
      refine XS.iloadN X0.here hx rfl (hb hby dc16_1) rfl ?_
      exact kt)
  by_cases hc102 : y1 < x1
  · skip
    obtain ⟨fs, hr, hrun, hended, hW, hsame⟩ := X0.leave (v := some (.int y1)) (fun h => by rw [Bd.returns] at h; cases h)
    refine ⟨_, _, pre101 _ ?_, hrun, hended, _, _, rfl, ?_, ⟨_, rfl⟩, hW, hsame.mono (by decide) (by decide)⟩
    · skip
      show Steps p.tables e below (s₁.setTop (mkF m 2 #[.val (.int x1), .val (.int y1)] [(.int y1), (.int x1)])) _
      refine XS.icmpYes X0.here hx rfl (pc0 := 2) (pc' := 9) rfl (hb hby dc16_2) rfl (tlt hc102).2.2.1 (by decide) (by decide) ?_
      show Steps p.tables e below (s₁.setTop (mkF m 9 #[.val (.int x1), .val (.int y1)] [])) _
      refine XS.iloadN X0.here hx rfl (hb hby dc16_9) rfl ?_
      show Steps p.tables e below (s₁.setTop (mkF m 10 #[.val (.int x1), .val (.int y1)] [(.int y1)])) _
      exact retI X0 hx Bd.returns (hb hby dc16_10) hr
    · show Q_mn y1 h0 n0 _ s₁.heap _
      rw [e0]
      exact ⟨rfl, N0, rfl⟩
  · skip
    obtain ⟨fs, hr, hrun, hended, hW, hsame⟩ := X0.leave (v := some (.int x1)) (fun h => by rw [Bd.returns] at h; cases h)
    refine ⟨_, _, pre101 _ ?_, hrun, hended, _, _, rfl, ?_, ⟨_, rfl⟩, hW, hsame.mono (by decide) (by decide)⟩
    · skip
      show Steps p.tables e below (s₁.setTop (mkF m 2 #[.val (.int x1), .val (.int y1)] [(.int y1), (.int x1)])) _
      refine XS.icmpNo X0.here hx rfl (hb hby dc16_2) rfl (flt hc102).2.2.1 ?_
      show Steps p.tables e below (s₁.setTop (mkF m 5 #[.val (.int x1), .val (.int y1)] [])) _
      refine XS.iloadN X0.here hx rfl (hb hby dc16_5) rfl ?_
      show Steps p.tables e below (s₁.setTop (mkF m 6 #[.val (.int x1), .val (.int y1)] [(.int x1)])) _
      refine XS.goto X0.here hx rfl (pc0 := 6) (pc' := 10) rfl (hb hby dc16_6) (by decide) (by decide) ?_
      show Steps p.tables e below (s₁.setTop (mkF m 10 #[.val (.int x1), .val (.int y1)] [(.int x1)])) _
      exact retI X0 hx Bd.returns (hb hby dc16_10) hr
    · show Q_mn y1 h0 n0 _ s₁.heap _
      rw [e0]
      exact ⟨by rw [own_anti hmn hc102], N0, rfl⟩
theorem ef_9 (m : MethodId) (x0 : Addr) (x1 : Int32) (x2 : Int32) : entryFrame m #[(.ref x0), (.int x1), (.int x2)] 5 = mkF m 0 #[.val (.ref x0), .val (.int x1), .val (.int x2), .unset, .unset] [] := by first | (simp [entryFrame, mkF, argsToLocals, Value.category]; done) | rfl
theorem dc17_0 : decode jdk_65_method_133_code 0 = .ok (.iload_n 1, 1) := by decide +kernel
theorem dc17_1 : decode jdk_65_method_133_code 1 = .ok (.iload_n 2, 1) := by decide +kernel
theorem dc17_2 : decode jdk_65_method_133_code 2 = .ok (.invokestatic 343, 3) := by decide +kernel
theorem pd_4 : parseMethodDescriptor "(II)V" = some ⟨[.int, .int], none⟩ := by decide +kernel
theorem dc17_5 : decode jdk_65_method_133_code 5 = .ok (.iload_n 2, 1) := by decide +kernel
theorem dc17_6 : decode jdk_65_method_133_code 6 = .ok (.iload_n 1, 1) := by decide +kernel
theorem dc17_7 : decode jdk_65_method_133_code 7 = .ok (.isub, 1) := by decide +kernel
theorem dc17_8 : decode jdk_65_method_133_code 8 = .ok (.istore_n 3, 1) := by decide +kernel
theorem dc17_9 : decode jdk_65_method_133_code 9 = .ok (.iload_n 3, 1) := by decide +kernel
theorem dc17_10 : decode jdk_65_method_133_code 10 = .ok (.newarray .byte, 2) := by decide +kernel
theorem dc17_12 : decode jdk_65_method_133_code 12 = .ok (.astore 4, 2) := by decide +kernel
theorem dc17_14 : decode jdk_65_method_133_code 14 = .ok (.aload_n 0, 1) := by decide +kernel
theorem dc17_15 : decode jdk_65_method_133_code 15 = .ok (.iload_n 1, 1) := by decide +kernel
theorem dc17_16 : decode jdk_65_method_133_code 16 = .ok (.aload 4, 2) := by decide +kernel
theorem dc17_18 : decode jdk_65_method_133_code 18 = .ok (.iconst 0, 1) := by decide +kernel
theorem dc17_19 : decode jdk_65_method_133_code 19 = .ok (.aload_n 0, 1) := by decide +kernel
theorem dc17_20 : decode jdk_65_method_133_code 20 = .ok (.arraylength, 1) := by decide +kernel
theorem dc17_21 : decode jdk_65_method_133_code 21 = .ok (.iload_n 1, 1) := by decide +kernel
theorem dc17_22 : decode jdk_65_method_133_code 22 = .ok (.isub, 1) := by decide +kernel
theorem dc17_23 : decode jdk_65_method_133_code 23 = .ok (.iload_n 3, 1) := by decide +kernel
theorem dc17_24 : decode jdk_65_method_133_code 24 = .ok (.invokestatic 304, 3) := by decide +kernel
theorem pd_5 : parseMethodDescriptor "(II)I" = some ⟨[.int, .int], some .int⟩ := by decide +kernel
theorem dc17_27 : decode jdk_65_method_133_code 27 = .ok (.invokestatic 150, 3) := by decide +kernel
theorem dc17_30 : decode jdk_65_method_133_code 30 = .ok (.aload 4, 2) := by decide +kernel
theorem dc17_32 : decode jdk_65_method_133_code 32 = .ok (.areturn, 1) := by decide +kernel
set_option maxRecDepth 65536 in
set_option maxHeartbeats 40000000 in
theorem rmCb (l : Launch) (Z : State) (a0 : Array Value) (hw : ∀ d ∈ tables_1, d.before a0 Z = true) (ws : List Jvm.Cond) (c1 : Addr) (s1 e1 : Int32) (h0 : Heap) (n0 : Nat) (O0 : Old Z n0 h0) (Ec : Exa Z h0 c1 "[B") (Bc : By Z h0 c1 (8 : Int32)) (hs0 : ¬ s1 < (0 : Int32)) (hse : ¬ e1 < s1) (he8 : ¬ (8 : Int32) < e1) :
    MetFree l (⟨"java/util/Arrays", "copyOfRangeByte", "([BII)[B"⟩ : MethodName) (head1 (Jvm.Cond.code (⟨"java/util/Arrays", "copyOfRangeByte", "([BII)[B"⟩ : MethodName) jdk_65_method_133_code 5 (some (.array .byte)) :: ws) ({ frames := 1, cells := 1, slots := 8, locals := 18 } : Room)) (fun a U => a = #[(.ref c1), (.int s1), (.int e1)] ∧ Z.Warmed39 U.vm ∧ U.heap = h0) (fun _ _ _ _ _ => True) (fun _ U o U' => ∃ v L, o = .returned v ∧ Q_nb Z (e1 - s1) h0 n0 v U'.heap L ∧ FrameEnd U o U' L ({ frames := 1, cells := 1, slots := 8, locals := 18 } : Room).cells ({ frames := 1, cells := 1, slots := 8, locals := 18 } : Room).slots) := by
  refine MetFree.of_bodySF (plainFor_of_name pn_4) hisR ?_
  intro p e s m args below meth c s₁ Bd hml0 hP hK
  obtain ⟨rfl, hZ, hh⟩ := hP
  have hx := Bd.exec
  have hby := Bd.bytes
  have hml : c.maxLocals = 5 := hml0
  have hown : s.vm.findClass "java/util/Arrays" = some m.cls := findClass_of_methodNamed Bd.named
  have hnm := (name_of_methodNamed Bd.named Bd.method).1
  have X0 : Stand p l e ({ frames := 1, cells := 1, slots := 8, locals := 18 } : Room) s m #[(.ref c1), (.int s1), (.int e1)] below meth c s₁ [] 0 0 := Stand.of_body Bd
  have e0 : s₁.heap = h0 := by rw [← hh, Bd.state]; rfl
  have N0 := Fr.nil n0
  have pre0 : ∀ t, Steps p.tables e below (s₁.setTop (mkF m 0 #[.val (.ref c1), .val (.int s1), .val (.int e1), .unset, .unset] [])) t → Steps p.tables e below (s₁.setTop (entryFrame m #[(.ref c1), (.int s1), (.int e1)] 5)) t := fun t k => castTop (ef_9 m c1 s1 e1) k
  have ok := own_oks hs0 hse he8
  obtain ⟨_, _, ⟨T101, L101, k101, n101⟩, -, X101, ⟨Lc101, hQ101, l101, y101, z101⟩, st101⟩ := Jvm.LawKit.callS X0 hx (y := (⟨"java/util/Arrays", "checkLength", "(II)V"⟩ : MethodName)) hown (mvT hZ (hw _ (List.mem_of_getElem? (i := 126) rfl))) (mvT hZ (hw _ (List.mem_of_getElem? (i := 127) rfl))) (mvT hZ (hw _ (List.mem_of_getElem? (i := 121) rfl))) (mvT hZ (hw _ (List.mem_of_getElem? (i := 128) rfl))) (by decide) (backOf (W := 0) (rmCl l Z a0 hw [] s1 e1 h0 n0 O0 hse) hZ (hw _ (List.mem_of_getElem? (i := 128) rfl)) (hw _ (List.mem_of_getElem? (i := 121) rfl)) (by decide) (by decide)) (g := (mkF m 2 #[.val (.ref c1), .val (.int s1), .val (.int e1), .unset, .unset] [(.int e1), (.int s1)])) rfl (by rw [hml]; rfl) (argsL := [(.int s1), (.int e1)]) (rest := []) (lenOf pd_4 rfl) rfl (by show 2 * 0 + _ ≤ _; exact Nat.le_of_eq rfl) (hb hby dc17_2) (fun _ _ => ⟨rfl, e0, (by decide : 0 + 0 ≤ _), (by decide : 0 + 0 ≤ _)⟩)
  dsimp only [Pt.U, Pt.locs, Pt.cells, Pt.slots] at X101 l101 y101 z101 st101 hQ101
  subst l101 y101 z101
  obtain ⟨rfl, N101q, hh101⟩ := hQ101
  have N101 := Fr.app N0 N101q
  obtain ⟨T102, h102, k102, X102, e102, E102, A102, Q102, st102⟩ := newPE X101 hx hZ (hw _ (List.mem_of_getElem? (i := 8) rfl)) hh101 (g := (mkF m 10 #[.val (.ref c1), .val (.int s1), .val (.int e1), .val (.int (e1 - s1)), .unset] [(.int (e1 - s1))])) rfl (hb hby dc17_10) rfl ok.1 (cap := 8) ok.2.1 (by decide) (by decide) (by decide) (ad := "[B") rfl
  obtain ⟨b102, g102⟩ : ∃ z, z = h0.size := ⟨_, rfl⟩
  rw [← g102] at A102 Q102 st102
  have gb102 : n0 ≤ b102 := by rw [g102, ← O0.1]; exact O0.2.1
  have ne102_c1 : c1 ≠ b102 := by rw [g102]; exact Nat.ne_of_lt (Ec).lt
  have sz102 : h0.size ≤ b102 := by rw [g102]; exact ((Keep.refl h0 [])).1
  have V102 : By Z h102 b102 (e1 - s1) := By.new A102 ok.1
  have f104 := (Bc.ext E102)
  obtain ⟨cl103, Ar103, S103, N103_, -, -⟩ := By.at f104
  have O105 : Old Z n0 h102 := (O0.ext E102)
  obtain ⟨_, _, ⟨T106, L106, k106, n106⟩, -, X106, ⟨Lc106, hQ106, l106, y106, z106⟩, st106⟩ := Jvm.LawKit.callS X102 hx (y := (⟨"java/lang/Math", "min", "(II)I"⟩ : MethodName)) hown (mvT hZ (hw _ (List.mem_of_getElem? (i := 129) rfl))) (mvT hZ (hw _ (List.mem_of_getElem? (i := 130) rfl))) (mvT hZ (hw _ (List.mem_of_getElem? (i := 131) rfl))) (mvT hZ (hw _ (List.mem_of_getElem? (i := 132) rfl))) (by decide) (backOf (W := 4) (rmMn l Z a0 hw [] ((8 : Int32) - s1) (e1 - s1) h102 n0 O105 ok.2.2.1) hZ (hw _ (List.mem_of_getElem? (i := 132) rfl)) (hw _ (List.mem_of_getElem? (i := 131) rfl)) (by decide) (by decide)) (g := (mkF m 24 #[.val (.ref c1), .val (.int s1), .val (.int e1), .val (.int (e1 - s1)), .val (.ref b102)] [(.int (e1 - s1)), (.int ((8 : Int32) - s1)), (.int (0 : Int32)), (.ref b102), (.int s1), (.ref c1)])) rfl (by rw [hml]; rfl) (argsL := [(.int ((8 : Int32) - s1)), (.int (e1 - s1))]) (rest := [(.int (0 : Int32)), (.ref b102), (.int s1), (.ref c1)]) (lenOf pd_5 rfl) rfl (by show 2 * 0 + _ ≤ _; exact Nat.le_of_eq rfl) (hb hby dc17_24) (fun _ _ => ⟨rfl, e102, (by decide : 1 + 0 ≤ _), (by decide : 8 + 0 ≤ _)⟩)
  dsimp only [Pt.U, Pt.locs, Pt.cells, Pt.slots] at X106 l106 y106 z106 st106 hQ106
  subst l106 y106 z106
  obtain ⟨rfl, N106q, hh106⟩ := hQ106
  have N106 := Fr.app N101 N106q
  obtain ⟨T107, h107, L107, X107, e107, N107, K107, V107, st107⟩ := cpB X106 hx hZ hown (hw _ (List.mem_of_getElem? (i := 133) rfl)) (hw _ (List.mem_of_getElem? (i := 136) rfl)) (hw _ (List.mem_of_getElem? (i := 134) rfl)) (hw _ (List.mem_of_getElem? (i := 135) rfl)) hh106 f104 V102 hs0 ok.1 ok.2.2.2.1 (Nat.le_refl _) N106 gb102 (g := (mkF m 27 #[.val (.ref c1), .val (.int s1), .val (.int e1), .val (.int (e1 - s1)), .val (.ref b102)] [(.int (e1 - s1)), (.int (0 : Int32)), (.ref b102), (.int s1), (.ref c1)])) rfl (by rw [hml]; rfl) rfl (hb hby dc17_27) (by decide) (W := 0) (by show 2 * 0 + _ ≤ _; exact Nat.le_of_eq rfl) (by decide)
  obtain ⟨fs, hr, hrun, hended, hW, hsame⟩ := X107.leave (v := some (.ref b102)) (fun h => by rw [Bd.returns] at h; cases h)
  have K108 : Keep h0 h107 [] := (Keep.trans (Keep.ext (Keep.refl h0 []) E102) K107 (allS (P := fun x => x ∈ [] ∨ h0.size ≤ x) (Or.inr sz102) all0))
  have f109 := (Q102.keep K107)
  refine ⟨_, _, pre0 _ ?_, hrun, hended, _, _, rfl, ?_, ⟨_, rfl⟩, hW, hsame.mono (by decide) (by decide)⟩
  · skip
    show Steps p.tables e below (s₁.setTop (mkF m 0 #[.val (.ref c1), .val (.int s1), .val (.int e1), .unset, .unset] [])) _
    refine XS.iloadN X0.here hx rfl (hb hby dc17_0) rfl ?_
    show Steps p.tables e below (s₁.setTop (mkF m 1 #[.val (.ref c1), .val (.int s1), .val (.int e1), .unset, .unset] [(.int s1)])) _
    refine XS.iloadN X0.here hx rfl (hb hby dc17_1) rfl ?_
    show Steps p.tables e below (s₁.setTop (mkF m 2 #[.val (.ref c1), .val (.int s1), .val (.int e1), .unset, .unset] [(.int e1), (.int s1)])) _
    refine st101 _ ?_
    show Steps p.tables e below (T101.setTop (mkF m 5 #[.val (.ref c1), .val (.int s1), .val (.int e1), .unset, .unset] [])) _
    refine XS.iloadN X101.here hx rfl (hb hby dc17_5) rfl ?_
    show Steps p.tables e below (T101.setTop (mkF m 6 #[.val (.ref c1), .val (.int s1), .val (.int e1), .unset, .unset] [(.int e1)])) _
    refine XS.iloadN X101.here hx rfl (hb hby dc17_6) rfl ?_
    show Steps p.tables e below (T101.setTop (mkF m 7 #[.val (.ref c1), .val (.int s1), .val (.int e1), .unset, .unset] [(.int s1), (.int e1)])) _
    refine XS.isub X101.here hx rfl (hb hby dc17_7) rfl ?_
    show Steps p.tables e below (T101.setTop (mkF m 8 #[.val (.ref c1), .val (.int s1), .val (.int e1), .unset, .unset] [(.int (e1 - s1))])) _
    refine XS.istoreN X101.here hx rfl (hb hby dc17_8) rfl (l' := #[.val (.ref c1), .val (.int s1), .val (.int e1), .val (.int (e1 - s1)), .unset]) rfl ?_
    show Steps p.tables e below (T101.setTop (mkF m 9 #[.val (.ref c1), .val (.int s1), .val (.int e1), .val (.int (e1 - s1)), .unset] [])) _
    refine XS.iloadN X101.here hx rfl (hb hby dc17_9) rfl ?_
    show Steps p.tables e below (T101.setTop (mkF m 10 #[.val (.ref c1), .val (.int s1), .val (.int e1), .val (.int (e1 - s1)), .unset] [(.int (e1 - s1))])) _
    refine st102 _ ?_
    show Steps p.tables e below (T102.setTop (mkF m 12 #[.val (.ref c1), .val (.int s1), .val (.int e1), .val (.int (e1 - s1)), .unset] [(.ref b102)])) _
    refine XS.astore X102.here hx rfl (hb hby dc17_12) rfl rfl (l' := #[.val (.ref c1), .val (.int s1), .val (.int e1), .val (.int (e1 - s1)), .val (.ref b102)]) rfl ?_
    show Steps p.tables e below (T102.setTop (mkF m 14 #[.val (.ref c1), .val (.int s1), .val (.int e1), .val (.int (e1 - s1)), .val (.ref b102)] [])) _
    refine XS.aloadN X102.here hx rfl (hb hby dc17_14) rfl rfl ?_
    show Steps p.tables e below (T102.setTop (mkF m 15 #[.val (.ref c1), .val (.int s1), .val (.int e1), .val (.int (e1 - s1)), .val (.ref b102)] [(.ref c1)])) _
    refine XS.iloadN X102.here hx rfl (hb hby dc17_15) rfl ?_
    show Steps p.tables e below (T102.setTop (mkF m 16 #[.val (.ref c1), .val (.int s1), .val (.int e1), .val (.int (e1 - s1)), .val (.ref b102)] [(.int s1), (.ref c1)])) _
    refine XS.aload X102.here hx rfl (hb hby dc17_16) rfl rfl ?_
    show Steps p.tables e below (T102.setTop (mkF m 18 #[.val (.ref c1), .val (.int s1), .val (.int e1), .val (.int (e1 - s1)), .val (.ref b102)] [(.ref b102), (.int s1), (.ref c1)])) _
    refine XS.iconst X102.here hx rfl (hb hby dc17_18) ?_
    show Steps p.tables e below (T102.setTop (mkF m 19 #[.val (.ref c1), .val (.int s1), .val (.int e1), .val (.int (e1 - s1)), .val (.ref b102)] [(.int (0 : Int32)), (.ref b102), (.int s1), (.ref c1)])) _
    refine XS.aloadN X102.here hx rfl (hb hby dc17_19) rfl rfl ?_
    show Steps p.tables e below (T102.setTop (mkF m 20 #[.val (.ref c1), .val (.int s1), .val (.int e1), .val (.int (e1 - s1)), .val (.ref b102)] [(.ref c1), (.int (0 : Int32)), (.ref b102), (.int s1), (.ref c1)])) _
    refine X102.arraylength hx (by rw [e102]; exact Ar103.1) (State.isArrayOf_alike hZ.alike Ar103.2.1) (g := (mkF m 20 #[.val (.ref c1), .val (.int s1), .val (.int e1), .val (.int (e1 - s1)), .val (.ref b102)] [(.ref c1), (.int (0 : Int32)), (.ref b102), (.int s1), (.ref c1)])) rfl rfl (hb hby dc17_20) _ ?_
    rw [len_of S103 N103_]
    show Steps p.tables e below (T102.setTop (mkF m 21 #[.val (.ref c1), .val (.int s1), .val (.int e1), .val (.int (e1 - s1)), .val (.ref b102)] [(.int (8 : Int32)), (.int (0 : Int32)), (.ref b102), (.int s1), (.ref c1)])) _
    refine XS.iloadN X102.here hx rfl (hb hby dc17_21) rfl ?_
    show Steps p.tables e below (T102.setTop (mkF m 22 #[.val (.ref c1), .val (.int s1), .val (.int e1), .val (.int (e1 - s1)), .val (.ref b102)] [(.int s1), (.int (8 : Int32)), (.int (0 : Int32)), (.ref b102), (.int s1), (.ref c1)])) _
    refine XS.isub X102.here hx rfl (hb hby dc17_22) rfl ?_
    show Steps p.tables e below (T102.setTop (mkF m 23 #[.val (.ref c1), .val (.int s1), .val (.int e1), .val (.int (e1 - s1)), .val (.ref b102)] [(.int ((8 : Int32) - s1)), (.int (0 : Int32)), (.ref b102), (.int s1), (.ref c1)])) _
    refine XS.iloadN X102.here hx rfl (hb hby dc17_23) rfl ?_
    show Steps p.tables e below (T102.setTop (mkF m 24 #[.val (.ref c1), .val (.int s1), .val (.int e1), .val (.int (e1 - s1)), .val (.ref b102)] [(.int (e1 - s1)), (.int ((8 : Int32) - s1)), (.int (0 : Int32)), (.ref b102), (.int s1), (.ref c1)])) _
    refine st106 _ ?_
    show Steps p.tables e below (T106.setTop (mkF m 27 #[.val (.ref c1), .val (.int s1), .val (.int e1), .val (.int (e1 - s1)), .val (.ref b102)] [(.int (e1 - s1)), (.int (0 : Int32)), (.ref b102), (.int s1), (.ref c1)])) _
    refine st107 _ ?_
    show Steps p.tables e below (T107.setTop (mkF m 30 #[.val (.ref c1), .val (.int s1), .val (.int e1), .val (.int (e1 - s1)), .val (.ref b102)] [])) _
    refine XS.aload X107.here hx rfl (hb hby dc17_30) rfl rfl ?_
    show Steps p.tables e below (T107.setTop (mkF m 32 #[.val (.ref c1), .val (.int s1), .val (.int e1), .val (.int (e1 - s1)), .val (.ref b102)] [(.ref b102)])) _
    exact retOut X107 hx (t := (.array .byte)) Bd.returns rfl (Or.inr (Or.inr (Or.inr (Or.inr ⟨rfl, rfl, rfl⟩)))) (hb hby dc17_32) hr
  · show Q_nb Z (e1 - s1) h0 n0 _ T107.heap _
    rw [e107]
    exact ⟨_, rfl, N107, gb102, sz102, K108, f109, V107⟩
theorem ef_10 (m : MethodId) (x0 : Addr) (x1 : Int32) (x2 : Int32) : entryFrame m #[(.ref x0), (.int x1), (.int x2)] 3 = mkF m 0 #[.val (.ref x0), .val (.int x1), .val (.int x2)] [] := by first | (simp [entryFrame, mkF, argsToLocals, Value.category]; done) | rfl
theorem dc18_0 : decode jdk_65_method_132_code 0 = .ok (.iload_n 1, 1) := by decide +kernel
theorem dc18_1 : decode jdk_65_method_132_code 1 = .ok (.ifCond .ne 9, 3) := by decide +kernel
theorem dc18_4 : decode jdk_65_method_132_code 4 = .ok (.iload_n 2, 1) := by decide +kernel
theorem dc18_5 : decode jdk_65_method_132_code 5 = .ok (.aload_n 0, 1) := by decide +kernel
theorem dc18_6 : decode jdk_65_method_132_code 6 = .ok (.arraylength, 1) := by decide +kernel
theorem dc18_7 : decode jdk_65_method_132_code 7 = .ok (.if_icmp .eq 10, 3) := by decide +kernel
theorem dc18_17 : decode jdk_65_method_132_code 17 = .ok (.aload_n 0, 1) := by decide +kernel
theorem dc18_18 : decode jdk_65_method_132_code 18 = .ok (.invokevirtual 310, 3) := by decide +kernel
theorem dc18_21 : decode jdk_65_method_132_code 21 = .ok (.checkcast 311, 3) := by decide +kernel
theorem dc18_24 : decode jdk_65_method_132_code 24 = .ok (.areturn, 1) := by decide +kernel
theorem dc18_10 : decode jdk_65_method_132_code 10 = .ok (.aload_n 0, 1) := by decide +kernel
theorem dc18_11 : decode jdk_65_method_132_code 11 = .ok (.iload_n 1, 1) := by decide +kernel
theorem dc18_12 : decode jdk_65_method_132_code 12 = .ok (.iload_n 2, 1) := by decide +kernel
theorem dc18_13 : decode jdk_65_method_132_code 13 = .ok (.invokestatic 339, 3) := by decide +kernel
theorem pd_6 : parseMethodDescriptor "([BII)[B" = some ⟨[(.array .byte), .int, .int], some (.array .byte)⟩ := by decide +kernel
theorem dc18_16 : decode jdk_65_method_132_code 16 = .ok (.areturn, 1) := by decide +kernel
set_option maxRecDepth 65536 in
set_option maxHeartbeats 40000000 in
theorem rmCr (l : Launch) (Z : State) (a0 : Array Value) (hw : ∀ d ∈ tables_1, d.before a0 Z = true) (ws : List Jvm.Cond) (c1 : Addr) (s1 e1 : Int32) (h0 : Heap) (n0 : Nat) (O0 : Old Z n0 h0) (Ec : Exa Z h0 c1 "[B") (Bc : By Z h0 c1 (8 : Int32)) (hs0 : ¬ s1 < (0 : Int32)) (hse : ¬ e1 < s1) (he8 : ¬ (8 : Int32) < e1) :
    MetFree l (⟨"java/util/Arrays", "copyOfRange", "([BII)[B"⟩ : MethodName) (head1 (Jvm.Cond.code (⟨"java/util/Arrays", "copyOfRange", "([BII)[B"⟩ : MethodName) jdk_65_method_132_code 3 (some (.array .byte)) :: ws) ({ frames := 2, cells := 1, slots := 8, locals := 34 } : Room)) (fun a U => a = #[(.ref c1), (.int s1), (.int e1)] ∧ Z.Warmed39 U.vm ∧ U.heap = h0) (fun _ _ _ _ _ => True) (fun _ U o U' => ∃ v L, o = .returned v ∧ Q_nb Z (e1 - s1) h0 n0 v U'.heap L ∧ FrameEnd U o U' L ({ frames := 2, cells := 1, slots := 8, locals := 34 } : Room).cells ({ frames := 2, cells := 1, slots := 8, locals := 34 } : Room).slots) := by
  refine MetFree.of_bodySF (plainFor_of_name pn_4) hisR ?_
  intro p e s m args below meth c s₁ Bd hml0 hP hK
  obtain ⟨rfl, hZ, hh⟩ := hP
  have hx := Bd.exec
  have hby := Bd.bytes
  have hml : c.maxLocals = 3 := hml0
  have hown : s.vm.findClass "java/util/Arrays" = some m.cls := findClass_of_methodNamed Bd.named
  have hnm := (name_of_methodNamed Bd.named Bd.method).1
  have X0 : Stand p l e ({ frames := 2, cells := 1, slots := 8, locals := 34 } : Room) s m #[(.ref c1), (.int s1), (.int e1)] below meth c s₁ [] 0 0 := Stand.of_body Bd
  have e0 : s₁.heap = h0 := by rw [← hh, Bd.state]; rfl
  have N0 := Fr.nil n0
  have pre0 : ∀ t, Steps p.tables e below (s₁.setTop (mkF m 0 #[.val (.ref c1), .val (.int s1), .val (.int e1)] [])) t → Steps p.tables e below (s₁.setTop (entryFrame m #[(.ref c1), (.int s1), (.int e1)] 3)) t := fun t k => castTop (ef_10 m c1 s1 e1) k
  have ok := own_oks hs0 hse he8
  have pre101 : ∀ t, Steps p.tables e below (s₁.setTop (mkF m 1 #[.val (.ref c1), .val (.int s1), .val (.int e1)] [(.int s1)])) t → Steps p.tables e below (s₁.setTop (entryFrame m #[(.ref c1), (.int s1), (.int e1)] 3)) t := fun t kt => pre0 t (by
      show Steps p.tables e below (s₁.setTop (mkF m 0 #[.val (.ref c1), .val (.int s1), .val (.int e1)] [])) _
      refine XS.iloadN X0.here hx rfl (hb hby dc18_0) rfl ?_
      exact kt)
  by_cases hc102 : s1 = (0 : Int32)
  · skip
    obtain ⟨cl103, Ar103, S103, N103_, -, -⟩ := By.at Bc
    have pre104 : ∀ t, Steps p.tables e below (s₁.setTop (mkF m 7 #[.val (.ref c1), .val (.int s1), .val (.int e1)] [(.int (8 : Int32)), (.int e1)])) t → Steps p.tables e below (s₁.setTop (entryFrame m #[(.ref c1), (.int s1), (.int e1)] 3)) t := fun t kt => pre101 t (by
        show Steps p.tables e below (s₁.setTop (mkF m 1 #[.val (.ref c1), .val (.int s1), .val (.int e1)] [(.int s1)])) _
        refine XS.ifNo X0.here hx rfl (hb hby dc18_1) rfl ((if0 _ _).trans (teq hc102).2) ?_
        show Steps p.tables e below (s₁.setTop (mkF m 4 #[.val (.ref c1), .val (.int s1), .val (.int e1)] [])) _
        refine XS.iloadN X0.here hx rfl (hb hby dc18_4) rfl ?_
        show Steps p.tables e below (s₁.setTop (mkF m 5 #[.val (.ref c1), .val (.int s1), .val (.int e1)] [(.int e1)])) _
        refine XS.aloadN X0.here hx rfl (hb hby dc18_5) rfl rfl ?_
        show Steps p.tables e below (s₁.setTop (mkF m 6 #[.val (.ref c1), .val (.int s1), .val (.int e1)] [(.ref c1), (.int e1)])) _
        refine X0.arraylength hx (by rw [e0]; exact Ar103.1) (State.isArrayOf_alike hZ.alike Ar103.2.1) (g := (mkF m 6 #[.val (.ref c1), .val (.int s1), .val (.int e1)] [(.ref c1), (.int e1)])) rfl rfl (hb hby dc18_6) _ ?_
        rw [len_of S103 N103_]
        exact kt)
    by_cases hc105 : e1 = (8 : Int32)
    · skip
      obtain ⟨cl106, Ar106, S106, N106_, fc106, mk106⟩ := By.at Bc
      obtain ⟨T107, h107, X107, e107, E107, A107, Q107, st107⟩ := cloneA X0 hx hZ hown (hw _ (List.mem_of_getElem? (i := 148) rfl)) (hw _ (List.mem_of_getElem? (i := 149) rfl)) (hw _ (List.mem_of_getElem? (i := 153) rfl)) (hw _ (List.mem_of_getElem? (i := 151) rfl)) (hw _ (List.mem_of_getElem? (i := 152) rfl)) (hw _ (List.mem_of_getElem? (i := 154) rfl)) e0 Ar106 Ec fc106 (g := (mkF m 18 #[.val (.ref c1), .val (.int s1), .val (.int e1)] [(.ref c1)])) rfl (by rw [hml]; rfl) rfl (hb hby dc18_18) (by decide) (W := 0) (cap := 8) (by show 2 * 0 + _ ≤ _; exact Nat.le_of_eq rfl) (by decide) (by rw [S106]; exact (by decide)) (by decide) (by decide)
      obtain ⟨b107, g107⟩ : ∃ z, z = h0.size := ⟨_, rfl⟩
      rw [← g107] at A107 Q107 st107
      have gb107 : n0 ≤ b107 := by rw [g107, ← O0.1]; exact O0.2.1
      have ne107_c1 : c1 ≠ b107 := by rw [g107]; exact Nat.ne_of_lt (Ec).lt
      have sz107 : h0.size ≤ b107 := by rw [g107]; exact ((Keep.refl h0 [])).1
      have V107 : By Z h107 b107 (8 : Int32) := mk106 _ _ A107
      obtain ⟨T108, X108, e108, st108⟩ := castY X107 hx hZ hown (hw _ (List.mem_of_getElem? (i := 155) rfl)) e107 (Ins.of_exa Q107 (hw _ (List.mem_of_getElem? (i := 156) rfl))) (g := (mkF m 21 #[.val (.ref c1), .val (.int s1), .val (.int e1)] [(.ref b107)])) rfl rfl (hb hby dc18_21)
      obtain ⟨fs, hr, hrun, hended, hW, hsame⟩ := X108.leave (v := some (.ref b107)) (fun h => by rw [Bd.returns] at h; cases h)
      have K109 : Keep h0 h107 [] := (Keep.ext (Keep.refl h0 []) E107)
      refine ⟨_, _, pre104 _ ?_, hrun, hended, _, _, rfl, ?_, ⟨_, rfl⟩, hW, hsame.mono (by decide) (by decide)⟩
      · skip
        show Steps p.tables e below (s₁.setTop (mkF m 7 #[.val (.ref c1), .val (.int s1), .val (.int e1)] [(.int (8 : Int32)), (.int e1)])) _
        refine XS.icmpYes X0.here hx rfl (pc0 := 7) (pc' := 17) rfl (hb hby dc18_7) rfl (teq hc105).1 (by decide) (by decide) ?_
        show Steps p.tables e below (s₁.setTop (mkF m 17 #[.val (.ref c1), .val (.int s1), .val (.int e1)] [])) _
        refine XS.aloadN X0.here hx rfl (hb hby dc18_17) rfl rfl ?_
        show Steps p.tables e below (s₁.setTop (mkF m 18 #[.val (.ref c1), .val (.int s1), .val (.int e1)] [(.ref c1)])) _
        refine st107 _ ?_
        show Steps p.tables e below (T107.setTop (mkF m 21 #[.val (.ref c1), .val (.int s1), .val (.int e1)] [(.ref b107)])) _
        refine st108 _ ?_
        show Steps p.tables e below (T108.setTop (mkF m 24 #[.val (.ref c1), .val (.int s1), .val (.int e1)] [(.ref b107)])) _
        exact retOut X108 hx (t := (.array .byte)) Bd.returns rfl (Or.inr (Or.inr (Or.inr (Or.inr ⟨rfl, rfl, rfl⟩)))) (hb hby dc18_24) hr
      · show Q_nb Z (e1 - s1) h0 n0 _ T108.heap _
        rw [e108]
        exact ⟨_, rfl, N0, gb107, sz107, K109, Q107, (by rw [hc102, hc105]; exact V107)⟩
    · skip
      obtain ⟨_, _, ⟨T110, L110, k110, n110⟩, -, X110, ⟨Lc110, hQ110, l110, y110, z110⟩, st110⟩ := Jvm.LawKit.callS X0 hx (y := (⟨"java/util/Arrays", "copyOfRangeByte", "([BII)[B"⟩ : MethodName)) hown (mvT hZ (hw _ (List.mem_of_getElem? (i := 123) rfl))) (mvT hZ (hw _ (List.mem_of_getElem? (i := 124) rfl))) (mvT hZ (hw _ (List.mem_of_getElem? (i := 121) rfl))) (mvT hZ (hw _ (List.mem_of_getElem? (i := 125) rfl))) (by decide) (backOf (W := 0) (rmCb l Z a0 hw [] c1 s1 e1 h0 n0 O0 Ec Bc hs0 hse he8) hZ (hw _ (List.mem_of_getElem? (i := 125) rfl)) (hw _ (List.mem_of_getElem? (i := 121) rfl)) (by decide) (by decide)) (g := (mkF m 13 #[.val (.ref c1), .val (.int s1), .val (.int e1)] [(.int e1), (.int s1), (.ref c1)])) rfl (by rw [hml]; rfl) (argsL := [(.ref c1), (.int s1), (.int e1)]) (rest := []) (lenOf pd_6 rfl) rfl (by show 2 * 0 + _ ≤ _; exact Nat.le_of_eq rfl) (hb hby dc18_13) (fun _ _ => ⟨rfl, e0, (by decide : 0 + 1 ≤ _), (by decide : 0 + 8 ≤ _)⟩)
      dsimp only [Pt.U, Pt.locs, Pt.cells, Pt.slots] at X110 l110 y110 z110 st110 hQ110
      subst l110 y110 z110
      obtain ⟨b110, rfl, N110q, gb110, sz110, K110, Ex110, V110⟩ := hQ110
      have N110 := Fr.app N0 N110q
      have ne110_c1 : c1 ≠ b110 := Nat.ne_of_lt (Nat.lt_of_lt_of_le (Ec).lt sz110)
      have sz0110 : h0.size ≤ b110 := Nat.le_trans ((Keep.refl h0 [])).1 sz110
      obtain ⟨fs, hr, hrun, hended, hW, hsame⟩ := X110.leave (v := some (.ref b110)) (fun h => by rw [Bd.returns] at h; cases h)
      have K111 : Keep h0 T110.heap [] := (Keep.trans (Keep.refl h0 []) K110 all0)
      refine ⟨_, _, pre104 _ ?_, hrun, hended, _, _, rfl, ?_, ⟨_, rfl⟩, hW, hsame.mono (by decide) (by decide)⟩
      · skip
        show Steps p.tables e below (s₁.setTop (mkF m 7 #[.val (.ref c1), .val (.int s1), .val (.int e1)] [(.int (8 : Int32)), (.int e1)])) _
        refine XS.icmpNo X0.here hx rfl (hb hby dc18_7) rfl (feq hc105).1 ?_
        show Steps p.tables e below (s₁.setTop (mkF m 10 #[.val (.ref c1), .val (.int s1), .val (.int e1)] [])) _
        refine XS.aloadN X0.here hx rfl (hb hby dc18_10) rfl rfl ?_
        show Steps p.tables e below (s₁.setTop (mkF m 11 #[.val (.ref c1), .val (.int s1), .val (.int e1)] [(.ref c1)])) _
        refine XS.iloadN X0.here hx rfl (hb hby dc18_11) rfl ?_
        show Steps p.tables e below (s₁.setTop (mkF m 12 #[.val (.ref c1), .val (.int s1), .val (.int e1)] [(.int s1), (.ref c1)])) _
        refine XS.iloadN X0.here hx rfl (hb hby dc18_12) rfl ?_
        show Steps p.tables e below (s₁.setTop (mkF m 13 #[.val (.ref c1), .val (.int s1), .val (.int e1)] [(.int e1), (.int s1), (.ref c1)])) _
        refine st110 _ ?_
        show Steps p.tables e below (T110.setTop (mkF m 16 #[.val (.ref c1), .val (.int s1), .val (.int e1)] [(.ref b110)])) _
        exact retOut X110 hx (t := (.array .byte)) Bd.returns rfl (Or.inr (Or.inr (Or.inr (Or.inr ⟨rfl, rfl, rfl⟩)))) (hb hby dc18_16) hr
      · show Q_nb Z (e1 - s1) h0 n0 _ T110.heap _
        exact ⟨_, rfl, N110, gb110, sz0110, K111, Ex110, V110⟩
  · skip
    obtain ⟨_, _, ⟨T112, L112, k112, n112⟩, -, X112, ⟨Lc112, hQ112, l112, y112, z112⟩, st112⟩ := Jvm.LawKit.callS X0 hx (y := (⟨"java/util/Arrays", "copyOfRangeByte", "([BII)[B"⟩ : MethodName)) hown (mvT hZ (hw _ (List.mem_of_getElem? (i := 123) rfl))) (mvT hZ (hw _ (List.mem_of_getElem? (i := 124) rfl))) (mvT hZ (hw _ (List.mem_of_getElem? (i := 121) rfl))) (mvT hZ (hw _ (List.mem_of_getElem? (i := 125) rfl))) (by decide) (backOf (W := 0) (rmCb l Z a0 hw [] c1 s1 e1 h0 n0 O0 Ec Bc hs0 hse he8) hZ (hw _ (List.mem_of_getElem? (i := 125) rfl)) (hw _ (List.mem_of_getElem? (i := 121) rfl)) (by decide) (by decide)) (g := (mkF m 13 #[.val (.ref c1), .val (.int s1), .val (.int e1)] [(.int e1), (.int s1), (.ref c1)])) rfl (by rw [hml]; rfl) (argsL := [(.ref c1), (.int s1), (.int e1)]) (rest := []) (lenOf pd_6 rfl) rfl (by show 2 * 0 + _ ≤ _; exact Nat.le_of_eq rfl) (hb hby dc18_13) (fun _ _ => ⟨rfl, e0, (by decide : 0 + 1 ≤ _), (by decide : 0 + 8 ≤ _)⟩)
    dsimp only [Pt.U, Pt.locs, Pt.cells, Pt.slots] at X112 l112 y112 z112 st112 hQ112
    subst l112 y112 z112
    obtain ⟨b112, rfl, N112q, gb112, sz112, K112, Ex112, V112⟩ := hQ112
    have N112 := Fr.app N0 N112q
    have ne112_c1 : c1 ≠ b112 := Nat.ne_of_lt (Nat.lt_of_lt_of_le (Ec).lt sz112)
    have sz0112 : h0.size ≤ b112 := Nat.le_trans ((Keep.refl h0 [])).1 sz112
    obtain ⟨fs, hr, hrun, hended, hW, hsame⟩ := X112.leave (v := some (.ref b112)) (fun h => by rw [Bd.returns] at h; cases h)
    have K113 : Keep h0 T112.heap [] := (Keep.trans (Keep.refl h0 []) K112 all0)
    refine ⟨_, _, pre101 _ ?_, hrun, hended, _, _, rfl, ?_, ⟨_, rfl⟩, hW, hsame.mono (by decide) (by decide)⟩
    · skip
      show Steps p.tables e below (s₁.setTop (mkF m 1 #[.val (.ref c1), .val (.int s1), .val (.int e1)] [(.int s1)])) _
      refine XS.ifYes X0.here hx rfl (pc0 := 1) (pc' := 10) rfl (hb hby dc18_1) rfl ((if0 _ _).trans (feq hc102).2) (by decide) (by decide) ?_
      show Steps p.tables e below (s₁.setTop (mkF m 10 #[.val (.ref c1), .val (.int s1), .val (.int e1)] [])) _
      refine XS.aloadN X0.here hx rfl (hb hby dc18_10) rfl rfl ?_
      show Steps p.tables e below (s₁.setTop (mkF m 11 #[.val (.ref c1), .val (.int s1), .val (.int e1)] [(.ref c1)])) _
      refine XS.iloadN X0.here hx rfl (hb hby dc18_11) rfl ?_
      show Steps p.tables e below (s₁.setTop (mkF m 12 #[.val (.ref c1), .val (.int s1), .val (.int e1)] [(.int s1), (.ref c1)])) _
      refine XS.iloadN X0.here hx rfl (hb hby dc18_12) rfl ?_
      show Steps p.tables e below (s₁.setTop (mkF m 13 #[.val (.ref c1), .val (.int s1), .val (.int e1)] [(.int e1), (.int s1), (.ref c1)])) _
      refine st112 _ ?_
      show Steps p.tables e below (T112.setTop (mkF m 16 #[.val (.ref c1), .val (.int s1), .val (.int e1)] [(.ref b112)])) _
      exact retOut X112 hx (t := (.array .byte)) Bd.returns rfl (Or.inr (Or.inr (Or.inr (Or.inr ⟨rfl, rfl, rfl⟩)))) (hb hby dc18_16) hr
    · show Q_nb Z (e1 - s1) h0 n0 _ T112.heap _
      exact ⟨_, rfl, N112, gb112, sz0112, K113, Ex112, V112⟩
theorem ef_11 (m : MethodId) (x0 : Addr) (x1 : Int32) : entryFrame m #[(.ref x0), (.int x1)] 3 = mkF m 0 #[.val (.ref x0), .val (.int x1), .unset] [] := by first | (simp [entryFrame, mkF, argsToLocals, Value.category]; done) | rfl
theorem dc19_0 : decode jdk_65_method_121_code 0 = .ok (.iload_n 1, 1) := by decide +kernel
theorem dc19_1 : decode jdk_65_method_121_code 1 = .ok (.aload_n 0, 1) := by decide +kernel
theorem dc19_2 : decode jdk_65_method_121_code 2 = .ok (.arraylength, 1) := by decide +kernel
theorem dc19_3 : decode jdk_65_method_121_code 3 = .ok (.if_icmp .ne 11, 3) := by decide +kernel
theorem dc19_6 : decode jdk_65_method_121_code 6 = .ok (.aload_n 0, 1) := by decide +kernel
theorem dc19_7 : decode jdk_65_method_121_code 7 = .ok (.invokevirtual 310, 3) := by decide +kernel
theorem dc19_10 : decode jdk_65_method_121_code 10 = .ok (.checkcast 311, 3) := by decide +kernel
theorem dc19_13 : decode jdk_65_method_121_code 13 = .ok (.areturn, 1) := by decide +kernel
theorem dc19_14 : decode jdk_65_method_121_code 14 = .ok (.iload_n 1, 1) := by decide +kernel
theorem dc19_15 : decode jdk_65_method_121_code 15 = .ok (.newarray .byte, 2) := by decide +kernel
theorem dc19_17 : decode jdk_65_method_121_code 17 = .ok (.astore_n 2, 1) := by decide +kernel
theorem dc19_18 : decode jdk_65_method_121_code 18 = .ok (.aload_n 0, 1) := by decide +kernel
theorem dc19_19 : decode jdk_65_method_121_code 19 = .ok (.iconst 0, 1) := by decide +kernel
theorem dc19_20 : decode jdk_65_method_121_code 20 = .ok (.aload_n 2, 1) := by decide +kernel
theorem dc19_21 : decode jdk_65_method_121_code 21 = .ok (.iconst 0, 1) := by decide +kernel
theorem dc19_22 : decode jdk_65_method_121_code 22 = .ok (.aload_n 0, 1) := by decide +kernel
theorem dc19_23 : decode jdk_65_method_121_code 23 = .ok (.arraylength, 1) := by decide +kernel
theorem dc19_24 : decode jdk_65_method_121_code 24 = .ok (.iload_n 1, 1) := by decide +kernel
theorem dc19_25 : decode jdk_65_method_121_code 25 = .ok (.invokestatic 304, 3) := by decide +kernel
theorem dc19_28 : decode jdk_65_method_121_code 28 = .ok (.invokestatic 150, 3) := by decide +kernel
theorem dc19_31 : decode jdk_65_method_121_code 31 = .ok (.aload_n 2, 1) := by decide +kernel
theorem dc19_32 : decode jdk_65_method_121_code 32 = .ok (.areturn, 1) := by decide +kernel
set_option maxRecDepth 65536 in
set_option maxHeartbeats 40000000 in
theorem rmCp (l : Launch) (Z : State) (a0 : Array Value) (hw : ∀ d ∈ tables_1, d.before a0 Z = true) (ws : List Jvm.Cond) (c1 : Addr) (n1 n2 : Int32) (h0 : Heap) (n0 : Nat) (O0 : Old Z n0 h0) (Ec : Exa Z h0 c1 "[B") (Bc : By Z h0 c1 n1) (q0 : ¬ n2 < 0) (q1 : ¬ n1 < n2) (q8 : n1.toNatClampNeg ≤ 8) (q9 : n2.toNatClampNeg ≤ 8) (q7 : (0 : Int32).toNatClampNeg + n2.toNatClampNeg ≤ n1.toNatClampNeg) :
    MetFree l (⟨"java/util/Arrays", "copyOf", "([BI)[B"⟩ : MethodName) (head1 (Jvm.Cond.code (⟨"java/util/Arrays", "copyOf", "([BI)[B"⟩ : MethodName) jdk_65_method_121_code 3 (some (.array .byte)) :: ws) ({ frames := 1, cells := 1, slots := 8, locals := 18 } : Room)) (fun a U => a = #[(.ref c1), (.int n2)] ∧ Z.Warmed39 U.vm ∧ U.heap = h0) (fun _ _ _ _ _ => True) (fun _ U o U' => ∃ v L, o = .returned v ∧ Q_nb Z n2 h0 n0 v U'.heap L ∧ FrameEnd U o U' L ({ frames := 1, cells := 1, slots := 8, locals := 18 } : Room).cells ({ frames := 1, cells := 1, slots := 8, locals := 18 } : Room).slots) := by
  refine MetFree.of_bodySF (plainFor_of_name pn_4) hisR ?_
  intro p e s m args below meth c s₁ Bd hml0 hP hK
  obtain ⟨rfl, hZ, hh⟩ := hP
  have hx := Bd.exec
  have hby := Bd.bytes
  have hml : c.maxLocals = 3 := hml0
  have hown : s.vm.findClass "java/util/Arrays" = some m.cls := findClass_of_methodNamed Bd.named
  have hnm := (name_of_methodNamed Bd.named Bd.method).1
  have X0 : Stand p l e ({ frames := 1, cells := 1, slots := 8, locals := 18 } : Room) s m #[(.ref c1), (.int n2)] below meth c s₁ [] 0 0 := Stand.of_body Bd
  have e0 : s₁.heap = h0 := by rw [← hh, Bd.state]; rfl
  have N0 := Fr.nil n0
  have pre0 : ∀ t, Steps p.tables e below (s₁.setTop (mkF m 0 #[.val (.ref c1), .val (.int n2), .unset] [])) t → Steps p.tables e below (s₁.setTop (entryFrame m #[(.ref c1), (.int n2)] 3)) t := fun t k => castTop (ef_11 m c1 n2) k
  obtain ⟨cl101, Ar101, S101, N101_, -, -⟩ := By.at Bc
  have pre102 : ∀ t, Steps p.tables e below (s₁.setTop (mkF m 3 #[.val (.ref c1), .val (.int n2), .unset] [(.int n1), (.int n2)])) t → Steps p.tables e below (s₁.setTop (entryFrame m #[(.ref c1), (.int n2)] 3)) t := fun t kt => pre0 t (by
      show Steps p.tables e below (s₁.setTop (mkF m 0 #[.val (.ref c1), .val (.int n2), .unset] [])) _
      refine XS.iloadN X0.here hx rfl (hb hby dc19_0) rfl ?_
      show Steps p.tables e below (s₁.setTop (mkF m 1 #[.val (.ref c1), .val (.int n2), .unset] [(.int n2)])) _
      refine XS.aloadN X0.here hx rfl (hb hby dc19_1) rfl rfl ?_
      show Steps p.tables e below (s₁.setTop (mkF m 2 #[.val (.ref c1), .val (.int n2), .unset] [(.ref c1), (.int n2)])) _
      refine X0.arraylength hx (by rw [e0]; exact Ar101.1) (State.isArrayOf_alike hZ.alike Ar101.2.1) (g := (mkF m 2 #[.val (.ref c1), .val (.int n2), .unset] [(.ref c1), (.int n2)])) rfl rfl (hb hby dc19_2) _ ?_
      rw [len_of S101 N101_]
      exact kt)
  by_cases hc103 : n2 = n1
  · skip
    obtain ⟨cl104, Ar104, S104, N104_, fc104, mk104⟩ := By.at Bc
    obtain ⟨T105, h105, X105, e105, E105, A105, Q105, st105⟩ := cloneA X0 hx hZ hown (hw _ (List.mem_of_getElem? (i := 148) rfl)) (hw _ (List.mem_of_getElem? (i := 149) rfl)) (hw _ (List.mem_of_getElem? (i := 153) rfl)) (hw _ (List.mem_of_getElem? (i := 151) rfl)) (hw _ (List.mem_of_getElem? (i := 152) rfl)) (hw _ (List.mem_of_getElem? (i := 154) rfl)) e0 Ar104 Ec fc104 (g := (mkF m 7 #[.val (.ref c1), .val (.int n2), .unset] [(.ref c1)])) rfl (by rw [hml]; rfl) rfl (hb hby dc19_7) (by decide) (W := 0) (cap := 8) (by show 2 * 0 + _ ≤ _; exact Nat.le_of_eq rfl) (by decide) (by rw [S104]; exact q8) (by decide) (by decide)
    obtain ⟨b105, g105⟩ : ∃ z, z = h0.size := ⟨_, rfl⟩
    rw [← g105] at A105 Q105 st105
    have gb105 : n0 ≤ b105 := by rw [g105, ← O0.1]; exact O0.2.1
    have ne105_c1 : c1 ≠ b105 := by rw [g105]; exact Nat.ne_of_lt (Ec).lt
    have sz105 : h0.size ≤ b105 := by rw [g105]; exact ((Keep.refl h0 [])).1
    have V105 : By Z h105 b105 n1 := mk104 _ _ A105
    obtain ⟨T106, X106, e106, st106⟩ := castY X105 hx hZ hown (hw _ (List.mem_of_getElem? (i := 155) rfl)) e105 (Ins.of_exa Q105 (hw _ (List.mem_of_getElem? (i := 156) rfl))) (g := (mkF m 10 #[.val (.ref c1), .val (.int n2), .unset] [(.ref b105)])) rfl rfl (hb hby dc19_10)
    obtain ⟨fs, hr, hrun, hended, hW, hsame⟩ := X106.leave (v := some (.ref b105)) (fun h => by rw [Bd.returns] at h; cases h)
    have K107 : Keep h0 h105 [] := (Keep.ext (Keep.refl h0 []) E105)
    refine ⟨_, _, pre102 _ ?_, hrun, hended, _, _, rfl, ?_, ⟨_, rfl⟩, hW, hsame.mono (by decide) (by decide)⟩
    · skip
      show Steps p.tables e below (s₁.setTop (mkF m 3 #[.val (.ref c1), .val (.int n2), .unset] [(.int n1), (.int n2)])) _
      refine XS.icmpNo X0.here hx rfl (hb hby dc19_3) rfl (teq hc103).2 ?_
      show Steps p.tables e below (s₁.setTop (mkF m 6 #[.val (.ref c1), .val (.int n2), .unset] [])) _
      refine XS.aloadN X0.here hx rfl (hb hby dc19_6) rfl rfl ?_
      show Steps p.tables e below (s₁.setTop (mkF m 7 #[.val (.ref c1), .val (.int n2), .unset] [(.ref c1)])) _
      refine st105 _ ?_
      show Steps p.tables e below (T105.setTop (mkF m 10 #[.val (.ref c1), .val (.int n2), .unset] [(.ref b105)])) _
      refine st106 _ ?_
      show Steps p.tables e below (T106.setTop (mkF m 13 #[.val (.ref c1), .val (.int n2), .unset] [(.ref b105)])) _
      exact retOut X106 hx (t := (.array .byte)) Bd.returns rfl (Or.inr (Or.inr (Or.inr (Or.inr ⟨rfl, rfl, rfl⟩)))) (hb hby dc19_13) hr
    · show Q_nb Z n2 h0 n0 _ T106.heap _
      rw [e106]
      exact ⟨_, rfl, N0, gb105, sz105, K107, Q105, (by rw [hc103]; exact V105)⟩
  · skip
    obtain ⟨T108, h108, k108, X108, e108, E108, A108, Q108, st108⟩ := newPE X0 hx hZ (hw _ (List.mem_of_getElem? (i := 8) rfl)) e0 (g := (mkF m 15 #[.val (.ref c1), .val (.int n2), .unset] [(.int n2)])) rfl (hb hby dc19_15) rfl q0 (cap := 8) q9 (by decide) (by decide) (by decide) (ad := "[B") rfl
    obtain ⟨b108, g108⟩ : ∃ z, z = h0.size := ⟨_, rfl⟩
    rw [← g108] at A108 Q108 st108
    have gb108 : n0 ≤ b108 := by rw [g108, ← O0.1]; exact O0.2.1
    have ne108_c1 : c1 ≠ b108 := by rw [g108]; exact Nat.ne_of_lt (Ec).lt
    have sz108 : h0.size ≤ b108 := by rw [g108]; exact ((Keep.refl h0 [])).1
    have V108 : By Z h108 b108 n2 := By.new A108 q0
    have f110 := (Bc.ext E108)
    obtain ⟨cl109, Ar109, S109, N109_, -, -⟩ := By.at f110
    have O111 : Old Z n0 h108 := (O0.ext E108)
    obtain ⟨_, _, ⟨T112, L112, k112, n112⟩, -, X112, ⟨Lc112, hQ112, l112, y112, z112⟩, st112⟩ := Jvm.LawKit.callS X108 hx (y := (⟨"java/lang/Math", "min", "(II)I"⟩ : MethodName)) hown (mvT hZ (hw _ (List.mem_of_getElem? (i := 129) rfl))) (mvT hZ (hw _ (List.mem_of_getElem? (i := 130) rfl))) (mvT hZ (hw _ (List.mem_of_getElem? (i := 131) rfl))) (mvT hZ (hw _ (List.mem_of_getElem? (i := 132) rfl))) (by decide) (backOf (W := 4) (rmMn l Z a0 hw [] n1 n2 h108 n0 O111 q1) hZ (hw _ (List.mem_of_getElem? (i := 132) rfl)) (hw _ (List.mem_of_getElem? (i := 131) rfl)) (by decide) (by decide)) (g := (mkF m 25 #[.val (.ref c1), .val (.int n2), .val (.ref b108)] [(.int n2), (.int n1), (.int (0 : Int32)), (.ref b108), (.int (0 : Int32)), (.ref c1)])) rfl (by rw [hml]; rfl) (argsL := [(.int n1), (.int n2)]) (rest := [(.int (0 : Int32)), (.ref b108), (.int (0 : Int32)), (.ref c1)]) (lenOf pd_5 rfl) rfl (by show 2 * 0 + _ ≤ _; exact Nat.le_of_eq rfl) (hb hby dc19_25) (fun _ _ => ⟨rfl, e108, (by decide : 1 + 0 ≤ _), (by decide : 8 + 0 ≤ _)⟩)
    dsimp only [Pt.U, Pt.locs, Pt.cells, Pt.slots] at X112 l112 y112 z112 st112 hQ112
    subst l112 y112 z112
    obtain ⟨rfl, N112q, hh112⟩ := hQ112
    have N112 := Fr.app N0 N112q
    obtain ⟨T113, h113, L113, X113, e113, N113, K113, V113, st113⟩ := cpB X112 hx hZ hown (hw _ (List.mem_of_getElem? (i := 133) rfl)) (hw _ (List.mem_of_getElem? (i := 136) rfl)) (hw _ (List.mem_of_getElem? (i := 134) rfl)) (hw _ (List.mem_of_getElem? (i := 135) rfl)) hh112 f110 V108 (by decide) q0 q7 (Nat.le_refl _) N112 gb108 (g := (mkF m 28 #[.val (.ref c1), .val (.int n2), .val (.ref b108)] [(.int n2), (.int (0 : Int32)), (.ref b108), (.int (0 : Int32)), (.ref c1)])) rfl (by rw [hml]; rfl) rfl (hb hby dc19_28) (by decide) (W := 0) (by show 2 * 0 + _ ≤ _; exact Nat.le_of_eq rfl) (by decide)
    obtain ⟨fs, hr, hrun, hended, hW, hsame⟩ := X113.leave (v := some (.ref b108)) (fun h => by rw [Bd.returns] at h; cases h)
    have K114 : Keep h0 h113 [] := (Keep.trans (Keep.ext (Keep.refl h0 []) E108) K113 (allS (P := fun x => x ∈ [] ∨ h0.size ≤ x) (Or.inr sz108) all0))
    have f115 := (Q108.keep K113)
    refine ⟨_, _, pre102 _ ?_, hrun, hended, _, _, rfl, ?_, ⟨_, rfl⟩, hW, hsame.mono (by decide) (by decide)⟩
    · skip
      show Steps p.tables e below (s₁.setTop (mkF m 3 #[.val (.ref c1), .val (.int n2), .unset] [(.int n1), (.int n2)])) _
      refine XS.icmpYes X0.here hx rfl (pc0 := 3) (pc' := 14) rfl (hb hby dc19_3) rfl (feq hc103).2 (by decide) (by decide) ?_
      show Steps p.tables e below (s₁.setTop (mkF m 14 #[.val (.ref c1), .val (.int n2), .unset] [])) _
      refine XS.iloadN X0.here hx rfl (hb hby dc19_14) rfl ?_
      show Steps p.tables e below (s₁.setTop (mkF m 15 #[.val (.ref c1), .val (.int n2), .unset] [(.int n2)])) _
      refine st108 _ ?_
      show Steps p.tables e below (T108.setTop (mkF m 17 #[.val (.ref c1), .val (.int n2), .unset] [(.ref b108)])) _
      refine XS.astoreN X108.here hx rfl (hb hby dc19_17) rfl rfl (l' := #[.val (.ref c1), .val (.int n2), .val (.ref b108)]) rfl ?_
      show Steps p.tables e below (T108.setTop (mkF m 18 #[.val (.ref c1), .val (.int n2), .val (.ref b108)] [])) _
      refine XS.aloadN X108.here hx rfl (hb hby dc19_18) rfl rfl ?_
      show Steps p.tables e below (T108.setTop (mkF m 19 #[.val (.ref c1), .val (.int n2), .val (.ref b108)] [(.ref c1)])) _
      refine XS.iconst X108.here hx rfl (hb hby dc19_19) ?_
      show Steps p.tables e below (T108.setTop (mkF m 20 #[.val (.ref c1), .val (.int n2), .val (.ref b108)] [(.int (0 : Int32)), (.ref c1)])) _
      refine XS.aloadN X108.here hx rfl (hb hby dc19_20) rfl rfl ?_
      show Steps p.tables e below (T108.setTop (mkF m 21 #[.val (.ref c1), .val (.int n2), .val (.ref b108)] [(.ref b108), (.int (0 : Int32)), (.ref c1)])) _
      refine XS.iconst X108.here hx rfl (hb hby dc19_21) ?_
      show Steps p.tables e below (T108.setTop (mkF m 22 #[.val (.ref c1), .val (.int n2), .val (.ref b108)] [(.int (0 : Int32)), (.ref b108), (.int (0 : Int32)), (.ref c1)])) _
      refine XS.aloadN X108.here hx rfl (hb hby dc19_22) rfl rfl ?_
      show Steps p.tables e below (T108.setTop (mkF m 23 #[.val (.ref c1), .val (.int n2), .val (.ref b108)] [(.ref c1), (.int (0 : Int32)), (.ref b108), (.int (0 : Int32)), (.ref c1)])) _
      refine X108.arraylength hx (by rw [e108]; exact Ar109.1) (State.isArrayOf_alike hZ.alike Ar109.2.1) (g := (mkF m 23 #[.val (.ref c1), .val (.int n2), .val (.ref b108)] [(.ref c1), (.int (0 : Int32)), (.ref b108), (.int (0 : Int32)), (.ref c1)])) rfl rfl (hb hby dc19_23) _ ?_
      rw [len_of S109 N109_]
      show Steps p.tables e below (T108.setTop (mkF m 24 #[.val (.ref c1), .val (.int n2), .val (.ref b108)] [(.int n1), (.int (0 : Int32)), (.ref b108), (.int (0 : Int32)), (.ref c1)])) _
      refine XS.iloadN X108.here hx rfl (hb hby dc19_24) rfl ?_
      show Steps p.tables e below (T108.setTop (mkF m 25 #[.val (.ref c1), .val (.int n2), .val (.ref b108)] [(.int n2), (.int n1), (.int (0 : Int32)), (.ref b108), (.int (0 : Int32)), (.ref c1)])) _
      refine st112 _ ?_
      show Steps p.tables e below (T112.setTop (mkF m 28 #[.val (.ref c1), .val (.int n2), .val (.ref b108)] [(.int n2), (.int (0 : Int32)), (.ref b108), (.int (0 : Int32)), (.ref c1)])) _
      refine st113 _ ?_
      show Steps p.tables e below (T113.setTop (mkF m 31 #[.val (.ref c1), .val (.int n2), .val (.ref b108)] [])) _
      refine XS.aloadN X113.here hx rfl (hb hby dc19_31) rfl rfl ?_
      show Steps p.tables e below (T113.setTop (mkF m 32 #[.val (.ref c1), .val (.int n2), .val (.ref b108)] [(.ref b108)])) _
      exact retOut X113 hx (t := (.array .byte)) Bd.returns rfl (Or.inr (Or.inr (Or.inr (Or.inr ⟨rfl, rfl, rfl⟩)))) (hb hby dc19_32) hr
    · show Q_nb Z n2 h0 n0 _ T113.heap _
      rw [e113]
      exact ⟨_, rfl, N113, gb108, sz108, K114, f115, V113⟩
def Q_ws32  (h0 : Heap) (n0 : Nat) (v : Option Value) (h : Heap) (L : List Loc) : Prop := v = some (.int (1 : Int32)) ∧ Fr n0 L ∧ h = h0
theorem pn_5 : plainName "com/example/keyfold/keyfold/JsonParser" = true := by first | (simp [plainName, overriddenIn]; done) | decide +kernel
theorem dc20_0 : decode prog_46_method_3_code 0 = .ok (.iload_n 0, 1) := by decide +kernel
theorem dc20_1 : decode prog_46_method_3_code 1 = .ok (.bipush 32, 2) := by decide +kernel
theorem dc20_3 : decode prog_46_method_3_code 3 = .ok (.if_icmp .eq 21, 3) := by decide +kernel
theorem dc20_24 : decode prog_46_method_3_code 24 = .ok (.iconst 1, 1) := by decide +kernel
theorem dc20_25 : decode prog_46_method_3_code 25 = .ok (.goto 4, 3) := by decide +kernel
theorem dc20_29 : decode prog_46_method_3_code 29 = .ok (.ireturn, 1) := by decide +kernel
set_option maxRecDepth 65536 in
set_option maxHeartbeats 40000000 in
theorem rmWs32 (l : Launch) (Z : State) (a0 : Array Value) (hw : ∀ d ∈ tables_1, d.before a0 Z = true) (ws : List Jvm.Cond)  (h0 : Heap) (n0 : Nat) (O0 : Old Z n0 h0) :
    MetFree l (⟨"com/example/keyfold/keyfold/JsonParser", "isWhitespace", "(B)Z"⟩ : MethodName) (head1 (Jvm.Cond.code (⟨"com/example/keyfold/keyfold/JsonParser", "isWhitespace", "(B)Z"⟩ : MethodName) prog_46_method_3_code 1 (some .boolean) :: ws) ({ frames := 0, cells := 0, slots := 0, locals := 0 } : Room)) (fun a U => a = #[(.int (32 : Int32))] ∧ Z.Warmed39 U.vm ∧ U.heap = h0) (fun _ _ _ _ _ => True) (fun _ U o U' => ∃ v L, o = .returned v ∧ Q_ws32 h0 n0 v U'.heap L ∧ FrameEnd U o U' L ({ frames := 0, cells := 0, slots := 0, locals := 0 } : Room).cells ({ frames := 0, cells := 0, slots := 0, locals := 0 } : Room).slots) := by
  refine MetFree.of_bodySF (plainFor_of_name pn_5) hisR ?_
  intro p e s m args below meth c s₁ Bd hml0 hP hK
  obtain ⟨rfl, hZ, hh⟩ := hP
  have hx := Bd.exec
  have hby := Bd.bytes
  have hml : c.maxLocals = 1 := hml0
  have hown : s.vm.findClass "com/example/keyfold/keyfold/JsonParser" = some m.cls := findClass_of_methodNamed Bd.named
  have hnm := (name_of_methodNamed Bd.named Bd.method).1
  have X0 : Stand p l e ({ frames := 0, cells := 0, slots := 0, locals := 0 } : Room) s m #[(.int (32 : Int32))] below meth c s₁ [] 0 0 := Stand.of_body Bd
  have e0 : s₁.heap = h0 := by rw [← hh, Bd.state]; rfl
  have N0 := Fr.nil n0
  have pre0 : ∀ t, Steps p.tables e below (s₁.setTop (mkF m 0 #[.val (.int (32 : Int32))] [])) t → Steps p.tables e below (s₁.setTop (entryFrame m #[(.int (32 : Int32))] 1)) t := fun t k => castTop (ef_0 m (32 : Int32)) k
  obtain ⟨fs, hr, hrun, hended, hW, hsame⟩ := X0.leave (v := some (.int (1 : Int32))) (fun h => by rw [Bd.returns] at h; cases h)
  refine ⟨_, _, pre0 _ ?_, hrun, hended, _, _, rfl, ?_, ⟨_, rfl⟩, hW, hsame.mono (by decide) (by decide)⟩
  · skip
    show Steps p.tables e below (s₁.setTop (mkF m 0 #[.val (.int (32 : Int32))] [])) _
    refine XS.iloadN X0.here hx rfl (hb hby dc20_0) rfl ?_
    show Steps p.tables e below (s₁.setTop (mkF m 1 #[.val (.int (32 : Int32))] [(.int (32 : Int32))])) _
    refine XS.bipush X0.here hx rfl (hb hby dc20_1) ?_
    show Steps p.tables e below (s₁.setTop (mkF m 3 #[.val (.int (32 : Int32))] [(.int (32 : Int32)), (.int (32 : Int32))])) _
    refine XS.icmpYes X0.here hx rfl (pc0 := 3) (pc' := 24) rfl (hb hby dc20_3) rfl (by decide) (by decide) (by decide) ?_
    show Steps p.tables e below (s₁.setTop (mkF m 24 #[.val (.int (32 : Int32))] [])) _
    refine XS.iconst X0.here hx rfl (hb hby dc20_24) ?_
    show Steps p.tables e below (s₁.setTop (mkF m 25 #[.val (.int (32 : Int32))] [(.int (1 : Int32))])) _
    refine XS.goto X0.here hx rfl (pc0 := 25) (pc' := 29) rfl (hb hby dc20_25) (by decide) (by decide) ?_
    show Steps p.tables e below (s₁.setTop (mkF m 29 #[.val (.int (32 : Int32))] [(.int (1 : Int32))])) _
    exact retN X0 hx (t := .boolean) Bd.returns (by simp) (hb hby dc20_29) hr
  · show Q_ws32 h0 n0 _ s₁.heap _
    rw [e0]
    exact ⟨rfl, N0, rfl⟩
def Q_ws49  (h0 : Heap) (n0 : Nat) (v : Option Value) (h : Heap) (L : List Loc) : Prop := v = some (.int (0 : Int32)) ∧ Fr n0 L ∧ h = h0
theorem dc20_6 : decode prog_46_method_3_code 6 = .ok (.iload_n 0, 1) := by decide +kernel
theorem dc20_7 : decode prog_46_method_3_code 7 = .ok (.bipush 9, 2) := by decide +kernel
theorem dc20_9 : decode prog_46_method_3_code 9 = .ok (.if_icmp .eq 15, 3) := by decide +kernel
theorem dc20_12 : decode prog_46_method_3_code 12 = .ok (.iload_n 0, 1) := by decide +kernel
theorem dc20_13 : decode prog_46_method_3_code 13 = .ok (.bipush 10, 2) := by decide +kernel
theorem dc20_15 : decode prog_46_method_3_code 15 = .ok (.if_icmp .eq 9, 3) := by decide +kernel
theorem dc20_18 : decode prog_46_method_3_code 18 = .ok (.iload_n 0, 1) := by decide +kernel
theorem dc20_19 : decode prog_46_method_3_code 19 = .ok (.bipush 13, 2) := by decide +kernel
theorem dc20_21 : decode prog_46_method_3_code 21 = .ok (.if_icmp .ne 7, 3) := by decide +kernel
theorem dc20_28 : decode prog_46_method_3_code 28 = .ok (.iconst 0, 1) := by decide +kernel
set_option maxRecDepth 65536 in
set_option maxHeartbeats 40000000 in
theorem rmWs49 (l : Launch) (Z : State) (a0 : Array Value) (hw : ∀ d ∈ tables_1, d.before a0 Z = true) (ws : List Jvm.Cond)  (h0 : Heap) (n0 : Nat) (O0 : Old Z n0 h0) :
    MetFree l (⟨"com/example/keyfold/keyfold/JsonParser", "isWhitespace", "(B)Z"⟩ : MethodName) (head1 (Jvm.Cond.code (⟨"com/example/keyfold/keyfold/JsonParser", "isWhitespace", "(B)Z"⟩ : MethodName) prog_46_method_3_code 1 (some .boolean) :: ws) ({ frames := 0, cells := 0, slots := 0, locals := 0 } : Room)) (fun a U => a = #[(.int (49 : Int32))] ∧ Z.Warmed39 U.vm ∧ U.heap = h0) (fun _ _ _ _ _ => True) (fun _ U o U' => ∃ v L, o = .returned v ∧ Q_ws49 h0 n0 v U'.heap L ∧ FrameEnd U o U' L ({ frames := 0, cells := 0, slots := 0, locals := 0 } : Room).cells ({ frames := 0, cells := 0, slots := 0, locals := 0 } : Room).slots) := by
  refine MetFree.of_bodySF (plainFor_of_name pn_5) hisR ?_
  intro p e s m args below meth c s₁ Bd hml0 hP hK
  obtain ⟨rfl, hZ, hh⟩ := hP
  have hx := Bd.exec
  have hby := Bd.bytes
  have hml : c.maxLocals = 1 := hml0
  have hown : s.vm.findClass "com/example/keyfold/keyfold/JsonParser" = some m.cls := findClass_of_methodNamed Bd.named
  have hnm := (name_of_methodNamed Bd.named Bd.method).1
  have X0 : Stand p l e ({ frames := 0, cells := 0, slots := 0, locals := 0 } : Room) s m #[(.int (49 : Int32))] below meth c s₁ [] 0 0 := Stand.of_body Bd
  have e0 : s₁.heap = h0 := by rw [← hh, Bd.state]; rfl
  have N0 := Fr.nil n0
  have pre0 : ∀ t, Steps p.tables e below (s₁.setTop (mkF m 0 #[.val (.int (49 : Int32))] [])) t → Steps p.tables e below (s₁.setTop (entryFrame m #[(.int (49 : Int32))] 1)) t := fun t k => castTop (ef_0 m (49 : Int32)) k
  obtain ⟨fs, hr, hrun, hended, hW, hsame⟩ := X0.leave (v := some (.int (0 : Int32))) (fun h => by rw [Bd.returns] at h; cases h)
  refine ⟨_, _, pre0 _ ?_, hrun, hended, _, _, rfl, ?_, ⟨_, rfl⟩, hW, hsame.mono (by decide) (by decide)⟩
  · skip
    show Steps p.tables e below (s₁.setTop (mkF m 0 #[.val (.int (49 : Int32))] [])) _
    refine XS.iloadN X0.here hx rfl (hb hby dc20_0) rfl ?_
    show Steps p.tables e below (s₁.setTop (mkF m 1 #[.val (.int (49 : Int32))] [(.int (49 : Int32))])) _
    refine XS.bipush X0.here hx rfl (hb hby dc20_1) ?_
    show Steps p.tables e below (s₁.setTop (mkF m 3 #[.val (.int (49 : Int32))] [(.int (32 : Int32)), (.int (49 : Int32))])) _
    refine XS.icmpNo X0.here hx rfl (hb hby dc20_3) rfl (by decide) ?_
    show Steps p.tables e below (s₁.setTop (mkF m 6 #[.val (.int (49 : Int32))] [])) _
    refine XS.iloadN X0.here hx rfl (hb hby dc20_6) rfl ?_
    show Steps p.tables e below (s₁.setTop (mkF m 7 #[.val (.int (49 : Int32))] [(.int (49 : Int32))])) _
    refine XS.bipush X0.here hx rfl (hb hby dc20_7) ?_
    show Steps p.tables e below (s₁.setTop (mkF m 9 #[.val (.int (49 : Int32))] [(.int (9 : Int32)), (.int (49 : Int32))])) _
    refine XS.icmpNo X0.here hx rfl (hb hby dc20_9) rfl (by decide) ?_
    show Steps p.tables e below (s₁.setTop (mkF m 12 #[.val (.int (49 : Int32))] [])) _
    refine XS.iloadN X0.here hx rfl (hb hby dc20_12) rfl ?_
    show Steps p.tables e below (s₁.setTop (mkF m 13 #[.val (.int (49 : Int32))] [(.int (49 : Int32))])) _
    refine XS.bipush X0.here hx rfl (hb hby dc20_13) ?_
    show Steps p.tables e below (s₁.setTop (mkF m 15 #[.val (.int (49 : Int32))] [(.int (10 : Int32)), (.int (49 : Int32))])) _
    refine XS.icmpNo X0.here hx rfl (hb hby dc20_15) rfl (by decide) ?_
    show Steps p.tables e below (s₁.setTop (mkF m 18 #[.val (.int (49 : Int32))] [])) _
    refine XS.iloadN X0.here hx rfl (hb hby dc20_18) rfl ?_
    show Steps p.tables e below (s₁.setTop (mkF m 19 #[.val (.int (49 : Int32))] [(.int (49 : Int32))])) _
    refine XS.bipush X0.here hx rfl (hb hby dc20_19) ?_
    show Steps p.tables e below (s₁.setTop (mkF m 21 #[.val (.int (49 : Int32))] [(.int (13 : Int32)), (.int (49 : Int32))])) _
    refine XS.icmpYes X0.here hx rfl (pc0 := 21) (pc' := 28) rfl (hb hby dc20_21) rfl (by decide) (by decide) (by decide) ?_
    show Steps p.tables e below (s₁.setTop (mkF m 28 #[.val (.int (49 : Int32))] [])) _
    refine XS.iconst X0.here hx rfl (hb hby dc20_28) ?_
    show Steps p.tables e below (s₁.setTop (mkF m 29 #[.val (.int (49 : Int32))] [(.int (0 : Int32))])) _
    exact retN X0 hx (t := .boolean) Bd.returns (by simp) (hb hby dc20_29) hr
  · show Q_ws49 h0 n0 _ s₁.heap _
    rw [e0]
    exact ⟨rfl, N0, rfl⟩
def Q_ws50  (h0 : Heap) (n0 : Nat) (v : Option Value) (h : Heap) (L : List Loc) : Prop := v = some (.int (0 : Int32)) ∧ Fr n0 L ∧ h = h0
set_option maxRecDepth 65536 in
set_option maxHeartbeats 40000000 in
theorem rmWs50 (l : Launch) (Z : State) (a0 : Array Value) (hw : ∀ d ∈ tables_1, d.before a0 Z = true) (ws : List Jvm.Cond)  (h0 : Heap) (n0 : Nat) (O0 : Old Z n0 h0) :
    MetFree l (⟨"com/example/keyfold/keyfold/JsonParser", "isWhitespace", "(B)Z"⟩ : MethodName) (head1 (Jvm.Cond.code (⟨"com/example/keyfold/keyfold/JsonParser", "isWhitespace", "(B)Z"⟩ : MethodName) prog_46_method_3_code 1 (some .boolean) :: ws) ({ frames := 0, cells := 0, slots := 0, locals := 0 } : Room)) (fun a U => a = #[(.int (50 : Int32))] ∧ Z.Warmed39 U.vm ∧ U.heap = h0) (fun _ _ _ _ _ => True) (fun _ U o U' => ∃ v L, o = .returned v ∧ Q_ws50 h0 n0 v U'.heap L ∧ FrameEnd U o U' L ({ frames := 0, cells := 0, slots := 0, locals := 0 } : Room).cells ({ frames := 0, cells := 0, slots := 0, locals := 0 } : Room).slots) := by
  refine MetFree.of_bodySF (plainFor_of_name pn_5) hisR ?_
  intro p e s m args below meth c s₁ Bd hml0 hP hK
  obtain ⟨rfl, hZ, hh⟩ := hP
  have hx := Bd.exec
  have hby := Bd.bytes
  have hml : c.maxLocals = 1 := hml0
  have hown : s.vm.findClass "com/example/keyfold/keyfold/JsonParser" = some m.cls := findClass_of_methodNamed Bd.named
  have hnm := (name_of_methodNamed Bd.named Bd.method).1
  have X0 : Stand p l e ({ frames := 0, cells := 0, slots := 0, locals := 0 } : Room) s m #[(.int (50 : Int32))] below meth c s₁ [] 0 0 := Stand.of_body Bd
  have e0 : s₁.heap = h0 := by rw [← hh, Bd.state]; rfl
  have N0 := Fr.nil n0
  have pre0 : ∀ t, Steps p.tables e below (s₁.setTop (mkF m 0 #[.val (.int (50 : Int32))] [])) t → Steps p.tables e below (s₁.setTop (entryFrame m #[(.int (50 : Int32))] 1)) t := fun t k => castTop (ef_0 m (50 : Int32)) k
  obtain ⟨fs, hr, hrun, hended, hW, hsame⟩ := X0.leave (v := some (.int (0 : Int32))) (fun h => by rw [Bd.returns] at h; cases h)
  refine ⟨_, _, pre0 _ ?_, hrun, hended, _, _, rfl, ?_, ⟨_, rfl⟩, hW, hsame.mono (by decide) (by decide)⟩
  · skip
    show Steps p.tables e below (s₁.setTop (mkF m 0 #[.val (.int (50 : Int32))] [])) _
    refine XS.iloadN X0.here hx rfl (hb hby dc20_0) rfl ?_
    show Steps p.tables e below (s₁.setTop (mkF m 1 #[.val (.int (50 : Int32))] [(.int (50 : Int32))])) _
    refine XS.bipush X0.here hx rfl (hb hby dc20_1) ?_
    show Steps p.tables e below (s₁.setTop (mkF m 3 #[.val (.int (50 : Int32))] [(.int (32 : Int32)), (.int (50 : Int32))])) _
    refine XS.icmpNo X0.here hx rfl (hb hby dc20_3) rfl (by decide) ?_
    show Steps p.tables e below (s₁.setTop (mkF m 6 #[.val (.int (50 : Int32))] [])) _
    refine XS.iloadN X0.here hx rfl (hb hby dc20_6) rfl ?_
    show Steps p.tables e below (s₁.setTop (mkF m 7 #[.val (.int (50 : Int32))] [(.int (50 : Int32))])) _
    refine XS.bipush X0.here hx rfl (hb hby dc20_7) ?_
    show Steps p.tables e below (s₁.setTop (mkF m 9 #[.val (.int (50 : Int32))] [(.int (9 : Int32)), (.int (50 : Int32))])) _
    refine XS.icmpNo X0.here hx rfl (hb hby dc20_9) rfl (by decide) ?_
    show Steps p.tables e below (s₁.setTop (mkF m 12 #[.val (.int (50 : Int32))] [])) _
    refine XS.iloadN X0.here hx rfl (hb hby dc20_12) rfl ?_
    show Steps p.tables e below (s₁.setTop (mkF m 13 #[.val (.int (50 : Int32))] [(.int (50 : Int32))])) _
    refine XS.bipush X0.here hx rfl (hb hby dc20_13) ?_
    show Steps p.tables e below (s₁.setTop (mkF m 15 #[.val (.int (50 : Int32))] [(.int (10 : Int32)), (.int (50 : Int32))])) _
    refine XS.icmpNo X0.here hx rfl (hb hby dc20_15) rfl (by decide) ?_
    show Steps p.tables e below (s₁.setTop (mkF m 18 #[.val (.int (50 : Int32))] [])) _
    refine XS.iloadN X0.here hx rfl (hb hby dc20_18) rfl ?_
    show Steps p.tables e below (s₁.setTop (mkF m 19 #[.val (.int (50 : Int32))] [(.int (50 : Int32))])) _
    refine XS.bipush X0.here hx rfl (hb hby dc20_19) ?_
    show Steps p.tables e below (s₁.setTop (mkF m 21 #[.val (.int (50 : Int32))] [(.int (13 : Int32)), (.int (50 : Int32))])) _
    refine XS.icmpYes X0.here hx rfl (pc0 := 21) (pc' := 28) rfl (hb hby dc20_21) rfl (by decide) (by decide) (by decide) ?_
    show Steps p.tables e below (s₁.setTop (mkF m 28 #[.val (.int (50 : Int32))] [])) _
    refine XS.iconst X0.here hx rfl (hb hby dc20_28) ?_
    show Steps p.tables e below (s₁.setTop (mkF m 29 #[.val (.int (50 : Int32))] [(.int (0 : Int32))])) _
    exact retN X0 hx (t := .boolean) Bd.returns (by simp) (hb hby dc20_29) hr
  · show Q_ws50 h0 n0 _ s₁.heap _
    rw [e0]
    exact ⟨rfl, N0, rfl⟩
def Q_ws51  (h0 : Heap) (n0 : Nat) (v : Option Value) (h : Heap) (L : List Loc) : Prop := v = some (.int (0 : Int32)) ∧ Fr n0 L ∧ h = h0
set_option maxRecDepth 65536 in
set_option maxHeartbeats 40000000 in
theorem rmWs51 (l : Launch) (Z : State) (a0 : Array Value) (hw : ∀ d ∈ tables_1, d.before a0 Z = true) (ws : List Jvm.Cond)  (h0 : Heap) (n0 : Nat) (O0 : Old Z n0 h0) :
    MetFree l (⟨"com/example/keyfold/keyfold/JsonParser", "isWhitespace", "(B)Z"⟩ : MethodName) (head1 (Jvm.Cond.code (⟨"com/example/keyfold/keyfold/JsonParser", "isWhitespace", "(B)Z"⟩ : MethodName) prog_46_method_3_code 1 (some .boolean) :: ws) ({ frames := 0, cells := 0, slots := 0, locals := 0 } : Room)) (fun a U => a = #[(.int (51 : Int32))] ∧ Z.Warmed39 U.vm ∧ U.heap = h0) (fun _ _ _ _ _ => True) (fun _ U o U' => ∃ v L, o = .returned v ∧ Q_ws51 h0 n0 v U'.heap L ∧ FrameEnd U o U' L ({ frames := 0, cells := 0, slots := 0, locals := 0 } : Room).cells ({ frames := 0, cells := 0, slots := 0, locals := 0 } : Room).slots) := by
  refine MetFree.of_bodySF (plainFor_of_name pn_5) hisR ?_
  intro p e s m args below meth c s₁ Bd hml0 hP hK
  obtain ⟨rfl, hZ, hh⟩ := hP
  have hx := Bd.exec
  have hby := Bd.bytes
  have hml : c.maxLocals = 1 := hml0
  have hown : s.vm.findClass "com/example/keyfold/keyfold/JsonParser" = some m.cls := findClass_of_methodNamed Bd.named
  have hnm := (name_of_methodNamed Bd.named Bd.method).1
  have X0 : Stand p l e ({ frames := 0, cells := 0, slots := 0, locals := 0 } : Room) s m #[(.int (51 : Int32))] below meth c s₁ [] 0 0 := Stand.of_body Bd
  have e0 : s₁.heap = h0 := by rw [← hh, Bd.state]; rfl
  have N0 := Fr.nil n0
  have pre0 : ∀ t, Steps p.tables e below (s₁.setTop (mkF m 0 #[.val (.int (51 : Int32))] [])) t → Steps p.tables e below (s₁.setTop (entryFrame m #[(.int (51 : Int32))] 1)) t := fun t k => castTop (ef_0 m (51 : Int32)) k
  obtain ⟨fs, hr, hrun, hended, hW, hsame⟩ := X0.leave (v := some (.int (0 : Int32))) (fun h => by rw [Bd.returns] at h; cases h)
  refine ⟨_, _, pre0 _ ?_, hrun, hended, _, _, rfl, ?_, ⟨_, rfl⟩, hW, hsame.mono (by decide) (by decide)⟩
  · skip
    show Steps p.tables e below (s₁.setTop (mkF m 0 #[.val (.int (51 : Int32))] [])) _
    refine XS.iloadN X0.here hx rfl (hb hby dc20_0) rfl ?_
    show Steps p.tables e below (s₁.setTop (mkF m 1 #[.val (.int (51 : Int32))] [(.int (51 : Int32))])) _
    refine XS.bipush X0.here hx rfl (hb hby dc20_1) ?_
    show Steps p.tables e below (s₁.setTop (mkF m 3 #[.val (.int (51 : Int32))] [(.int (32 : Int32)), (.int (51 : Int32))])) _
    refine XS.icmpNo X0.here hx rfl (hb hby dc20_3) rfl (by decide) ?_
    show Steps p.tables e below (s₁.setTop (mkF m 6 #[.val (.int (51 : Int32))] [])) _
    refine XS.iloadN X0.here hx rfl (hb hby dc20_6) rfl ?_
    show Steps p.tables e below (s₁.setTop (mkF m 7 #[.val (.int (51 : Int32))] [(.int (51 : Int32))])) _
    refine XS.bipush X0.here hx rfl (hb hby dc20_7) ?_
    show Steps p.tables e below (s₁.setTop (mkF m 9 #[.val (.int (51 : Int32))] [(.int (9 : Int32)), (.int (51 : Int32))])) _
    refine XS.icmpNo X0.here hx rfl (hb hby dc20_9) rfl (by decide) ?_
    show Steps p.tables e below (s₁.setTop (mkF m 12 #[.val (.int (51 : Int32))] [])) _
    refine XS.iloadN X0.here hx rfl (hb hby dc20_12) rfl ?_
    show Steps p.tables e below (s₁.setTop (mkF m 13 #[.val (.int (51 : Int32))] [(.int (51 : Int32))])) _
    refine XS.bipush X0.here hx rfl (hb hby dc20_13) ?_
    show Steps p.tables e below (s₁.setTop (mkF m 15 #[.val (.int (51 : Int32))] [(.int (10 : Int32)), (.int (51 : Int32))])) _
    refine XS.icmpNo X0.here hx rfl (hb hby dc20_15) rfl (by decide) ?_
    show Steps p.tables e below (s₁.setTop (mkF m 18 #[.val (.int (51 : Int32))] [])) _
    refine XS.iloadN X0.here hx rfl (hb hby dc20_18) rfl ?_
    show Steps p.tables e below (s₁.setTop (mkF m 19 #[.val (.int (51 : Int32))] [(.int (51 : Int32))])) _
    refine XS.bipush X0.here hx rfl (hb hby dc20_19) ?_
    show Steps p.tables e below (s₁.setTop (mkF m 21 #[.val (.int (51 : Int32))] [(.int (13 : Int32)), (.int (51 : Int32))])) _
    refine XS.icmpYes X0.here hx rfl (pc0 := 21) (pc' := 28) rfl (hb hby dc20_21) rfl (by decide) (by decide) (by decide) ?_
    show Steps p.tables e below (s₁.setTop (mkF m 28 #[.val (.int (51 : Int32))] [])) _
    refine XS.iconst X0.here hx rfl (hb hby dc20_28) ?_
    show Steps p.tables e below (s₁.setTop (mkF m 29 #[.val (.int (51 : Int32))] [(.int (0 : Int32))])) _
    exact retN X0 hx (t := .boolean) Bd.returns (by simp) (hb hby dc20_29) hr
  · show Q_ws51 h0 n0 _ s₁.heap _
    rw [e0]
    exact ⟨rfl, N0, rfl⟩
def Q_ws52  (h0 : Heap) (n0 : Nat) (v : Option Value) (h : Heap) (L : List Loc) : Prop := v = some (.int (0 : Int32)) ∧ Fr n0 L ∧ h = h0
set_option maxRecDepth 65536 in
set_option maxHeartbeats 40000000 in
theorem rmWs52 (l : Launch) (Z : State) (a0 : Array Value) (hw : ∀ d ∈ tables_1, d.before a0 Z = true) (ws : List Jvm.Cond)  (h0 : Heap) (n0 : Nat) (O0 : Old Z n0 h0) :
    MetFree l (⟨"com/example/keyfold/keyfold/JsonParser", "isWhitespace", "(B)Z"⟩ : MethodName) (head1 (Jvm.Cond.code (⟨"com/example/keyfold/keyfold/JsonParser", "isWhitespace", "(B)Z"⟩ : MethodName) prog_46_method_3_code 1 (some .boolean) :: ws) ({ frames := 0, cells := 0, slots := 0, locals := 0 } : Room)) (fun a U => a = #[(.int (52 : Int32))] ∧ Z.Warmed39 U.vm ∧ U.heap = h0) (fun _ _ _ _ _ => True) (fun _ U o U' => ∃ v L, o = .returned v ∧ Q_ws52 h0 n0 v U'.heap L ∧ FrameEnd U o U' L ({ frames := 0, cells := 0, slots := 0, locals := 0 } : Room).cells ({ frames := 0, cells := 0, slots := 0, locals := 0 } : Room).slots) := by
  refine MetFree.of_bodySF (plainFor_of_name pn_5) hisR ?_
  intro p e s m args below meth c s₁ Bd hml0 hP hK
  obtain ⟨rfl, hZ, hh⟩ := hP
  have hx := Bd.exec
  have hby := Bd.bytes
  have hml : c.maxLocals = 1 := hml0
  have hown : s.vm.findClass "com/example/keyfold/keyfold/JsonParser" = some m.cls := findClass_of_methodNamed Bd.named
  have hnm := (name_of_methodNamed Bd.named Bd.method).1
  have X0 : Stand p l e ({ frames := 0, cells := 0, slots := 0, locals := 0 } : Room) s m #[(.int (52 : Int32))] below meth c s₁ [] 0 0 := Stand.of_body Bd
  have e0 : s₁.heap = h0 := by rw [← hh, Bd.state]; rfl
  have N0 := Fr.nil n0
  have pre0 : ∀ t, Steps p.tables e below (s₁.setTop (mkF m 0 #[.val (.int (52 : Int32))] [])) t → Steps p.tables e below (s₁.setTop (entryFrame m #[(.int (52 : Int32))] 1)) t := fun t k => castTop (ef_0 m (52 : Int32)) k
  obtain ⟨fs, hr, hrun, hended, hW, hsame⟩ := X0.leave (v := some (.int (0 : Int32))) (fun h => by rw [Bd.returns] at h; cases h)
  refine ⟨_, _, pre0 _ ?_, hrun, hended, _, _, rfl, ?_, ⟨_, rfl⟩, hW, hsame.mono (by decide) (by decide)⟩
  · skip
    show Steps p.tables e below (s₁.setTop (mkF m 0 #[.val (.int (52 : Int32))] [])) _
    refine XS.iloadN X0.here hx rfl (hb hby dc20_0) rfl ?_
    show Steps p.tables e below (s₁.setTop (mkF m 1 #[.val (.int (52 : Int32))] [(.int (52 : Int32))])) _
    refine XS.bipush X0.here hx rfl (hb hby dc20_1) ?_
    show Steps p.tables e below (s₁.setTop (mkF m 3 #[.val (.int (52 : Int32))] [(.int (32 : Int32)), (.int (52 : Int32))])) _
    refine XS.icmpNo X0.here hx rfl (hb hby dc20_3) rfl (by decide) ?_
    show Steps p.tables e below (s₁.setTop (mkF m 6 #[.val (.int (52 : Int32))] [])) _
    refine XS.iloadN X0.here hx rfl (hb hby dc20_6) rfl ?_
    show Steps p.tables e below (s₁.setTop (mkF m 7 #[.val (.int (52 : Int32))] [(.int (52 : Int32))])) _
    refine XS.bipush X0.here hx rfl (hb hby dc20_7) ?_
    show Steps p.tables e below (s₁.setTop (mkF m 9 #[.val (.int (52 : Int32))] [(.int (9 : Int32)), (.int (52 : Int32))])) _
    refine XS.icmpNo X0.here hx rfl (hb hby dc20_9) rfl (by decide) ?_
    show Steps p.tables e below (s₁.setTop (mkF m 12 #[.val (.int (52 : Int32))] [])) _
    refine XS.iloadN X0.here hx rfl (hb hby dc20_12) rfl ?_
    show Steps p.tables e below (s₁.setTop (mkF m 13 #[.val (.int (52 : Int32))] [(.int (52 : Int32))])) _
    refine XS.bipush X0.here hx rfl (hb hby dc20_13) ?_
    show Steps p.tables e below (s₁.setTop (mkF m 15 #[.val (.int (52 : Int32))] [(.int (10 : Int32)), (.int (52 : Int32))])) _
    refine XS.icmpNo X0.here hx rfl (hb hby dc20_15) rfl (by decide) ?_
    show Steps p.tables e below (s₁.setTop (mkF m 18 #[.val (.int (52 : Int32))] [])) _
    refine XS.iloadN X0.here hx rfl (hb hby dc20_18) rfl ?_
    show Steps p.tables e below (s₁.setTop (mkF m 19 #[.val (.int (52 : Int32))] [(.int (52 : Int32))])) _
    refine XS.bipush X0.here hx rfl (hb hby dc20_19) ?_
    show Steps p.tables e below (s₁.setTop (mkF m 21 #[.val (.int (52 : Int32))] [(.int (13 : Int32)), (.int (52 : Int32))])) _
    refine XS.icmpYes X0.here hx rfl (pc0 := 21) (pc' := 28) rfl (hb hby dc20_21) rfl (by decide) (by decide) (by decide) ?_
    show Steps p.tables e below (s₁.setTop (mkF m 28 #[.val (.int (52 : Int32))] [])) _
    refine XS.iconst X0.here hx rfl (hb hby dc20_28) ?_
    show Steps p.tables e below (s₁.setTop (mkF m 29 #[.val (.int (52 : Int32))] [(.int (0 : Int32))])) _
    exact retN X0 hx (t := .boolean) Bd.returns (by simp) (hb hby dc20_29) hr
  · show Q_ws52 h0 n0 _ s₁.heap _
    rw [e0]
    exact ⟨rfl, N0, rfl⟩
theorem ef_12 (m : MethodId) (x0 : Addr) : entryFrame m #[(.ref x0)] 9 = mkF m 0 #[.val (.ref x0), .unset, .unset, .unset, .unset, .unset, .unset, .unset, .unset] [] := by first | (simp [entryFrame, mkF, argsToLocals, Value.category]; done) | rfl
theorem dc21_0 : decode prog_47_method_10_code 0 = .ok (.aload_n 0, 1) := by decide +kernel
theorem dc21_1 : decode prog_47_method_10_code 1 = .ok (.getfield 7, 3) := by decide +kernel
theorem dc21_4 : decode prog_47_method_10_code 4 = .ok (.getfield 110, 3) := by decide +kernel
theorem dc21_7 : decode prog_47_method_10_code 7 = .ok (.astore_n 1, 1) := by decide +kernel
theorem dc21_8 : decode prog_47_method_10_code 8 = .ok (.aload_n 0, 1) := by decide +kernel
theorem dc21_9 : decode prog_47_method_10_code 9 = .ok (.invokevirtual 114, 3) := by decide +kernel
theorem dc21_12 : decode prog_47_method_10_code 12 = .ok (.istore_n 2, 1) := by decide +kernel
theorem dc21_13 : decode prog_47_method_10_code 13 = .ok (.aload_n 0, 1) := by decide +kernel
theorem dc21_14 : decode prog_47_method_10_code 14 = .ok (.invokevirtual 117, 3) := by decide +kernel
theorem dc21_17 : decode prog_47_method_10_code 17 = .ok (.istore_n 3, 1) := by decide +kernel
theorem dc21_18 : decode prog_47_method_10_code 18 = .ok (.aload_n 0, 1) := by decide +kernel
theorem dc21_19 : decode prog_47_method_10_code 19 = .ok (.invokevirtual 91, 3) := by decide +kernel
theorem pd_7 : parseMethodDescriptor "()Z" = some ⟨[], some .boolean⟩ := by decide +kernel
theorem dc21_22 : decode prog_47_method_10_code 22 = .ok (.ifCond .ne 10, 3) := by decide +kernel
theorem dc21_25 : decode prog_47_method_10_code 25 = .ok (.aload_n 1, 1) := by decide +kernel
theorem dc21_26 : decode prog_47_method_10_code 26 = .ok (.iload_n 2, 1) := by decide +kernel
theorem dc21_27 : decode prog_47_method_10_code 27 = .ok (.iload_n 3, 1) := by decide +kernel
theorem dc21_28 : decode prog_47_method_10_code 28 = .ok (.invokestatic 123, 3) := by decide +kernel
theorem dc21_31 : decode prog_47_method_10_code 31 = .ok (.areturn, 1) := by decide +kernel
set_option maxRecDepth 65536 in
set_option maxHeartbeats 40000000 in
theorem rmCo0 (l : Launch) (Z : State) (a0 : Array Value) (hw : ∀ d ∈ tables_1, d.before a0 Z = true) (ws : List Jvm.Cond) (aK a_OBJECT a_ARRAY a_STRING a_NUMBER a_TRUE a_FALSE a_NULL : Addr) (a1 t1 br c1 : Addr) (k1 : ClassId) (xs : List Int32) (r0 s1 e1 r3 : Int32) (h0 : Heap) (n0 : Nat) (O0 : Old Z n0 h0) (En : OwnEnv Z aK a_OBJECT a_ARRAY a_STRING a_NUMBER a_TRUE a_FALSE a_NULL) (Ev : Exa Z h0 a1 "com/example/keyfold/keyfold/JsonValue") (Ft : Fld Z h0 a1 "com/example/keyfold/keyfold/JsonValue" "tape" "Lcom/example/keyfold/keyfold/JsonValue$Tape;" (.ref t1)) (Fi : Fld Z h0 a1 "com/example/keyfold/keyfold/JsonValue" "index" "I" (.int (0 : Int32))) (Fq : Fld Z h0 t1 "com/example/keyfold/keyfold/JsonValue$Tape" "records" "[I" (.ref br)) (Lq : La Z h0 br .int (64 : Int32) xs) (Fs : Fld Z h0 t1 "com/example/keyfold/keyfold/JsonValue$Tape" "source" "[B" (.ref c1)) (Ec : Exa Z h0 c1 "[B") (Vc : Arv Z h0 c1 k1 .byte (8 : Int32) [(.int (49 : Int32)), (.int (32 : Int32)), (.int (50 : Int32)), (.int (32 : Int32)), (.int (51 : Int32)), (.int (32 : Int32)), (.int (52 : Int32)), (.int (32 : Int32))] (.int (0 : Int32))) (Rc : Rec xs r0 s1 e1 r3) (hs0 : ¬ s1 < (0 : Int32)) (hse : ¬ e1 < s1) (he8 : ¬ (8 : Int32) < e1) (hsp : (r0 &&& (8 : Int32)) = (0 : Int32)) :
    MetFree l (⟨"com/example/keyfold/keyfold/JsonValue", "compact", "()[B"⟩ : MethodName) (head1 (Jvm.Cond.code (⟨"com/example/keyfold/keyfold/JsonValue", "compact", "()[B"⟩ : MethodName) prog_47_method_10_code 9 (some (.array .byte)) :: ws) ({ frames := 3, cells := 1, slots := 8, locals := 48 } : Room)) (fun a U => a = #[(.ref a1)] ∧ Z.Warmed39 U.vm ∧ U.heap = h0) (fun _ _ _ _ _ => True) (fun _ U o U' => ∃ v L, o = .returned v ∧ Q_nb Z (e1 - s1) h0 n0 v U'.heap L ∧ FrameEnd U o U' L ({ frames := 3, cells := 1, slots := 8, locals := 48 } : Room).cells ({ frames := 3, cells := 1, slots := 8, locals := 48 } : Room).slots) := by
  refine MetFree.of_bodySF (plainFor_of_name pn_3) hisR ?_
  intro p e s m args below meth c s₁ Bd hml0 hP hK
  obtain ⟨rfl, hZ, hh⟩ := hP
  have hx := Bd.exec
  have hby := Bd.bytes
  have hml : c.maxLocals = 9 := hml0
  have hown : s.vm.findClass "com/example/keyfold/keyfold/JsonValue" = some m.cls := findClass_of_methodNamed Bd.named
  have hnm := (name_of_methodNamed Bd.named Bd.method).1
  have X0 : Stand p l e ({ frames := 3, cells := 1, slots := 8, locals := 48 } : Room) s m #[(.ref a1)] below meth c s₁ [] 0 0 := Stand.of_body Bd
  have e0 : s₁.heap = h0 := by rw [← hh, Bd.state]; rfl
  have N0 := Fr.nil n0
  have pre0 : ∀ t, Steps p.tables e below (s₁.setTop (mkF m 0 #[.val (.ref a1), .unset, .unset, .unset, .unset, .unset, .unset, .unset, .unset] [])) t → Steps p.tables e below (s₁.setTop (entryFrame m #[(.ref a1)] 9)) t := fun t k => castTop (ef_12 m a1) k
  obtain ⟨S_K, S_D, S_OBJECT, K_OBJECT, S_ARRAY, K_ARRAY, S_STRING, K_STRING, S_NUMBER, K_NUMBER, S_TRUE, K_TRUE, S_FALSE, K_FALSE, S_NULL, K_NULL⟩ := id En
  obtain ⟨T101, X101, e101, st101⟩ := getF X0 hx hZ hown (host := "") (Or.inl (hw _ (List.mem_of_getElem? (i := 67) rfl))) Via.refl e0 Ft (g := (mkF m 1 #[.val (.ref a1), .unset, .unset, .unset, .unset, .unset, .unset, .unset, .unset] [(.ref a1)])) rfl rfl (hb hby dc21_1)
  obtain ⟨T102, X102, e102, st102⟩ := getRef X101 hx hZ hown (hw _ (List.mem_of_getElem? (i := 112) rfl)) e101 Fs (g := (mkF m 4 #[.val (.ref a1), .unset, .unset, .unset, .unset, .unset, .unset, .unset, .unset] [(.ref t1)])) rfl rfl (hb hby dc21_4)
  obtain ⟨cq103, kq103, q103a, q103b, q103c⟩ := isOf hZ e102 Ev
  obtain ⟨_, _, ⟨T103, L103, k103, n103⟩, -, X103, ⟨Lc103, hQ103, l103, y103, z103⟩, st103⟩ := X102.virtualBack hx (y := (⟨"com/example/keyfold/keyfold/JsonValue", "start", "()I"⟩ : MethodName)) (z := (⟨"com/example/keyfold/keyfold/JsonValue", "start", "()I"⟩ : MethodName)) hown (mvT hZ (hw _ (List.mem_of_getElem? (i := 113) rfl))) (mvT hZ (hw _ (List.mem_of_getElem? (i := 93) rfl))) (notFace_of_selects (args := #[]) (mvT hZ (hw _ (List.mem_of_getElem? (i := 95) rfl)))) (mvT hZ (hw _ (List.mem_of_getElem? (i := 95) rfl))) (mvT hZ (hw _ (List.mem_of_getElem? (i := 94) rfl))) (by decide) (backOf (W := 0) (rm_st l Z a0 hw [] aK a_OBJECT a_ARRAY a_STRING a_NUMBER a_TRUE a_FALSE a_NULL a1 t1 br xs r0 s1 e1 r3 h0 n0 O0 En Ev Ft Fi Fq Lq Rc) hZ (hw _ (List.mem_of_getElem? (i := 96) rfl)) (hw _ (List.mem_of_getElem? (i := 62) rfl)) (by decide) (by decide)) q103a q103c (g := (mkF m 9 #[.val (.ref a1), .val (.ref c1), .unset, .unset, .unset, .unset, .unset, .unset, .unset] [(.ref a1)])) rfl (by rw [hml]; rfl) (Steps.refl _) (argsL := []) (rest := []) (lenOf pd_0 rfl) rfl (by show 2 * 0 + _ ≤ _; exact Nat.le_of_eq rfl) (hb hby dc21_9) (fun _ _ => ⟨rfl, e102, (by decide : 0 + 0 ≤ _), (by decide : 0 + 0 ≤ _)⟩)
  dsimp only [Pt.U, Pt.locs, Pt.cells, Pt.slots] at X103 l103 y103 z103 st103 hQ103
  subst l103 y103 z103
  obtain ⟨rfl, N103q, hh103⟩ := hQ103
  have N103 := Fr.app N0 N103q
  obtain ⟨cq104, kq104, q104a, q104b, q104c⟩ := isOf hZ hh103 Ev
  obtain ⟨_, _, ⟨T104, L104, k104, n104⟩, -, X104, ⟨Lc104, hQ104, l104, y104, z104⟩, st104⟩ := X103.virtualBack hx (y := (⟨"com/example/keyfold/keyfold/JsonValue", "end", "()I"⟩ : MethodName)) (z := (⟨"com/example/keyfold/keyfold/JsonValue", "end", "()I"⟩ : MethodName)) hown (mvT hZ (hw _ (List.mem_of_getElem? (i := 114) rfl))) (mvT hZ (hw _ (List.mem_of_getElem? (i := 98) rfl))) (notFace_of_selects (args := #[]) (mvT hZ (hw _ (List.mem_of_getElem? (i := 100) rfl)))) (mvT hZ (hw _ (List.mem_of_getElem? (i := 100) rfl))) (mvT hZ (hw _ (List.mem_of_getElem? (i := 99) rfl))) (by decide) (backOf (W := 0) (rm_en l Z a0 hw [] aK a_OBJECT a_ARRAY a_STRING a_NUMBER a_TRUE a_FALSE a_NULL a1 t1 br xs r0 s1 e1 r3 h0 n0 O0 En Ev Ft Fi Fq Lq Rc) hZ (hw _ (List.mem_of_getElem? (i := 101) rfl)) (hw _ (List.mem_of_getElem? (i := 62) rfl)) (by decide) (by decide)) q104a q104c (g := (mkF m 14 #[.val (.ref a1), .val (.ref c1), .val (.int s1), .unset, .unset, .unset, .unset, .unset, .unset] [(.ref a1)])) rfl (by rw [hml]; rfl) (Steps.refl _) (argsL := []) (rest := []) (lenOf pd_0 rfl) rfl (by show 2 * 0 + _ ≤ _; exact Nat.le_of_eq rfl) (hb hby dc21_14) (fun _ _ => ⟨rfl, hh103, (by decide : 0 + 0 ≤ _), (by decide : 0 + 0 ≤ _)⟩)
  dsimp only [Pt.U, Pt.locs, Pt.cells, Pt.slots] at X104 l104 y104 z104 st104 hQ104
  subst l104 y104 z104
  obtain ⟨rfl, N104q, hh104⟩ := hQ104
  have N104 := Fr.app N103 N104q
  obtain ⟨cq105, q105, q105'⟩ := Exa.cell Ev
  obtain ⟨_, _, ⟨T105, L105, k105, n105⟩, -, X105, ⟨Lc105, hQ105, l105, y105, z105⟩, st105⟩ := X104.privateBack hx (y := (⟨"com/example/keyfold/keyfold/JsonValue", "isSpaced", "()Z"⟩ : MethodName)) hown (mvT hZ (hw _ (List.mem_of_getElem? (i := 115) rfl))) (mvT hZ (hw _ (List.mem_of_getElem? (i := 116) rfl))) (mvT hZ (own_sel (y := (⟨"com/example/keyfold/keyfold/JsonValue", "isSpaced", "()Z"⟩ : MethodName)) (hw _ (List.mem_of_getElem? (i := 61) rfl)) (hw _ (List.mem_of_getElem? (i := 117) rfl)) (hw _ (List.mem_of_getElem? (i := 116) rfl)) (by decide))) (Cond.privateMethod_at (mvP hZ (hw _ (List.mem_of_getElem? (i := 117) rfl)) (args := #[]))) (mvT hZ (hw _ (List.mem_of_getElem? (i := 118) rfl))) (by decide) (backOf (W := 0) (rm_sp0 l Z a0 hw [] aK a_OBJECT a_ARRAY a_STRING a_NUMBER a_TRUE a_FALSE a_NULL a1 t1 br xs r0 s1 e1 r3 h0 n0 O0 En Ev Ft Fi Fq Lq Rc hsp) hZ (hw _ (List.mem_of_getElem? (i := 118) rfl)) (hw _ (List.mem_of_getElem? (i := 62) rfl)) (by decide) (by decide)) (g := (mkF m 19 #[.val (.ref a1), .val (.ref c1), .val (.int s1), .val (.int e1), .unset, .unset, .unset, .unset, .unset] [(.ref a1)])) rfl (by rw [hml]; rfl) (Steps.refl _) (a := a1) (by rw [hh104]; exact q105) q105' (argsL := []) (rest := []) (lenOf pd_7 rfl) rfl (by show 2 * 0 + _ ≤ _; exact Nat.le_of_eq rfl) (hb hby dc21_19) (fun _ _ => ⟨rfl, hh104, (by decide : 0 + 0 ≤ _), (by decide : 0 + 0 ≤ _)⟩)
  dsimp only [Pt.U, Pt.locs, Pt.cells, Pt.slots] at X105 l105 y105 z105 st105 hQ105
  subst l105 y105 z105
  obtain ⟨rfl, N105q, hh105⟩ := hQ105
  have N105 := Fr.app N104 N105q
  obtain ⟨_, _, ⟨T106, L106, k106, n106⟩, -, X106, ⟨Lc106, hQ106, l106, y106, z106⟩, st106⟩ := Jvm.LawKit.callS X105 hx (y := (⟨"java/util/Arrays", "copyOfRange", "([BII)[B"⟩ : MethodName)) hown (mvT hZ (hw _ (List.mem_of_getElem? (i := 119) rfl))) (mvT hZ (hw _ (List.mem_of_getElem? (i := 120) rfl))) (mvT hZ (hw _ (List.mem_of_getElem? (i := 121) rfl))) (mvT hZ (hw _ (List.mem_of_getElem? (i := 122) rfl))) (by decide) (backOf (W := 0) (rmCr l Z a0 hw [] c1 s1 e1 h0 n0 O0 Ec (By.of Vc rfl) hs0 hse he8) hZ (hw _ (List.mem_of_getElem? (i := 122) rfl)) (hw _ (List.mem_of_getElem? (i := 121) rfl)) (by decide) (by decide)) (g := (mkF m 28 #[.val (.ref a1), .val (.ref c1), .val (.int s1), .val (.int e1), .unset, .unset, .unset, .unset, .unset] [(.int e1), (.int s1), (.ref c1)])) rfl (by rw [hml]; rfl) (argsL := [(.ref c1), (.int s1), (.int e1)]) (rest := []) (lenOf pd_6 rfl) rfl (by show 2 * 0 + _ ≤ _; exact Nat.le_of_eq rfl) (hb hby dc21_28) (fun _ _ => ⟨rfl, hh105, (by decide : 0 + 1 ≤ _), (by decide : 0 + 8 ≤ _)⟩)
  dsimp only [Pt.U, Pt.locs, Pt.cells, Pt.slots] at X106 l106 y106 z106 st106 hQ106
  subst l106 y106 z106
  obtain ⟨b106, rfl, N106q, gb106, sz106, K106, Ex106, V106⟩ := hQ106
  have N106 := Fr.app N105 N106q
  have ne106_a1 : a1 ≠ b106 := Nat.ne_of_lt (Nat.lt_of_lt_of_le (Ev).lt sz106)
  have ne106_br : br ≠ b106 := Nat.ne_of_lt (Nat.lt_of_lt_of_le (Lq).lt sz106)
  have ne106_c1 : c1 ≠ b106 := Nat.ne_of_lt (Nat.lt_of_lt_of_le (Ec).lt sz106)
  have ne106_t1 : t1 ≠ b106 := Nat.ne_of_lt (Nat.lt_of_lt_of_le (Fq).lt sz106)
  have sz0106 : h0.size ≤ b106 := Nat.le_trans ((Keep.refl h0 [])).1 sz106
  obtain ⟨fs, hr, hrun, hended, hW, hsame⟩ := X106.leave (v := some (.ref b106)) (fun h => by rw [Bd.returns] at h; cases h)
  have K107 : Keep h0 T106.heap [] := (Keep.trans (Keep.refl h0 []) K106 all0)
  refine ⟨_, _, pre0 _ ?_, hrun, hended, _, _, rfl, ?_, ⟨_, rfl⟩, hW, hsame.mono (by decide) (by decide)⟩
  · skip
    show Steps p.tables e below (s₁.setTop (mkF m 0 #[.val (.ref a1), .unset, .unset, .unset, .unset, .unset, .unset, .unset, .unset] [])) _
    refine XS.aloadN X0.here hx rfl (hb hby dc21_0) rfl rfl ?_
    show Steps p.tables e below (s₁.setTop (mkF m 1 #[.val (.ref a1), .unset, .unset, .unset, .unset, .unset, .unset, .unset, .unset] [(.ref a1)])) _
    refine st101 _ ?_
    show Steps p.tables e below (T101.setTop (mkF m 4 #[.val (.ref a1), .unset, .unset, .unset, .unset, .unset, .unset, .unset, .unset] [(.ref t1)])) _
    refine st102 _ ?_
    show Steps p.tables e below (T102.setTop (mkF m 7 #[.val (.ref a1), .unset, .unset, .unset, .unset, .unset, .unset, .unset, .unset] [(.ref c1)])) _
    refine XS.astoreN X102.here hx rfl (hb hby dc21_7) rfl rfl (l' := #[.val (.ref a1), .val (.ref c1), .unset, .unset, .unset, .unset, .unset, .unset, .unset]) rfl ?_
    show Steps p.tables e below (T102.setTop (mkF m 8 #[.val (.ref a1), .val (.ref c1), .unset, .unset, .unset, .unset, .unset, .unset, .unset] [])) _
    refine XS.aloadN X102.here hx rfl (hb hby dc21_8) rfl rfl ?_
    show Steps p.tables e below (T102.setTop (mkF m 9 #[.val (.ref a1), .val (.ref c1), .unset, .unset, .unset, .unset, .unset, .unset, .unset] [(.ref a1)])) _
    refine st103.trans ?_
    show Steps p.tables e below (T103.setTop (mkF m 12 #[.val (.ref a1), .val (.ref c1), .unset, .unset, .unset, .unset, .unset, .unset, .unset] [(.int s1)])) _
    refine XS.istoreN X103.here hx rfl (hb hby dc21_12) rfl (l' := #[.val (.ref a1), .val (.ref c1), .val (.int s1), .unset, .unset, .unset, .unset, .unset, .unset]) rfl ?_
    show Steps p.tables e below (T103.setTop (mkF m 13 #[.val (.ref a1), .val (.ref c1), .val (.int s1), .unset, .unset, .unset, .unset, .unset, .unset] [])) _
    refine XS.aloadN X103.here hx rfl (hb hby dc21_13) rfl rfl ?_
    show Steps p.tables e below (T103.setTop (mkF m 14 #[.val (.ref a1), .val (.ref c1), .val (.int s1), .unset, .unset, .unset, .unset, .unset, .unset] [(.ref a1)])) _
    refine st104.trans ?_
    show Steps p.tables e below (T104.setTop (mkF m 17 #[.val (.ref a1), .val (.ref c1), .val (.int s1), .unset, .unset, .unset, .unset, .unset, .unset] [(.int e1)])) _
    refine XS.istoreN X104.here hx rfl (hb hby dc21_17) rfl (l' := #[.val (.ref a1), .val (.ref c1), .val (.int s1), .val (.int e1), .unset, .unset, .unset, .unset, .unset]) rfl ?_
    show Steps p.tables e below (T104.setTop (mkF m 18 #[.val (.ref a1), .val (.ref c1), .val (.int s1), .val (.int e1), .unset, .unset, .unset, .unset, .unset] [])) _
    refine XS.aloadN X104.here hx rfl (hb hby dc21_18) rfl rfl ?_
    show Steps p.tables e below (T104.setTop (mkF m 19 #[.val (.ref a1), .val (.ref c1), .val (.int s1), .val (.int e1), .unset, .unset, .unset, .unset, .unset] [(.ref a1)])) _
    refine st105.trans ?_
    show Steps p.tables e below (T105.setTop (mkF m 22 #[.val (.ref a1), .val (.ref c1), .val (.int s1), .val (.int e1), .unset, .unset, .unset, .unset, .unset] [(.int (0 : Int32))])) _
    refine XS.ifNo X105.here hx rfl (hb hby dc21_22) rfl (by decide) ?_
    show Steps p.tables e below (T105.setTop (mkF m 25 #[.val (.ref a1), .val (.ref c1), .val (.int s1), .val (.int e1), .unset, .unset, .unset, .unset, .unset] [])) _
    refine XS.aloadN X105.here hx rfl (hb hby dc21_25) rfl rfl ?_
    show Steps p.tables e below (T105.setTop (mkF m 26 #[.val (.ref a1), .val (.ref c1), .val (.int s1), .val (.int e1), .unset, .unset, .unset, .unset, .unset] [(.ref c1)])) _
    refine XS.iloadN X105.here hx rfl (hb hby dc21_26) rfl ?_
    show Steps p.tables e below (T105.setTop (mkF m 27 #[.val (.ref a1), .val (.ref c1), .val (.int s1), .val (.int e1), .unset, .unset, .unset, .unset, .unset] [(.int s1), (.ref c1)])) _
    refine XS.iloadN X105.here hx rfl (hb hby dc21_27) rfl ?_
    show Steps p.tables e below (T105.setTop (mkF m 28 #[.val (.ref a1), .val (.ref c1), .val (.int s1), .val (.int e1), .unset, .unset, .unset, .unset, .unset] [(.int e1), (.int s1), (.ref c1)])) _
    refine st106 _ ?_
    show Steps p.tables e below (T106.setTop (mkF m 31 #[.val (.ref a1), .val (.ref c1), .val (.int s1), .val (.int e1), .unset, .unset, .unset, .unset, .unset] [(.ref b106)])) _
    exact retOut X106 hx (t := (.array .byte)) Bd.returns rfl (Or.inr (Or.inr (Or.inr (Or.inr ⟨rfl, rfl, rfl⟩)))) (hb hby dc21_31) hr
  · show Q_nb Z (e1 - s1) h0 n0 _ T106.heap _
    exact ⟨_, rfl, N106, gb106, sz0106, K107, Ex106, V106⟩
theorem own_up {x y e1 : Int32} (h : x < e1) (hy : y.toInt = x.toInt + 1) : ¬ e1 < y := by
  rw [Int32.lt_iff_toInt_lt] at h ⊢; omega
theorem own_up2 {x y s1 : Int32} (h : ¬ x < s1) (hy : y.toInt = x.toInt + 1) : ¬ y < s1 := by
  rw [Int32.lt_iff_toInt_lt] at h ⊢; omega
theorem own_st0 {s1 : Int32} (h : s1 = (0 : Int32) ∨ s1 = (1 : Int32) ∨ s1 = (2 : Int32) ∨ s1 = (3 : Int32) ∨ s1 = (4 : Int32) ∨ s1 = (5 : Int32) ∨ s1 = (6 : Int32) ∨ s1 = (7 : Int32) ∨ s1 = (8 : Int32)) : (own_len s1 (0 : Int32) + (1 : Int32)) = own_len s1 (1 : Int32) := by
  rcases h with rfl | rfl | rfl | rfl | rfl | rfl | rfl | rfl | rfl <;> decide
theorem own_in0 {s1 e1 : Int32} (hs : s1 = (0 : Int32) ∨ s1 = (1 : Int32) ∨ s1 = (2 : Int32) ∨ s1 = (3 : Int32) ∨ s1 = (4 : Int32) ∨ s1 = (5 : Int32) ∨ s1 = (6 : Int32) ∨ s1 = (7 : Int32) ∨ s1 = (8 : Int32)) (he : e1 = (0 : Int32) ∨ e1 = (1 : Int32) ∨ e1 = (2 : Int32) ∨ e1 = (3 : Int32) ∨ e1 = (4 : Int32) ∨ e1 = (5 : Int32) ∨ e1 = (6 : Int32) ∨ e1 = (7 : Int32) ∨ e1 = (8 : Int32)) (h1 : ¬ (0 : Int32) < s1) (h2 : (0 : Int32) < e1) : ¬ own_len s1 (0 : Int32) < 0 ∧ own_len s1 (0 : Int32) < (e1 - s1) := by
  rcases hs with (rfl | rfl | rfl | rfl | rfl | rfl | rfl | rfl | rfl) <;> rcases he with (rfl | rfl | rfl | rfl | rfl | rfl | rfl | rfl | rfl) <;> first | decide | exact absurd (by decide) h1 | exact absurd h2 (by decide)
theorem own_st1 {s1 : Int32} (h : s1 = (0 : Int32) ∨ s1 = (1 : Int32) ∨ s1 = (2 : Int32) ∨ s1 = (3 : Int32) ∨ s1 = (4 : Int32) ∨ s1 = (5 : Int32) ∨ s1 = (6 : Int32) ∨ s1 = (7 : Int32) ∨ s1 = (8 : Int32)) : own_len s1 (1 : Int32) = own_len s1 (2 : Int32) := by
  rcases h with rfl | rfl | rfl | rfl | rfl | rfl | rfl | rfl | rfl <;> decide
theorem own_st2 {s1 : Int32} (h : s1 = (0 : Int32) ∨ s1 = (1 : Int32) ∨ s1 = (2 : Int32) ∨ s1 = (3 : Int32) ∨ s1 = (4 : Int32) ∨ s1 = (5 : Int32) ∨ s1 = (6 : Int32) ∨ s1 = (7 : Int32) ∨ s1 = (8 : Int32)) : (own_len s1 (2 : Int32) + (1 : Int32)) = own_len s1 (3 : Int32) := by
  rcases h with rfl | rfl | rfl | rfl | rfl | rfl | rfl | rfl | rfl <;> decide
theorem own_in2 {s1 e1 : Int32} (hs : s1 = (0 : Int32) ∨ s1 = (1 : Int32) ∨ s1 = (2 : Int32) ∨ s1 = (3 : Int32) ∨ s1 = (4 : Int32) ∨ s1 = (5 : Int32) ∨ s1 = (6 : Int32) ∨ s1 = (7 : Int32) ∨ s1 = (8 : Int32)) (he : e1 = (0 : Int32) ∨ e1 = (1 : Int32) ∨ e1 = (2 : Int32) ∨ e1 = (3 : Int32) ∨ e1 = (4 : Int32) ∨ e1 = (5 : Int32) ∨ e1 = (6 : Int32) ∨ e1 = (7 : Int32) ∨ e1 = (8 : Int32)) (h1 : ¬ (2 : Int32) < s1) (h2 : (2 : Int32) < e1) : ¬ own_len s1 (2 : Int32) < 0 ∧ own_len s1 (2 : Int32) < (e1 - s1) := by
  rcases hs with (rfl | rfl | rfl | rfl | rfl | rfl | rfl | rfl | rfl) <;> rcases he with (rfl | rfl | rfl | rfl | rfl | rfl | rfl | rfl | rfl) <;> first | decide | exact absurd (by decide) h1 | exact absurd h2 (by decide)
theorem own_st3 {s1 : Int32} (h : s1 = (0 : Int32) ∨ s1 = (1 : Int32) ∨ s1 = (2 : Int32) ∨ s1 = (3 : Int32) ∨ s1 = (4 : Int32) ∨ s1 = (5 : Int32) ∨ s1 = (6 : Int32) ∨ s1 = (7 : Int32) ∨ s1 = (8 : Int32)) : own_len s1 (3 : Int32) = own_len s1 (4 : Int32) := by
  rcases h with rfl | rfl | rfl | rfl | rfl | rfl | rfl | rfl | rfl <;> decide
theorem own_st4 {s1 : Int32} (h : s1 = (0 : Int32) ∨ s1 = (1 : Int32) ∨ s1 = (2 : Int32) ∨ s1 = (3 : Int32) ∨ s1 = (4 : Int32) ∨ s1 = (5 : Int32) ∨ s1 = (6 : Int32) ∨ s1 = (7 : Int32) ∨ s1 = (8 : Int32)) : (own_len s1 (4 : Int32) + (1 : Int32)) = own_len s1 (5 : Int32) := by
  rcases h with rfl | rfl | rfl | rfl | rfl | rfl | rfl | rfl | rfl <;> decide
theorem own_in4 {s1 e1 : Int32} (hs : s1 = (0 : Int32) ∨ s1 = (1 : Int32) ∨ s1 = (2 : Int32) ∨ s1 = (3 : Int32) ∨ s1 = (4 : Int32) ∨ s1 = (5 : Int32) ∨ s1 = (6 : Int32) ∨ s1 = (7 : Int32) ∨ s1 = (8 : Int32)) (he : e1 = (0 : Int32) ∨ e1 = (1 : Int32) ∨ e1 = (2 : Int32) ∨ e1 = (3 : Int32) ∨ e1 = (4 : Int32) ∨ e1 = (5 : Int32) ∨ e1 = (6 : Int32) ∨ e1 = (7 : Int32) ∨ e1 = (8 : Int32)) (h1 : ¬ (4 : Int32) < s1) (h2 : (4 : Int32) < e1) : ¬ own_len s1 (4 : Int32) < 0 ∧ own_len s1 (4 : Int32) < (e1 - s1) := by
  rcases hs with (rfl | rfl | rfl | rfl | rfl | rfl | rfl | rfl | rfl) <;> rcases he with (rfl | rfl | rfl | rfl | rfl | rfl | rfl | rfl | rfl) <;> first | decide | exact absurd (by decide) h1 | exact absurd h2 (by decide)
theorem own_st5 {s1 : Int32} (h : s1 = (0 : Int32) ∨ s1 = (1 : Int32) ∨ s1 = (2 : Int32) ∨ s1 = (3 : Int32) ∨ s1 = (4 : Int32) ∨ s1 = (5 : Int32) ∨ s1 = (6 : Int32) ∨ s1 = (7 : Int32) ∨ s1 = (8 : Int32)) : own_len s1 (5 : Int32) = own_len s1 (6 : Int32) := by
  rcases h with rfl | rfl | rfl | rfl | rfl | rfl | rfl | rfl | rfl <;> decide
theorem own_st6 {s1 : Int32} (h : s1 = (0 : Int32) ∨ s1 = (1 : Int32) ∨ s1 = (2 : Int32) ∨ s1 = (3 : Int32) ∨ s1 = (4 : Int32) ∨ s1 = (5 : Int32) ∨ s1 = (6 : Int32) ∨ s1 = (7 : Int32) ∨ s1 = (8 : Int32)) : (own_len s1 (6 : Int32) + (1 : Int32)) = own_len s1 (7 : Int32) := by
  rcases h with rfl | rfl | rfl | rfl | rfl | rfl | rfl | rfl | rfl <;> decide
theorem own_in6 {s1 e1 : Int32} (hs : s1 = (0 : Int32) ∨ s1 = (1 : Int32) ∨ s1 = (2 : Int32) ∨ s1 = (3 : Int32) ∨ s1 = (4 : Int32) ∨ s1 = (5 : Int32) ∨ s1 = (6 : Int32) ∨ s1 = (7 : Int32) ∨ s1 = (8 : Int32)) (he : e1 = (0 : Int32) ∨ e1 = (1 : Int32) ∨ e1 = (2 : Int32) ∨ e1 = (3 : Int32) ∨ e1 = (4 : Int32) ∨ e1 = (5 : Int32) ∨ e1 = (6 : Int32) ∨ e1 = (7 : Int32) ∨ e1 = (8 : Int32)) (h1 : ¬ (6 : Int32) < s1) (h2 : (6 : Int32) < e1) : ¬ own_len s1 (6 : Int32) < 0 ∧ own_len s1 (6 : Int32) < (e1 - s1) := by
  rcases hs with (rfl | rfl | rfl | rfl | rfl | rfl | rfl | rfl | rfl) <;> rcases he with (rfl | rfl | rfl | rfl | rfl | rfl | rfl | rfl | rfl) <;> first | decide | exact absurd (by decide) h1 | exact absurd h2 (by decide)
theorem own_st7 {s1 : Int32} (h : s1 = (0 : Int32) ∨ s1 = (1 : Int32) ∨ s1 = (2 : Int32) ∨ s1 = (3 : Int32) ∨ s1 = (4 : Int32) ∨ s1 = (5 : Int32) ∨ s1 = (6 : Int32) ∨ s1 = (7 : Int32) ∨ s1 = (8 : Int32)) : own_len s1 (7 : Int32) = own_len s1 (8 : Int32) := by
  rcases h with rfl | rfl | rfl | rfl | rfl | rfl | rfl | rfl | rfl <;> decide
theorem dc21_48 : decode prog_47_method_10_code 48 = .ok (.iload 7, 2) := by decide +kernel
theorem dc21_50 : decode prog_47_method_10_code 50 = .ok (.iload_n 3, 1) := by decide +kernel
theorem dc21_51 : decode prog_47_method_10_code 51 = .ok (.if_icmp .ge 94, 3) := by decide +kernel
set_option maxRecDepth 65536 in
set_option maxHeartbeats 40000000 in
theorem lp8 {p : Program} {l : Launch} {e : Env} {s : State} {m : MethodId} {args : Array Value} {below : List Frame} {meth : Method} {c : Code} {T0 : State} {locs : List Loc} {Z : State} {a0 : Array Value} {h0 : Heap} {n0 : Nat} (a1 c1 b1 : Addr) (k1 : ClassId) (s1 e1 x5 : Int32) (w8 : Slot)
    (X0 : Stand p l e ({ frames := 3, cells := 2, slots := 16, locals := 37 } : Room) s m args below meth c T0 locs 1 8) (hx : p.tables.exec = Jvm.exec) (hZ : Z.Warmed39 s.vm) (hw : ∀ d ∈ tables_1, d.before a0 Z = true) (hby : c.code = prog_47_method_10_code) (hml : c.maxLocals = 9) (hown : s.vm.findClass "com/example/keyfold/keyfold/JsonValue" = some m.cls) (e0 : T0.heap = h0) (N0 : Fr n0 locs) (O0 : Old Z n0 h0) (hw8 : One w8) (hs0 : ¬ s1 < (0 : Int32)) (hse : ¬ e1 < s1) (he8 : ¬ (8 : Int32) < e1) (hsk : ¬ (8 : Int32) < s1) (hke : ¬ e1 < (8 : Int32)) (h5 : x5 = own_len s1 (8 : Int32)) (Vc : Arv Z h0 c1 k1 .byte (8 : Int32) [(.int (49 : Int32)), (.int (32 : Int32)), (.int (50 : Int32)), (.int (32 : Int32)), (.int (51 : Int32)), (.int (32 : Int32)), (.int (52 : Int32)), (.int (32 : Int32))] (.int (0 : Int32))) (Vb : By Z h0 b1 (e1 - s1)) (nebc : c1 ≠ b1) (gb : n0 ≤ b1) :
    ∃ (T' : State) (h' : Heap) (L' : List Loc) (x7 : Int32) (w8' : Slot), Stand p l e ({ frames := 3, cells := 2, slots := 16, locals := 37 } : Room) s m args below meth c T' L' 1 8 ∧ T'.heap = h' ∧ Fr n0 L' ∧ Keep h0 h' [b1] ∧ By Z h' b1 (e1 - s1) ∧ One w8' ∧ ∀ t, Steps p.tables e below (T'.setTop (mkF m 145 #[.val (.ref a1), .val (.ref c1), .val (.int s1), .val (.int e1), .val (.ref b1), .val (.int (own_len s1 e1)), .val (.int (0 : Int32)), .val (.int x7), w8'] [])) t → Steps p.tables e below (T0.setTop (mkF m 48 #[.val (.ref a1), .val (.ref c1), .val (.int s1), .val (.int e1), .val (.ref b1), .val (.int x5), .val (.int (0 : Int32)), .val (.int (8 : Int32)), w8] [])) t := by
  have pre0 : ∀ t, Steps p.tables e below (T0.setTop (mkF m 48 #[.val (.ref a1), .val (.ref c1), .val (.int s1), .val (.int e1), .val (.ref b1), .val (.int x5), .val (.int (0 : Int32)), .val (.int (8 : Int32)), w8] [])) t → Steps p.tables e below (T0.setTop (mkF m 48 #[.val (.ref a1), .val (.ref c1), .val (.int s1), .val (.int e1), .val (.ref b1), .val (.int x5), .val (.int (0 : Int32)), .val (.int (8 : Int32)), w8] [])) t := fun _ k => k
  have pre101 : ∀ t, Steps p.tables e below (T0.setTop (mkF m 145 #[.val (.ref a1), .val (.ref c1), .val (.int s1), .val (.int e1), .val (.ref b1), .val (.int x5), .val (.int (0 : Int32)), .val (.int (8 : Int32)), w8] [])) t → Steps p.tables e below (T0.setTop (mkF m 48 #[.val (.ref a1), .val (.ref c1), .val (.int s1), .val (.int e1), .val (.ref b1), .val (.int x5), .val (.int (0 : Int32)), .val (.int (8 : Int32)), w8] [])) t := fun t kt => pre0 t (by
      show Steps p.tables e below (T0.setTop (mkF m 48 #[.val (.ref a1), .val (.ref c1), .val (.int s1), .val (.int e1), .val (.ref b1), .val (.int x5), .val (.int (0 : Int32)), .val (.int (8 : Int32)), w8] [])) _
      refine XS.iload X0.here hx rfl (hb hby dc21_48) rfl ?_
      show Steps p.tables e below (T0.setTop (mkF m 50 #[.val (.ref a1), .val (.ref c1), .val (.int s1), .val (.int e1), .val (.ref b1), .val (.int x5), .val (.int (0 : Int32)), .val (.int (8 : Int32)), w8] [(.int (8 : Int32))])) _
      refine XS.iloadN X0.here hx rfl (hb hby dc21_50) rfl ?_
      show Steps p.tables e below (T0.setTop (mkF m 51 #[.val (.ref a1), .val (.ref c1), .val (.int s1), .val (.int e1), .val (.ref b1), .val (.int x5), .val (.int (0 : Int32)), .val (.int (8 : Int32)), w8] [(.int e1), (.int (8 : Int32))])) _
      refine XS.icmpYes X0.here hx rfl (pc0 := 51) (pc' := 145) rfl (hb hby dc21_51) rfl (flt he8).2.1 (by decide) (by decide) ?_
      exact kt)
  have he : e1 = (8 : Int32) := own_anti hke he8
  have h5e : x5 = own_len s1 e1 := by rw [he]; exact h5
  exact ⟨_, _, _, (8 : Int32), w8, X0, e0, N0, (Keep.refl h0 [b1]), Vb, hw8, fun t kt => by rw [← h5e] at kt; exact pre101 t kt⟩
theorem dc21_54 : decode prog_47_method_10_code 54 = .ok (.aload_n 1, 1) := by decide +kernel
theorem dc21_55 : decode prog_47_method_10_code 55 = .ok (.iload 7, 2) := by decide +kernel
theorem dc21_57 : decode prog_47_method_10_code 57 = .ok (.baload, 1) := by decide +kernel
theorem dc21_58 : decode prog_47_method_10_code 58 = .ok (.istore 8, 2) := by decide +kernel
theorem os_0 {z0 : Value} {z1 : Value} {z2 : Value} {z3 : Value} {z4 : Value} {z5 : Value} {z6 : Value} {z7 : Value} {s8 : Slot} {v : Int32} (h : One s8) : storeLocals #[.val z0, .val z1, .val z2, .val z3, .val z4, .val z5, .val z6, .val z7, s8] 8 (.int v) = some #[.val z0, .val z1, .val z2, .val z3, .val z4, .val z5, .val z6, .val z7, .val (.int v)] := by
  rcases h with rfl | ⟨w, rfl, hw⟩
  · rfl
  · cases w <;> first | rfl | (simp [Value.category] at hw)
theorem dc21_60 : decode prog_47_method_10_code 60 = .ok (.iload 6, 2) := by decide +kernel
theorem dc21_62 : decode prog_47_method_10_code 62 = .ok (.ifCond .eq 41, 3) := by decide +kernel
theorem dc21_103 : decode prog_47_method_10_code 103 = .ok (.iload 8, 2) := by decide +kernel
theorem dc21_105 : decode prog_47_method_10_code 105 = .ok (.bipush 34, 2) := by decide +kernel
theorem dc21_107 : decode prog_47_method_10_code 107 = .ok (.if_icmp .ne 9, 3) := by decide +kernel
theorem dc21_116 : decode prog_47_method_10_code 116 = .ok (.iload 8, 2) := by decide +kernel
theorem dc21_118 : decode prog_47_method_10_code 118 = .ok (.invokestatic 129, 3) := by decide +kernel
theorem pd_8 : parseMethodDescriptor "(B)Z" = some ⟨[.byte], some .boolean⟩ := by decide +kernel
theorem dc21_121 : decode prog_47_method_10_code 121 = .ok (.ifCond .eq 6, 3) := by decide +kernel
theorem dc21_124 : decode prog_47_method_10_code 124 = .ok (.goto 15, 3) := by decide +kernel
theorem dc21_139 : decode prog_47_method_10_code 139 = .ok (.iinc 7 1, 3) := by decide +kernel
theorem dc21_142 : decode prog_47_method_10_code 142 = .ok (.goto (-94), 3) := by decide +kernel
set_option maxRecDepth 65536 in
set_option maxHeartbeats 40000000 in
theorem lp7 {p : Program} {l : Launch} {e : Env} {s : State} {m : MethodId} {args : Array Value} {below : List Frame} {meth : Method} {c : Code} {T0 : State} {locs : List Loc} {Z : State} {a0 : Array Value} {h0 : Heap} {n0 : Nat} (a1 c1 b1 : Addr) (k1 : ClassId) (s1 e1 x5 : Int32) (w8 : Slot)
    (X0 : Stand p l e ({ frames := 3, cells := 2, slots := 16, locals := 37 } : Room) s m args below meth c T0 locs 1 8) (hx : p.tables.exec = Jvm.exec) (hZ : Z.Warmed39 s.vm) (hw : ∀ d ∈ tables_1, d.before a0 Z = true) (hby : c.code = prog_47_method_10_code) (hml : c.maxLocals = 9) (hown : s.vm.findClass "com/example/keyfold/keyfold/JsonValue" = some m.cls) (e0 : T0.heap = h0) (N0 : Fr n0 locs) (O0 : Old Z n0 h0) (hw8 : One w8) (hs0 : ¬ s1 < (0 : Int32)) (hse : ¬ e1 < s1) (he8 : ¬ (8 : Int32) < e1) (hsk : ¬ (7 : Int32) < s1) (hke : ¬ e1 < (7 : Int32)) (h5 : x5 = own_len s1 (7 : Int32)) (Vc : Arv Z h0 c1 k1 .byte (8 : Int32) [(.int (49 : Int32)), (.int (32 : Int32)), (.int (50 : Int32)), (.int (32 : Int32)), (.int (51 : Int32)), (.int (32 : Int32)), (.int (52 : Int32)), (.int (32 : Int32))] (.int (0 : Int32))) (Vb : By Z h0 b1 (e1 - s1)) (nebc : c1 ≠ b1) (gb : n0 ≤ b1) :
    ∃ (T' : State) (h' : Heap) (L' : List Loc) (x7 : Int32) (w8' : Slot), Stand p l e ({ frames := 3, cells := 2, slots := 16, locals := 37 } : Room) s m args below meth c T' L' 1 8 ∧ T'.heap = h' ∧ Fr n0 L' ∧ Keep h0 h' [b1] ∧ By Z h' b1 (e1 - s1) ∧ One w8' ∧ ∀ t, Steps p.tables e below (T'.setTop (mkF m 145 #[.val (.ref a1), .val (.ref c1), .val (.int s1), .val (.int e1), .val (.ref b1), .val (.int (own_len s1 e1)), .val (.int (0 : Int32)), .val (.int x7), w8'] [])) t → Steps p.tables e below (T0.setTop (mkF m 48 #[.val (.ref a1), .val (.ref c1), .val (.int s1), .val (.int e1), .val (.ref b1), .val (.int x5), .val (.int (0 : Int32)), .val (.int (7 : Int32)), w8] [])) t := by
  have pre0 : ∀ t, Steps p.tables e below (T0.setTop (mkF m 48 #[.val (.ref a1), .val (.ref c1), .val (.int s1), .val (.int e1), .val (.ref b1), .val (.int x5), .val (.int (0 : Int32)), .val (.int (7 : Int32)), w8] [])) t → Steps p.tables e below (T0.setTop (mkF m 48 #[.val (.ref a1), .val (.ref c1), .val (.int s1), .val (.int e1), .val (.ref b1), .val (.int x5), .val (.int (0 : Int32)), .val (.int (7 : Int32)), w8] [])) t := fun _ k => k
  have pre101 : ∀ t, Steps p.tables e below (T0.setTop (mkF m 51 #[.val (.ref a1), .val (.ref c1), .val (.int s1), .val (.int e1), .val (.ref b1), .val (.int x5), .val (.int (0 : Int32)), .val (.int (7 : Int32)), w8] [(.int e1), (.int (7 : Int32))])) t → Steps p.tables e below (T0.setTop (mkF m 48 #[.val (.ref a1), .val (.ref c1), .val (.int s1), .val (.int e1), .val (.ref b1), .val (.int x5), .val (.int (0 : Int32)), .val (.int (7 : Int32)), w8] [])) t := fun t kt => pre0 t (by
      show Steps p.tables e below (T0.setTop (mkF m 48 #[.val (.ref a1), .val (.ref c1), .val (.int s1), .val (.int e1), .val (.ref b1), .val (.int x5), .val (.int (0 : Int32)), .val (.int (7 : Int32)), w8] [])) _
      refine XS.iload X0.here hx rfl (hb hby dc21_48) rfl ?_
      show Steps p.tables e below (T0.setTop (mkF m 50 #[.val (.ref a1), .val (.ref c1), .val (.int s1), .val (.int e1), .val (.ref b1), .val (.int x5), .val (.int (0 : Int32)), .val (.int (7 : Int32)), w8] [(.int (7 : Int32))])) _
      refine XS.iloadN X0.here hx rfl (hb hby dc21_50) rfl ?_
      exact kt)
  by_cases hc102 : (7 : Int32) < e1
  · skip
    obtain ⟨cl103, Ar103, q103, S103, N103_, H103, G103⟩ := id Vc
    have hin103 : ¬ ((7 : Int32) < 0 ∨ cl103.slots.size ≤ ((7 : Int32)).toNatClampNeg) := inb_of S103 ⟨by decide, by decide⟩
    have hat103 : cl103.slots[((7 : Int32)).toNatClampNeg]? = some (.int (32 : Int32)) := H103.at hin103 rfl
    obtain ⟨_, _, ⟨T104, L104, k104, n104⟩, -, X104, ⟨Lc104, hQ104, l104, y104, z104⟩, st104⟩ := Jvm.LawKit.callS X0 hx (y := (⟨"com/example/keyfold/keyfold/JsonParser", "isWhitespace", "(B)Z"⟩ : MethodName)) hown (mvT hZ (hw _ (List.mem_of_getElem? (i := 141) rfl))) (mvT hZ (hw _ (List.mem_of_getElem? (i := 142) rfl))) (mvT hZ (hw _ (List.mem_of_getElem? (i := 143) rfl))) (mvT hZ (hw _ (List.mem_of_getElem? (i := 144) rfl))) (by decide) (backOf (W := 0) (rmWs32 l Z a0 hw [] h0 n0 O0) hZ (hw _ (List.mem_of_getElem? (i := 144) rfl)) (hw _ (List.mem_of_getElem? (i := 143) rfl)) (by decide) (by decide)) (g := (mkF m 118 #[.val (.ref a1), .val (.ref c1), .val (.int s1), .val (.int e1), .val (.ref b1), .val (.int x5), .val (.int (0 : Int32)), .val (.int (7 : Int32)), .val (.int (32 : Int32))] [(.int (32 : Int32))])) rfl (by rw [hml]; rfl) (argsL := [(.int (32 : Int32))]) (rest := []) (lenOf pd_8 rfl) rfl (by show 2 * 0 + _ ≤ _; exact Nat.le_of_eq rfl) (hb hby dc21_118) (fun _ _ => ⟨rfl, e0, (by decide : 1 + 0 ≤ _), (by decide : 8 + 0 ≤ _)⟩)
    dsimp only [Pt.U, Pt.locs, Pt.cells, Pt.slots] at X104 l104 y104 z104 st104 hQ104
    subst l104 y104 z104
    obtain ⟨rfl, N104q, hh104⟩ := hQ104
    have N104 := Fr.app N0 N104q
    have pre105 : ∀ t, Steps p.tables e below (T104.setTop (mkF m 48 #[.val (.ref a1), .val (.ref c1), .val (.int s1), .val (.int e1), .val (.ref b1), .val (.int x5), .val (.int (0 : Int32)), .val (.int (8 : Int32)), .val (.int (32 : Int32))] [])) t → Steps p.tables e below (T0.setTop (mkF m 48 #[.val (.ref a1), .val (.ref c1), .val (.int s1), .val (.int e1), .val (.ref b1), .val (.int x5), .val (.int (0 : Int32)), .val (.int (7 : Int32)), w8] [])) t := fun t kt => pre101 t (by
        show Steps p.tables e below (T0.setTop (mkF m 51 #[.val (.ref a1), .val (.ref c1), .val (.int s1), .val (.int e1), .val (.ref b1), .val (.int x5), .val (.int (0 : Int32)), .val (.int (7 : Int32)), w8] [(.int e1), (.int (7 : Int32))])) _
        refine XS.icmpNo X0.here hx rfl (hb hby dc21_51) rfl (tlt hc102).2.1 ?_
        show Steps p.tables e below (T0.setTop (mkF m 54 #[.val (.ref a1), .val (.ref c1), .val (.int s1), .val (.int e1), .val (.ref b1), .val (.int x5), .val (.int (0 : Int32)), .val (.int (7 : Int32)), w8] [])) _
        refine XS.aloadN X0.here hx rfl (hb hby dc21_54) rfl rfl ?_
        show Steps p.tables e below (T0.setTop (mkF m 55 #[.val (.ref a1), .val (.ref c1), .val (.int s1), .val (.int e1), .val (.ref b1), .val (.int x5), .val (.int (0 : Int32)), .val (.int (7 : Int32)), w8] [(.ref c1)])) _
        refine XS.iload X0.here hx rfl (hb hby dc21_55) rfl ?_
        show Steps p.tables e below (T0.setTop (mkF m 57 #[.val (.ref a1), .val (.ref c1), .val (.int s1), .val (.int e1), .val (.ref b1), .val (.int x5), .val (.int (0 : Int32)), .val (.int (7 : Int32)), w8] [(.int (7 : Int32)), (.ref c1)])) _
        refine X0.baloadBytes hx (j := (7 : Int32)) (v := (.int (32 : Int32))) (by rw [e0]; exact Ar103.1) (State.isArrayOf_alike hZ.alike Ar103.2.1) Ar103.2.2 hin103 hat103 (g := (mkF m 57 #[.val (.ref a1), .val (.ref c1), .val (.int s1), .val (.int e1), .val (.ref b1), .val (.int x5), .val (.int (0 : Int32)), .val (.int (7 : Int32)), w8] [(.int (7 : Int32)), (.ref c1)])) rfl rfl (hb hby dc21_57) _ ?_
        show Steps p.tables e below (T0.setTop (mkF m 58 #[.val (.ref a1), .val (.ref c1), .val (.int s1), .val (.int e1), .val (.ref b1), .val (.int x5), .val (.int (0 : Int32)), .val (.int (7 : Int32)), w8] [(.int (32 : Int32))])) _
        refine XS.istore X0.here hx rfl (hb hby dc21_58) rfl (l' := #[.val (.ref a1), .val (.ref c1), .val (.int s1), .val (.int e1), .val (.ref b1), .val (.int x5), .val (.int (0 : Int32)), .val (.int (7 : Int32)), .val (.int (32 : Int32))]) (os_0 hw8) ?_
        show Steps p.tables e below (T0.setTop (mkF m 60 #[.val (.ref a1), .val (.ref c1), .val (.int s1), .val (.int e1), .val (.ref b1), .val (.int x5), .val (.int (0 : Int32)), .val (.int (7 : Int32)), .val (.int (32 : Int32))] [])) _
        refine XS.iload X0.here hx rfl (hb hby dc21_60) rfl ?_
        show Steps p.tables e below (T0.setTop (mkF m 62 #[.val (.ref a1), .val (.ref c1), .val (.int s1), .val (.int e1), .val (.ref b1), .val (.int x5), .val (.int (0 : Int32)), .val (.int (7 : Int32)), .val (.int (32 : Int32))] [(.int (0 : Int32))])) _
        refine XS.ifYes X0.here hx rfl (pc0 := 62) (pc' := 103) rfl (hb hby dc21_62) rfl (by decide) (by decide) (by decide) ?_
        show Steps p.tables e below (T0.setTop (mkF m 103 #[.val (.ref a1), .val (.ref c1), .val (.int s1), .val (.int e1), .val (.ref b1), .val (.int x5), .val (.int (0 : Int32)), .val (.int (7 : Int32)), .val (.int (32 : Int32))] [])) _
        refine XS.iload X0.here hx rfl (hb hby dc21_103) rfl ?_
        show Steps p.tables e below (T0.setTop (mkF m 105 #[.val (.ref a1), .val (.ref c1), .val (.int s1), .val (.int e1), .val (.ref b1), .val (.int x5), .val (.int (0 : Int32)), .val (.int (7 : Int32)), .val (.int (32 : Int32))] [(.int (32 : Int32))])) _
        refine XS.bipush X0.here hx rfl (hb hby dc21_105) ?_
        show Steps p.tables e below (T0.setTop (mkF m 107 #[.val (.ref a1), .val (.ref c1), .val (.int s1), .val (.int e1), .val (.ref b1), .val (.int x5), .val (.int (0 : Int32)), .val (.int (7 : Int32)), .val (.int (32 : Int32))] [(.int (34 : Int32)), (.int (32 : Int32))])) _
        refine XS.icmpYes X0.here hx rfl (pc0 := 107) (pc' := 116) rfl (hb hby dc21_107) rfl (by decide) (by decide) (by decide) ?_
        show Steps p.tables e below (T0.setTop (mkF m 116 #[.val (.ref a1), .val (.ref c1), .val (.int s1), .val (.int e1), .val (.ref b1), .val (.int x5), .val (.int (0 : Int32)), .val (.int (7 : Int32)), .val (.int (32 : Int32))] [])) _
        refine XS.iload X0.here hx rfl (hb hby dc21_116) rfl ?_
        show Steps p.tables e below (T0.setTop (mkF m 118 #[.val (.ref a1), .val (.ref c1), .val (.int s1), .val (.int e1), .val (.ref b1), .val (.int x5), .val (.int (0 : Int32)), .val (.int (7 : Int32)), .val (.int (32 : Int32))] [(.int (32 : Int32))])) _
        refine st104 _ ?_
        show Steps p.tables e below (T104.setTop (mkF m 121 #[.val (.ref a1), .val (.ref c1), .val (.int s1), .val (.int e1), .val (.ref b1), .val (.int x5), .val (.int (0 : Int32)), .val (.int (7 : Int32)), .val (.int (32 : Int32))] [(.int (1 : Int32))])) _
        refine XS.ifNo X104.here hx rfl (hb hby dc21_121) rfl (by decide) ?_
        show Steps p.tables e below (T104.setTop (mkF m 124 #[.val (.ref a1), .val (.ref c1), .val (.int s1), .val (.int e1), .val (.ref b1), .val (.int x5), .val (.int (0 : Int32)), .val (.int (7 : Int32)), .val (.int (32 : Int32))] [])) _
        refine XS.goto X104.here hx rfl (pc0 := 124) (pc' := 139) rfl (hb hby dc21_124) (by decide) (by decide) ?_
        show Steps p.tables e below (T104.setTop (mkF m 139 #[.val (.ref a1), .val (.ref c1), .val (.int s1), .val (.int e1), .val (.ref b1), .val (.int x5), .val (.int (0 : Int32)), .val (.int (7 : Int32)), .val (.int (32 : Int32))] [])) _
        refine XS.iinc X104.here hx rfl (hb hby dc21_139) rfl (l' := #[.val (.ref a1), .val (.ref c1), .val (.int s1), .val (.int e1), .val (.ref b1), .val (.int x5), .val (.int (0 : Int32)), .val (.int (8 : Int32)), .val (.int (32 : Int32))]) rfl ?_
        show Steps p.tables e below (T104.setTop (mkF m 142 #[.val (.ref a1), .val (.ref c1), .val (.int s1), .val (.int e1), .val (.ref b1), .val (.int x5), .val (.int (0 : Int32)), .val (.int (8 : Int32)), .val (.int (32 : Int32))] [])) _
        refine XS.goto X104.here hx rfl (pc0 := 142) (pc' := 48) rfl (hb hby dc21_142) (by decide) (by decide) ?_
        exact kt)
    obtain ⟨T', h', L', x7', w8', X', e', N', K', V', o8', st'⟩ := lp8 a1 c1 b1 k1 s1 e1 x5 (.val (.int (32 : Int32))) X104 hx hZ hw hby hml hown hh104 N104 O0 (One.val rfl) hs0 hse he8 (own_up2 hsk (by decide)) (own_up hc102 (by decide)) (by rw [h5]; exact own_st7 (own_se hs0 hse he8).1) Vc Vb nebc gb
    have K106 : Keep h0 h' [b1] := (Keep.trans (Keep.refl h0 [b1]) K' (allS (P := fun x => x ∈ [b1] ∨ h0.size ≤ x) (Or.inl (List.mem_of_getElem? (i := 0) rfl)) all0))
    exact ⟨T', h', L', x7', w8', X', e', N', K106, V', o8', fun t kt => pre105 t (st' t kt)⟩
  · skip
    have pre107 : ∀ t, Steps p.tables e below (T0.setTop (mkF m 145 #[.val (.ref a1), .val (.ref c1), .val (.int s1), .val (.int e1), .val (.ref b1), .val (.int x5), .val (.int (0 : Int32)), .val (.int (7 : Int32)), w8] [])) t → Steps p.tables e below (T0.setTop (mkF m 48 #[.val (.ref a1), .val (.ref c1), .val (.int s1), .val (.int e1), .val (.ref b1), .val (.int x5), .val (.int (0 : Int32)), .val (.int (7 : Int32)), w8] [])) t := fun t kt => pre101 t (by
        show Steps p.tables e below (T0.setTop (mkF m 51 #[.val (.ref a1), .val (.ref c1), .val (.int s1), .val (.int e1), .val (.ref b1), .val (.int x5), .val (.int (0 : Int32)), .val (.int (7 : Int32)), w8] [(.int e1), (.int (7 : Int32))])) _
        refine XS.icmpYes X0.here hx rfl (pc0 := 51) (pc' := 145) rfl (hb hby dc21_51) rfl (flt hc102).2.1 (by decide) (by decide) ?_
        exact kt)
    have he : e1 = (7 : Int32) := own_anti hke hc102
    have h5e : x5 = own_len s1 e1 := by rw [he]; exact h5
    exact ⟨_, _, _, (7 : Int32), w8, X0, e0, N0, (Keep.refl h0 [b1]), Vb, hw8, fun t kt => by rw [← h5e] at kt; exact pre107 t kt⟩
theorem dc21_127 : decode prog_47_method_10_code 127 = .ok (.aload 4, 2) := by decide +kernel
theorem dc21_129 : decode prog_47_method_10_code 129 = .ok (.iload 5, 2) := by decide +kernel
theorem dc21_131 : decode prog_47_method_10_code 131 = .ok (.iinc 5 1, 3) := by decide +kernel
theorem dc21_134 : decode prog_47_method_10_code 134 = .ok (.aload_n 1, 1) := by decide +kernel
theorem dc21_135 : decode prog_47_method_10_code 135 = .ok (.iload 7, 2) := by decide +kernel
theorem dc21_137 : decode prog_47_method_10_code 137 = .ok (.baload, 1) := by decide +kernel
theorem dc21_138 : decode prog_47_method_10_code 138 = .ok (.bastore, 1) := by decide +kernel
set_option maxRecDepth 65536 in
set_option maxHeartbeats 40000000 in
theorem lp6 {p : Program} {l : Launch} {e : Env} {s : State} {m : MethodId} {args : Array Value} {below : List Frame} {meth : Method} {c : Code} {T0 : State} {locs : List Loc} {Z : State} {a0 : Array Value} {h0 : Heap} {n0 : Nat} (a1 c1 b1 : Addr) (k1 : ClassId) (s1 e1 x5 : Int32) (w8 : Slot)
    (X0 : Stand p l e ({ frames := 3, cells := 2, slots := 16, locals := 37 } : Room) s m args below meth c T0 locs 1 8) (hx : p.tables.exec = Jvm.exec) (hZ : Z.Warmed39 s.vm) (hw : ∀ d ∈ tables_1, d.before a0 Z = true) (hby : c.code = prog_47_method_10_code) (hml : c.maxLocals = 9) (hown : s.vm.findClass "com/example/keyfold/keyfold/JsonValue" = some m.cls) (e0 : T0.heap = h0) (N0 : Fr n0 locs) (O0 : Old Z n0 h0) (hw8 : One w8) (hs0 : ¬ s1 < (0 : Int32)) (hse : ¬ e1 < s1) (he8 : ¬ (8 : Int32) < e1) (hsk : ¬ (6 : Int32) < s1) (hke : ¬ e1 < (6 : Int32)) (h5 : x5 = own_len s1 (6 : Int32)) (Vc : Arv Z h0 c1 k1 .byte (8 : Int32) [(.int (49 : Int32)), (.int (32 : Int32)), (.int (50 : Int32)), (.int (32 : Int32)), (.int (51 : Int32)), (.int (32 : Int32)), (.int (52 : Int32)), (.int (32 : Int32))] (.int (0 : Int32))) (Vb : By Z h0 b1 (e1 - s1)) (nebc : c1 ≠ b1) (gb : n0 ≤ b1) :
    ∃ (T' : State) (h' : Heap) (L' : List Loc) (x7 : Int32) (w8' : Slot), Stand p l e ({ frames := 3, cells := 2, slots := 16, locals := 37 } : Room) s m args below meth c T' L' 1 8 ∧ T'.heap = h' ∧ Fr n0 L' ∧ Keep h0 h' [b1] ∧ By Z h' b1 (e1 - s1) ∧ One w8' ∧ ∀ t, Steps p.tables e below (T'.setTop (mkF m 145 #[.val (.ref a1), .val (.ref c1), .val (.int s1), .val (.int e1), .val (.ref b1), .val (.int (own_len s1 e1)), .val (.int (0 : Int32)), .val (.int x7), w8'] [])) t → Steps p.tables e below (T0.setTop (mkF m 48 #[.val (.ref a1), .val (.ref c1), .val (.int s1), .val (.int e1), .val (.ref b1), .val (.int x5), .val (.int (0 : Int32)), .val (.int (6 : Int32)), w8] [])) t := by
  have pre0 : ∀ t, Steps p.tables e below (T0.setTop (mkF m 48 #[.val (.ref a1), .val (.ref c1), .val (.int s1), .val (.int e1), .val (.ref b1), .val (.int x5), .val (.int (0 : Int32)), .val (.int (6 : Int32)), w8] [])) t → Steps p.tables e below (T0.setTop (mkF m 48 #[.val (.ref a1), .val (.ref c1), .val (.int s1), .val (.int e1), .val (.ref b1), .val (.int x5), .val (.int (0 : Int32)), .val (.int (6 : Int32)), w8] [])) t := fun _ k => k
  have pre101 : ∀ t, Steps p.tables e below (T0.setTop (mkF m 51 #[.val (.ref a1), .val (.ref c1), .val (.int s1), .val (.int e1), .val (.ref b1), .val (.int x5), .val (.int (0 : Int32)), .val (.int (6 : Int32)), w8] [(.int e1), (.int (6 : Int32))])) t → Steps p.tables e below (T0.setTop (mkF m 48 #[.val (.ref a1), .val (.ref c1), .val (.int s1), .val (.int e1), .val (.ref b1), .val (.int x5), .val (.int (0 : Int32)), .val (.int (6 : Int32)), w8] [])) t := fun t kt => pre0 t (by
      show Steps p.tables e below (T0.setTop (mkF m 48 #[.val (.ref a1), .val (.ref c1), .val (.int s1), .val (.int e1), .val (.ref b1), .val (.int x5), .val (.int (0 : Int32)), .val (.int (6 : Int32)), w8] [])) _
      refine XS.iload X0.here hx rfl (hb hby dc21_48) rfl ?_
      show Steps p.tables e below (T0.setTop (mkF m 50 #[.val (.ref a1), .val (.ref c1), .val (.int s1), .val (.int e1), .val (.ref b1), .val (.int x5), .val (.int (0 : Int32)), .val (.int (6 : Int32)), w8] [(.int (6 : Int32))])) _
      refine XS.iloadN X0.here hx rfl (hb hby dc21_50) rfl ?_
      exact kt)
  by_cases hc102 : (6 : Int32) < e1
  · skip
    obtain ⟨cl103, Ar103, q103, S103, N103_, H103, G103⟩ := id Vc
    have hin103 : ¬ ((6 : Int32) < 0 ∨ cl103.slots.size ≤ ((6 : Int32)).toNatClampNeg) := inb_of S103 ⟨by decide, by decide⟩
    have hat103 : cl103.slots[((6 : Int32)).toNatClampNeg]? = some (.int (52 : Int32)) := H103.at hin103 rfl
    obtain ⟨_, _, ⟨T104, L104, k104, n104⟩, -, X104, ⟨Lc104, hQ104, l104, y104, z104⟩, st104⟩ := Jvm.LawKit.callS X0 hx (y := (⟨"com/example/keyfold/keyfold/JsonParser", "isWhitespace", "(B)Z"⟩ : MethodName)) hown (mvT hZ (hw _ (List.mem_of_getElem? (i := 141) rfl))) (mvT hZ (hw _ (List.mem_of_getElem? (i := 142) rfl))) (mvT hZ (hw _ (List.mem_of_getElem? (i := 143) rfl))) (mvT hZ (hw _ (List.mem_of_getElem? (i := 144) rfl))) (by decide) (backOf (W := 0) (rmWs52 l Z a0 hw [] h0 n0 O0) hZ (hw _ (List.mem_of_getElem? (i := 144) rfl)) (hw _ (List.mem_of_getElem? (i := 143) rfl)) (by decide) (by decide)) (g := (mkF m 118 #[.val (.ref a1), .val (.ref c1), .val (.int s1), .val (.int e1), .val (.ref b1), .val (.int x5), .val (.int (0 : Int32)), .val (.int (6 : Int32)), .val (.int (52 : Int32))] [(.int (52 : Int32))])) rfl (by rw [hml]; rfl) (argsL := [(.int (52 : Int32))]) (rest := []) (lenOf pd_8 rfl) rfl (by show 2 * 0 + _ ≤ _; exact Nat.le_of_eq rfl) (hb hby dc21_118) (fun _ _ => ⟨rfl, e0, (by decide : 1 + 0 ≤ _), (by decide : 8 + 0 ≤ _)⟩)
    dsimp only [Pt.U, Pt.locs, Pt.cells, Pt.slots] at X104 l104 y104 z104 st104 hQ104
    subst l104 y104 z104
    obtain ⟨rfl, N104q, hh104⟩ := hQ104
    have N104 := Fr.app N0 N104q
    obtain ⟨cl105, Ar105, q105, S105, N105_, H105, G105⟩ := id Vc
    have hin105 : ¬ ((6 : Int32) < 0 ∨ cl105.slots.size ≤ ((6 : Int32)).toNatClampNeg) := inb_of S105 ⟨by decide, by decide⟩
    have hat105 : cl105.slots[((6 : Int32)).toNatClampNeg]? = some (.int (52 : Int32)) := H105.at hin105 rfl
    obtain ⟨cl106, Ar106, hin106, up106⟩ := By.up (j := x5) Vb (by rw [h5]; exact own_in6 (own_se hs0 hse he8).1 (own_se hs0 hse he8).2 hsk hc102)
    obtain ⟨T107, h107, X107, e107, W107, st107⟩ := stB X104 hx hZ hh104 Ar106 (j := x5) hin106 (g := (mkF m 138 #[.val (.ref a1), .val (.ref c1), .val (.int s1), .val (.int e1), .val (.ref b1), .val (.int (x5 + (1 : Int32))), .val (.int (0 : Int32)), .val (.int (6 : Int32)), .val (.int (52 : Int32))] [(.int (52 : Int32)), (.int x5), (.ref b1)])) rfl rfl (hb hby dc21_138)
    have V107 : By Z h107 b1 (e1 - s1) := up106 _ _ W107
    have N107 := Fr.snoc X107 N104 gb
    have pre108 : ∀ t, Steps p.tables e below (T107.setTop (mkF m 48 #[.val (.ref a1), .val (.ref c1), .val (.int s1), .val (.int e1), .val (.ref b1), .val (.int (x5 + (1 : Int32))), .val (.int (0 : Int32)), .val (.int (7 : Int32)), .val (.int (52 : Int32))] [])) t → Steps p.tables e below (T0.setTop (mkF m 48 #[.val (.ref a1), .val (.ref c1), .val (.int s1), .val (.int e1), .val (.ref b1), .val (.int x5), .val (.int (0 : Int32)), .val (.int (6 : Int32)), w8] [])) t := fun t kt => pre101 t (by
        show Steps p.tables e below (T0.setTop (mkF m 51 #[.val (.ref a1), .val (.ref c1), .val (.int s1), .val (.int e1), .val (.ref b1), .val (.int x5), .val (.int (0 : Int32)), .val (.int (6 : Int32)), w8] [(.int e1), (.int (6 : Int32))])) _
        refine XS.icmpNo X0.here hx rfl (hb hby dc21_51) rfl (tlt hc102).2.1 ?_
        show Steps p.tables e below (T0.setTop (mkF m 54 #[.val (.ref a1), .val (.ref c1), .val (.int s1), .val (.int e1), .val (.ref b1), .val (.int x5), .val (.int (0 : Int32)), .val (.int (6 : Int32)), w8] [])) _
        refine XS.aloadN X0.here hx rfl (hb hby dc21_54) rfl rfl ?_
        show Steps p.tables e below (T0.setTop (mkF m 55 #[.val (.ref a1), .val (.ref c1), .val (.int s1), .val (.int e1), .val (.ref b1), .val (.int x5), .val (.int (0 : Int32)), .val (.int (6 : Int32)), w8] [(.ref c1)])) _
        refine XS.iload X0.here hx rfl (hb hby dc21_55) rfl ?_
        show Steps p.tables e below (T0.setTop (mkF m 57 #[.val (.ref a1), .val (.ref c1), .val (.int s1), .val (.int e1), .val (.ref b1), .val (.int x5), .val (.int (0 : Int32)), .val (.int (6 : Int32)), w8] [(.int (6 : Int32)), (.ref c1)])) _
        refine X0.baloadBytes hx (j := (6 : Int32)) (v := (.int (52 : Int32))) (by rw [e0]; exact Ar103.1) (State.isArrayOf_alike hZ.alike Ar103.2.1) Ar103.2.2 hin103 hat103 (g := (mkF m 57 #[.val (.ref a1), .val (.ref c1), .val (.int s1), .val (.int e1), .val (.ref b1), .val (.int x5), .val (.int (0 : Int32)), .val (.int (6 : Int32)), w8] [(.int (6 : Int32)), (.ref c1)])) rfl rfl (hb hby dc21_57) _ ?_
        show Steps p.tables e below (T0.setTop (mkF m 58 #[.val (.ref a1), .val (.ref c1), .val (.int s1), .val (.int e1), .val (.ref b1), .val (.int x5), .val (.int (0 : Int32)), .val (.int (6 : Int32)), w8] [(.int (52 : Int32))])) _
        refine XS.istore X0.here hx rfl (hb hby dc21_58) rfl (l' := #[.val (.ref a1), .val (.ref c1), .val (.int s1), .val (.int e1), .val (.ref b1), .val (.int x5), .val (.int (0 : Int32)), .val (.int (6 : Int32)), .val (.int (52 : Int32))]) (os_0 hw8) ?_
        show Steps p.tables e below (T0.setTop (mkF m 60 #[.val (.ref a1), .val (.ref c1), .val (.int s1), .val (.int e1), .val (.ref b1), .val (.int x5), .val (.int (0 : Int32)), .val (.int (6 : Int32)), .val (.int (52 : Int32))] [])) _
        refine XS.iload X0.here hx rfl (hb hby dc21_60) rfl ?_
        show Steps p.tables e below (T0.setTop (mkF m 62 #[.val (.ref a1), .val (.ref c1), .val (.int s1), .val (.int e1), .val (.ref b1), .val (.int x5), .val (.int (0 : Int32)), .val (.int (6 : Int32)), .val (.int (52 : Int32))] [(.int (0 : Int32))])) _
        refine XS.ifYes X0.here hx rfl (pc0 := 62) (pc' := 103) rfl (hb hby dc21_62) rfl (by decide) (by decide) (by decide) ?_
        show Steps p.tables e below (T0.setTop (mkF m 103 #[.val (.ref a1), .val (.ref c1), .val (.int s1), .val (.int e1), .val (.ref b1), .val (.int x5), .val (.int (0 : Int32)), .val (.int (6 : Int32)), .val (.int (52 : Int32))] [])) _
        refine XS.iload X0.here hx rfl (hb hby dc21_103) rfl ?_
        show Steps p.tables e below (T0.setTop (mkF m 105 #[.val (.ref a1), .val (.ref c1), .val (.int s1), .val (.int e1), .val (.ref b1), .val (.int x5), .val (.int (0 : Int32)), .val (.int (6 : Int32)), .val (.int (52 : Int32))] [(.int (52 : Int32))])) _
        refine XS.bipush X0.here hx rfl (hb hby dc21_105) ?_
        show Steps p.tables e below (T0.setTop (mkF m 107 #[.val (.ref a1), .val (.ref c1), .val (.int s1), .val (.int e1), .val (.ref b1), .val (.int x5), .val (.int (0 : Int32)), .val (.int (6 : Int32)), .val (.int (52 : Int32))] [(.int (34 : Int32)), (.int (52 : Int32))])) _
        refine XS.icmpYes X0.here hx rfl (pc0 := 107) (pc' := 116) rfl (hb hby dc21_107) rfl (by decide) (by decide) (by decide) ?_
        show Steps p.tables e below (T0.setTop (mkF m 116 #[.val (.ref a1), .val (.ref c1), .val (.int s1), .val (.int e1), .val (.ref b1), .val (.int x5), .val (.int (0 : Int32)), .val (.int (6 : Int32)), .val (.int (52 : Int32))] [])) _
        refine XS.iload X0.here hx rfl (hb hby dc21_116) rfl ?_
        show Steps p.tables e below (T0.setTop (mkF m 118 #[.val (.ref a1), .val (.ref c1), .val (.int s1), .val (.int e1), .val (.ref b1), .val (.int x5), .val (.int (0 : Int32)), .val (.int (6 : Int32)), .val (.int (52 : Int32))] [(.int (52 : Int32))])) _
        refine st104 _ ?_
        show Steps p.tables e below (T104.setTop (mkF m 121 #[.val (.ref a1), .val (.ref c1), .val (.int s1), .val (.int e1), .val (.ref b1), .val (.int x5), .val (.int (0 : Int32)), .val (.int (6 : Int32)), .val (.int (52 : Int32))] [(.int (0 : Int32))])) _
        refine XS.ifYes X104.here hx rfl (pc0 := 121) (pc' := 127) rfl (hb hby dc21_121) rfl (by decide) (by decide) (by decide) ?_
        show Steps p.tables e below (T104.setTop (mkF m 127 #[.val (.ref a1), .val (.ref c1), .val (.int s1), .val (.int e1), .val (.ref b1), .val (.int x5), .val (.int (0 : Int32)), .val (.int (6 : Int32)), .val (.int (52 : Int32))] [])) _
        refine XS.aload X104.here hx rfl (hb hby dc21_127) rfl rfl ?_
        show Steps p.tables e below (T104.setTop (mkF m 129 #[.val (.ref a1), .val (.ref c1), .val (.int s1), .val (.int e1), .val (.ref b1), .val (.int x5), .val (.int (0 : Int32)), .val (.int (6 : Int32)), .val (.int (52 : Int32))] [(.ref b1)])) _
        refine XS.iload X104.here hx rfl (hb hby dc21_129) rfl ?_
        show Steps p.tables e below (T104.setTop (mkF m 131 #[.val (.ref a1), .val (.ref c1), .val (.int s1), .val (.int e1), .val (.ref b1), .val (.int x5), .val (.int (0 : Int32)), .val (.int (6 : Int32)), .val (.int (52 : Int32))] [(.int x5), (.ref b1)])) _
        refine XS.iinc X104.here hx rfl (hb hby dc21_131) rfl (l' := #[.val (.ref a1), .val (.ref c1), .val (.int s1), .val (.int e1), .val (.ref b1), .val (.int (x5 + (1 : Int32))), .val (.int (0 : Int32)), .val (.int (6 : Int32)), .val (.int (52 : Int32))]) rfl ?_
        show Steps p.tables e below (T104.setTop (mkF m 134 #[.val (.ref a1), .val (.ref c1), .val (.int s1), .val (.int e1), .val (.ref b1), .val (.int (x5 + (1 : Int32))), .val (.int (0 : Int32)), .val (.int (6 : Int32)), .val (.int (52 : Int32))] [(.int x5), (.ref b1)])) _
        refine XS.aloadN X104.here hx rfl (hb hby dc21_134) rfl rfl ?_
        show Steps p.tables e below (T104.setTop (mkF m 135 #[.val (.ref a1), .val (.ref c1), .val (.int s1), .val (.int e1), .val (.ref b1), .val (.int (x5 + (1 : Int32))), .val (.int (0 : Int32)), .val (.int (6 : Int32)), .val (.int (52 : Int32))] [(.ref c1), (.int x5), (.ref b1)])) _
        refine XS.iload X104.here hx rfl (hb hby dc21_135) rfl ?_
        show Steps p.tables e below (T104.setTop (mkF m 137 #[.val (.ref a1), .val (.ref c1), .val (.int s1), .val (.int e1), .val (.ref b1), .val (.int (x5 + (1 : Int32))), .val (.int (0 : Int32)), .val (.int (6 : Int32)), .val (.int (52 : Int32))] [(.int (6 : Int32)), (.ref c1), (.int x5), (.ref b1)])) _
        refine X104.baloadBytes hx (j := (6 : Int32)) (v := (.int (52 : Int32))) (by rw [hh104]; exact Ar105.1) (State.isArrayOf_alike hZ.alike Ar105.2.1) Ar105.2.2 hin105 hat105 (g := (mkF m 137 #[.val (.ref a1), .val (.ref c1), .val (.int s1), .val (.int e1), .val (.ref b1), .val (.int (x5 + (1 : Int32))), .val (.int (0 : Int32)), .val (.int (6 : Int32)), .val (.int (52 : Int32))] [(.int (6 : Int32)), (.ref c1), (.int x5), (.ref b1)])) rfl rfl (hb hby dc21_137) _ ?_
        show Steps p.tables e below (T104.setTop (mkF m 138 #[.val (.ref a1), .val (.ref c1), .val (.int s1), .val (.int e1), .val (.ref b1), .val (.int (x5 + (1 : Int32))), .val (.int (0 : Int32)), .val (.int (6 : Int32)), .val (.int (52 : Int32))] [(.int (52 : Int32)), (.int x5), (.ref b1)])) _
        refine st107 _ ?_
        show Steps p.tables e below (T107.setTop (mkF m 139 #[.val (.ref a1), .val (.ref c1), .val (.int s1), .val (.int e1), .val (.ref b1), .val (.int (x5 + (1 : Int32))), .val (.int (0 : Int32)), .val (.int (6 : Int32)), .val (.int (52 : Int32))] [])) _
        refine XS.iinc X107.here hx rfl (hb hby dc21_139) rfl (l' := #[.val (.ref a1), .val (.ref c1), .val (.int s1), .val (.int e1), .val (.ref b1), .val (.int (x5 + (1 : Int32))), .val (.int (0 : Int32)), .val (.int (7 : Int32)), .val (.int (52 : Int32))]) rfl ?_
        show Steps p.tables e below (T107.setTop (mkF m 142 #[.val (.ref a1), .val (.ref c1), .val (.int s1), .val (.int e1), .val (.ref b1), .val (.int (x5 + (1 : Int32))), .val (.int (0 : Int32)), .val (.int (7 : Int32)), .val (.int (52 : Int32))] [])) _
        refine XS.goto X107.here hx rfl (pc0 := 142) (pc' := 48) rfl (hb hby dc21_142) (by decide) (by decide) ?_
        exact kt)
    have O109 : Old Z n0 h107 := (O0.wr W107 gb)
    have f110 := (Vc.other W107 nebc)
    obtain ⟨T', h', L', x7', w8', X', e', N', K', V', o8', st'⟩ := lp7 a1 c1 b1 k1 s1 e1 (x5 + (1 : Int32)) (.val (.int (52 : Int32))) X107 hx hZ hw hby hml hown e107 N107 O109 (One.val rfl) hs0 hse he8 (own_up2 hsk (by decide)) (own_up hc102 (by decide)) (by rw [h5]; exact own_st6 (own_se hs0 hse he8).1) f110 V107 nebc gb
    have K111 : Keep h0 h' [b1] := (Keep.trans (Keep.wr (Keep.refl h0 [b1]) W107 (Or.inl (List.mem_of_getElem? (i := 0) rfl))) K' (allS (P := fun x => x ∈ [b1] ∨ h0.size ≤ x) (Or.inl (List.mem_of_getElem? (i := 0) rfl)) all0))
    exact ⟨T', h', L', x7', w8', X', e', N', K111, V', o8', fun t kt => pre108 t (st' t kt)⟩
  · skip
    have pre112 : ∀ t, Steps p.tables e below (T0.setTop (mkF m 145 #[.val (.ref a1), .val (.ref c1), .val (.int s1), .val (.int e1), .val (.ref b1), .val (.int x5), .val (.int (0 : Int32)), .val (.int (6 : Int32)), w8] [])) t → Steps p.tables e below (T0.setTop (mkF m 48 #[.val (.ref a1), .val (.ref c1), .val (.int s1), .val (.int e1), .val (.ref b1), .val (.int x5), .val (.int (0 : Int32)), .val (.int (6 : Int32)), w8] [])) t := fun t kt => pre101 t (by
        show Steps p.tables e below (T0.setTop (mkF m 51 #[.val (.ref a1), .val (.ref c1), .val (.int s1), .val (.int e1), .val (.ref b1), .val (.int x5), .val (.int (0 : Int32)), .val (.int (6 : Int32)), w8] [(.int e1), (.int (6 : Int32))])) _
        refine XS.icmpYes X0.here hx rfl (pc0 := 51) (pc' := 145) rfl (hb hby dc21_51) rfl (flt hc102).2.1 (by decide) (by decide) ?_
        exact kt)
    have he : e1 = (6 : Int32) := own_anti hke hc102
    have h5e : x5 = own_len s1 e1 := by rw [he]; exact h5
    exact ⟨_, _, _, (6 : Int32), w8, X0, e0, N0, (Keep.refl h0 [b1]), Vb, hw8, fun t kt => by rw [← h5e] at kt; exact pre112 t kt⟩
set_option maxRecDepth 65536 in
set_option maxHeartbeats 40000000 in
theorem lp5 {p : Program} {l : Launch} {e : Env} {s : State} {m : MethodId} {args : Array Value} {below : List Frame} {meth : Method} {c : Code} {T0 : State} {locs : List Loc} {Z : State} {a0 : Array Value} {h0 : Heap} {n0 : Nat} (a1 c1 b1 : Addr) (k1 : ClassId) (s1 e1 x5 : Int32) (w8 : Slot)
    (X0 : Stand p l e ({ frames := 3, cells := 2, slots := 16, locals := 37 } : Room) s m args below meth c T0 locs 1 8) (hx : p.tables.exec = Jvm.exec) (hZ : Z.Warmed39 s.vm) (hw : ∀ d ∈ tables_1, d.before a0 Z = true) (hby : c.code = prog_47_method_10_code) (hml : c.maxLocals = 9) (hown : s.vm.findClass "com/example/keyfold/keyfold/JsonValue" = some m.cls) (e0 : T0.heap = h0) (N0 : Fr n0 locs) (O0 : Old Z n0 h0) (hw8 : One w8) (hs0 : ¬ s1 < (0 : Int32)) (hse : ¬ e1 < s1) (he8 : ¬ (8 : Int32) < e1) (hsk : ¬ (5 : Int32) < s1) (hke : ¬ e1 < (5 : Int32)) (h5 : x5 = own_len s1 (5 : Int32)) (Vc : Arv Z h0 c1 k1 .byte (8 : Int32) [(.int (49 : Int32)), (.int (32 : Int32)), (.int (50 : Int32)), (.int (32 : Int32)), (.int (51 : Int32)), (.int (32 : Int32)), (.int (52 : Int32)), (.int (32 : Int32))] (.int (0 : Int32))) (Vb : By Z h0 b1 (e1 - s1)) (nebc : c1 ≠ b1) (gb : n0 ≤ b1) :
    ∃ (T' : State) (h' : Heap) (L' : List Loc) (x7 : Int32) (w8' : Slot), Stand p l e ({ frames := 3, cells := 2, slots := 16, locals := 37 } : Room) s m args below meth c T' L' 1 8 ∧ T'.heap = h' ∧ Fr n0 L' ∧ Keep h0 h' [b1] ∧ By Z h' b1 (e1 - s1) ∧ One w8' ∧ ∀ t, Steps p.tables e below (T'.setTop (mkF m 145 #[.val (.ref a1), .val (.ref c1), .val (.int s1), .val (.int e1), .val (.ref b1), .val (.int (own_len s1 e1)), .val (.int (0 : Int32)), .val (.int x7), w8'] [])) t → Steps p.tables e below (T0.setTop (mkF m 48 #[.val (.ref a1), .val (.ref c1), .val (.int s1), .val (.int e1), .val (.ref b1), .val (.int x5), .val (.int (0 : Int32)), .val (.int (5 : Int32)), w8] [])) t := by
  have pre0 : ∀ t, Steps p.tables e below (T0.setTop (mkF m 48 #[.val (.ref a1), .val (.ref c1), .val (.int s1), .val (.int e1), .val (.ref b1), .val (.int x5), .val (.int (0 : Int32)), .val (.int (5 : Int32)), w8] [])) t → Steps p.tables e below (T0.setTop (mkF m 48 #[.val (.ref a1), .val (.ref c1), .val (.int s1), .val (.int e1), .val (.ref b1), .val (.int x5), .val (.int (0 : Int32)), .val (.int (5 : Int32)), w8] [])) t := fun _ k => k
  have pre101 : ∀ t, Steps p.tables e below (T0.setTop (mkF m 51 #[.val (.ref a1), .val (.ref c1), .val (.int s1), .val (.int e1), .val (.ref b1), .val (.int x5), .val (.int (0 : Int32)), .val (.int (5 : Int32)), w8] [(.int e1), (.int (5 : Int32))])) t → Steps p.tables e below (T0.setTop (mkF m 48 #[.val (.ref a1), .val (.ref c1), .val (.int s1), .val (.int e1), .val (.ref b1), .val (.int x5), .val (.int (0 : Int32)), .val (.int (5 : Int32)), w8] [])) t := fun t kt => pre0 t (by
      show Steps p.tables e below (T0.setTop (mkF m 48 #[.val (.ref a1), .val (.ref c1), .val (.int s1), .val (.int e1), .val (.ref b1), .val (.int x5), .val (.int (0 : Int32)), .val (.int (5 : Int32)), w8] [])) _
      refine XS.iload X0.here hx rfl (hb hby dc21_48) rfl ?_
      show Steps p.tables e below (T0.setTop (mkF m 50 #[.val (.ref a1), .val (.ref c1), .val (.int s1), .val (.int e1), .val (.ref b1), .val (.int x5), .val (.int (0 : Int32)), .val (.int (5 : Int32)), w8] [(.int (5 : Int32))])) _
      refine XS.iloadN X0.here hx rfl (hb hby dc21_50) rfl ?_
      exact kt)
  by_cases hc102 : (5 : Int32) < e1
  · skip
    obtain ⟨cl103, Ar103, q103, S103, N103_, H103, G103⟩ := id Vc
    have hin103 : ¬ ((5 : Int32) < 0 ∨ cl103.slots.size ≤ ((5 : Int32)).toNatClampNeg) := inb_of S103 ⟨by decide, by decide⟩
    have hat103 : cl103.slots[((5 : Int32)).toNatClampNeg]? = some (.int (32 : Int32)) := H103.at hin103 rfl
    obtain ⟨_, _, ⟨T104, L104, k104, n104⟩, -, X104, ⟨Lc104, hQ104, l104, y104, z104⟩, st104⟩ := Jvm.LawKit.callS X0 hx (y := (⟨"com/example/keyfold/keyfold/JsonParser", "isWhitespace", "(B)Z"⟩ : MethodName)) hown (mvT hZ (hw _ (List.mem_of_getElem? (i := 141) rfl))) (mvT hZ (hw _ (List.mem_of_getElem? (i := 142) rfl))) (mvT hZ (hw _ (List.mem_of_getElem? (i := 143) rfl))) (mvT hZ (hw _ (List.mem_of_getElem? (i := 144) rfl))) (by decide) (backOf (W := 0) (rmWs32 l Z a0 hw [] h0 n0 O0) hZ (hw _ (List.mem_of_getElem? (i := 144) rfl)) (hw _ (List.mem_of_getElem? (i := 143) rfl)) (by decide) (by decide)) (g := (mkF m 118 #[.val (.ref a1), .val (.ref c1), .val (.int s1), .val (.int e1), .val (.ref b1), .val (.int x5), .val (.int (0 : Int32)), .val (.int (5 : Int32)), .val (.int (32 : Int32))] [(.int (32 : Int32))])) rfl (by rw [hml]; rfl) (argsL := [(.int (32 : Int32))]) (rest := []) (lenOf pd_8 rfl) rfl (by show 2 * 0 + _ ≤ _; exact Nat.le_of_eq rfl) (hb hby dc21_118) (fun _ _ => ⟨rfl, e0, (by decide : 1 + 0 ≤ _), (by decide : 8 + 0 ≤ _)⟩)
    dsimp only [Pt.U, Pt.locs, Pt.cells, Pt.slots] at X104 l104 y104 z104 st104 hQ104
    subst l104 y104 z104
    obtain ⟨rfl, N104q, hh104⟩ := hQ104
    have N104 := Fr.app N0 N104q
    have pre105 : ∀ t, Steps p.tables e below (T104.setTop (mkF m 48 #[.val (.ref a1), .val (.ref c1), .val (.int s1), .val (.int e1), .val (.ref b1), .val (.int x5), .val (.int (0 : Int32)), .val (.int (6 : Int32)), .val (.int (32 : Int32))] [])) t → Steps p.tables e below (T0.setTop (mkF m 48 #[.val (.ref a1), .val (.ref c1), .val (.int s1), .val (.int e1), .val (.ref b1), .val (.int x5), .val (.int (0 : Int32)), .val (.int (5 : Int32)), w8] [])) t := fun t kt => pre101 t (by
        show Steps p.tables e below (T0.setTop (mkF m 51 #[.val (.ref a1), .val (.ref c1), .val (.int s1), .val (.int e1), .val (.ref b1), .val (.int x5), .val (.int (0 : Int32)), .val (.int (5 : Int32)), w8] [(.int e1), (.int (5 : Int32))])) _
        refine XS.icmpNo X0.here hx rfl (hb hby dc21_51) rfl (tlt hc102).2.1 ?_
        show Steps p.tables e below (T0.setTop (mkF m 54 #[.val (.ref a1), .val (.ref c1), .val (.int s1), .val (.int e1), .val (.ref b1), .val (.int x5), .val (.int (0 : Int32)), .val (.int (5 : Int32)), w8] [])) _
        refine XS.aloadN X0.here hx rfl (hb hby dc21_54) rfl rfl ?_
        show Steps p.tables e below (T0.setTop (mkF m 55 #[.val (.ref a1), .val (.ref c1), .val (.int s1), .val (.int e1), .val (.ref b1), .val (.int x5), .val (.int (0 : Int32)), .val (.int (5 : Int32)), w8] [(.ref c1)])) _
        refine XS.iload X0.here hx rfl (hb hby dc21_55) rfl ?_
        show Steps p.tables e below (T0.setTop (mkF m 57 #[.val (.ref a1), .val (.ref c1), .val (.int s1), .val (.int e1), .val (.ref b1), .val (.int x5), .val (.int (0 : Int32)), .val (.int (5 : Int32)), w8] [(.int (5 : Int32)), (.ref c1)])) _
        refine X0.baloadBytes hx (j := (5 : Int32)) (v := (.int (32 : Int32))) (by rw [e0]; exact Ar103.1) (State.isArrayOf_alike hZ.alike Ar103.2.1) Ar103.2.2 hin103 hat103 (g := (mkF m 57 #[.val (.ref a1), .val (.ref c1), .val (.int s1), .val (.int e1), .val (.ref b1), .val (.int x5), .val (.int (0 : Int32)), .val (.int (5 : Int32)), w8] [(.int (5 : Int32)), (.ref c1)])) rfl rfl (hb hby dc21_57) _ ?_
        show Steps p.tables e below (T0.setTop (mkF m 58 #[.val (.ref a1), .val (.ref c1), .val (.int s1), .val (.int e1), .val (.ref b1), .val (.int x5), .val (.int (0 : Int32)), .val (.int (5 : Int32)), w8] [(.int (32 : Int32))])) _
        refine XS.istore X0.here hx rfl (hb hby dc21_58) rfl (l' := #[.val (.ref a1), .val (.ref c1), .val (.int s1), .val (.int e1), .val (.ref b1), .val (.int x5), .val (.int (0 : Int32)), .val (.int (5 : Int32)), .val (.int (32 : Int32))]) (os_0 hw8) ?_
        show Steps p.tables e below (T0.setTop (mkF m 60 #[.val (.ref a1), .val (.ref c1), .val (.int s1), .val (.int e1), .val (.ref b1), .val (.int x5), .val (.int (0 : Int32)), .val (.int (5 : Int32)), .val (.int (32 : Int32))] [])) _
        refine XS.iload X0.here hx rfl (hb hby dc21_60) rfl ?_
        show Steps p.tables e below (T0.setTop (mkF m 62 #[.val (.ref a1), .val (.ref c1), .val (.int s1), .val (.int e1), .val (.ref b1), .val (.int x5), .val (.int (0 : Int32)), .val (.int (5 : Int32)), .val (.int (32 : Int32))] [(.int (0 : Int32))])) _
        refine XS.ifYes X0.here hx rfl (pc0 := 62) (pc' := 103) rfl (hb hby dc21_62) rfl (by decide) (by decide) (by decide) ?_
        show Steps p.tables e below (T0.setTop (mkF m 103 #[.val (.ref a1), .val (.ref c1), .val (.int s1), .val (.int e1), .val (.ref b1), .val (.int x5), .val (.int (0 : Int32)), .val (.int (5 : Int32)), .val (.int (32 : Int32))] [])) _
        refine XS.iload X0.here hx rfl (hb hby dc21_103) rfl ?_
        show Steps p.tables e below (T0.setTop (mkF m 105 #[.val (.ref a1), .val (.ref c1), .val (.int s1), .val (.int e1), .val (.ref b1), .val (.int x5), .val (.int (0 : Int32)), .val (.int (5 : Int32)), .val (.int (32 : Int32))] [(.int (32 : Int32))])) _
        refine XS.bipush X0.here hx rfl (hb hby dc21_105) ?_
        show Steps p.tables e below (T0.setTop (mkF m 107 #[.val (.ref a1), .val (.ref c1), .val (.int s1), .val (.int e1), .val (.ref b1), .val (.int x5), .val (.int (0 : Int32)), .val (.int (5 : Int32)), .val (.int (32 : Int32))] [(.int (34 : Int32)), (.int (32 : Int32))])) _
        refine XS.icmpYes X0.here hx rfl (pc0 := 107) (pc' := 116) rfl (hb hby dc21_107) rfl (by decide) (by decide) (by decide) ?_
        show Steps p.tables e below (T0.setTop (mkF m 116 #[.val (.ref a1), .val (.ref c1), .val (.int s1), .val (.int e1), .val (.ref b1), .val (.int x5), .val (.int (0 : Int32)), .val (.int (5 : Int32)), .val (.int (32 : Int32))] [])) _
        refine XS.iload X0.here hx rfl (hb hby dc21_116) rfl ?_
        show Steps p.tables e below (T0.setTop (mkF m 118 #[.val (.ref a1), .val (.ref c1), .val (.int s1), .val (.int e1), .val (.ref b1), .val (.int x5), .val (.int (0 : Int32)), .val (.int (5 : Int32)), .val (.int (32 : Int32))] [(.int (32 : Int32))])) _
        refine st104 _ ?_
        show Steps p.tables e below (T104.setTop (mkF m 121 #[.val (.ref a1), .val (.ref c1), .val (.int s1), .val (.int e1), .val (.ref b1), .val (.int x5), .val (.int (0 : Int32)), .val (.int (5 : Int32)), .val (.int (32 : Int32))] [(.int (1 : Int32))])) _
        refine XS.ifNo X104.here hx rfl (hb hby dc21_121) rfl (by decide) ?_
        show Steps p.tables e below (T104.setTop (mkF m 124 #[.val (.ref a1), .val (.ref c1), .val (.int s1), .val (.int e1), .val (.ref b1), .val (.int x5), .val (.int (0 : Int32)), .val (.int (5 : Int32)), .val (.int (32 : Int32))] [])) _
        refine XS.goto X104.here hx rfl (pc0 := 124) (pc' := 139) rfl (hb hby dc21_124) (by decide) (by decide) ?_
        show Steps p.tables e below (T104.setTop (mkF m 139 #[.val (.ref a1), .val (.ref c1), .val (.int s1), .val (.int e1), .val (.ref b1), .val (.int x5), .val (.int (0 : Int32)), .val (.int (5 : Int32)), .val (.int (32 : Int32))] [])) _
        refine XS.iinc X104.here hx rfl (hb hby dc21_139) rfl (l' := #[.val (.ref a1), .val (.ref c1), .val (.int s1), .val (.int e1), .val (.ref b1), .val (.int x5), .val (.int (0 : Int32)), .val (.int (6 : Int32)), .val (.int (32 : Int32))]) rfl ?_
        show Steps p.tables e below (T104.setTop (mkF m 142 #[.val (.ref a1), .val (.ref c1), .val (.int s1), .val (.int e1), .val (.ref b1), .val (.int x5), .val (.int (0 : Int32)), .val (.int (6 : Int32)), .val (.int (32 : Int32))] [])) _
        refine XS.goto X104.here hx rfl (pc0 := 142) (pc' := 48) rfl (hb hby dc21_142) (by decide) (by decide) ?_
        exact kt)
    obtain ⟨T', h', L', x7', w8', X', e', N', K', V', o8', st'⟩ := lp6 a1 c1 b1 k1 s1 e1 x5 (.val (.int (32 : Int32))) X104 hx hZ hw hby hml hown hh104 N104 O0 (One.val rfl) hs0 hse he8 (own_up2 hsk (by decide)) (own_up hc102 (by decide)) (by rw [h5]; exact own_st5 (own_se hs0 hse he8).1) Vc Vb nebc gb
    have K106 : Keep h0 h' [b1] := (Keep.trans (Keep.refl h0 [b1]) K' (allS (P := fun x => x ∈ [b1] ∨ h0.size ≤ x) (Or.inl (List.mem_of_getElem? (i := 0) rfl)) all0))
    exact ⟨T', h', L', x7', w8', X', e', N', K106, V', o8', fun t kt => pre105 t (st' t kt)⟩
  · skip
    have pre107 : ∀ t, Steps p.tables e below (T0.setTop (mkF m 145 #[.val (.ref a1), .val (.ref c1), .val (.int s1), .val (.int e1), .val (.ref b1), .val (.int x5), .val (.int (0 : Int32)), .val (.int (5 : Int32)), w8] [])) t → Steps p.tables e below (T0.setTop (mkF m 48 #[.val (.ref a1), .val (.ref c1), .val (.int s1), .val (.int e1), .val (.ref b1), .val (.int x5), .val (.int (0 : Int32)), .val (.int (5 : Int32)), w8] [])) t := fun t kt => pre101 t (by
        show Steps p.tables e below (T0.setTop (mkF m 51 #[.val (.ref a1), .val (.ref c1), .val (.int s1), .val (.int e1), .val (.ref b1), .val (.int x5), .val (.int (0 : Int32)), .val (.int (5 : Int32)), w8] [(.int e1), (.int (5 : Int32))])) _
        refine XS.icmpYes X0.here hx rfl (pc0 := 51) (pc' := 145) rfl (hb hby dc21_51) rfl (flt hc102).2.1 (by decide) (by decide) ?_
        exact kt)
    have he : e1 = (5 : Int32) := own_anti hke hc102
    have h5e : x5 = own_len s1 e1 := by rw [he]; exact h5
    exact ⟨_, _, _, (5 : Int32), w8, X0, e0, N0, (Keep.refl h0 [b1]), Vb, hw8, fun t kt => by rw [← h5e] at kt; exact pre107 t kt⟩
set_option maxRecDepth 65536 in
set_option maxHeartbeats 40000000 in
theorem lp4 {p : Program} {l : Launch} {e : Env} {s : State} {m : MethodId} {args : Array Value} {below : List Frame} {meth : Method} {c : Code} {T0 : State} {locs : List Loc} {Z : State} {a0 : Array Value} {h0 : Heap} {n0 : Nat} (a1 c1 b1 : Addr) (k1 : ClassId) (s1 e1 x5 : Int32) (w8 : Slot)
    (X0 : Stand p l e ({ frames := 3, cells := 2, slots := 16, locals := 37 } : Room) s m args below meth c T0 locs 1 8) (hx : p.tables.exec = Jvm.exec) (hZ : Z.Warmed39 s.vm) (hw : ∀ d ∈ tables_1, d.before a0 Z = true) (hby : c.code = prog_47_method_10_code) (hml : c.maxLocals = 9) (hown : s.vm.findClass "com/example/keyfold/keyfold/JsonValue" = some m.cls) (e0 : T0.heap = h0) (N0 : Fr n0 locs) (O0 : Old Z n0 h0) (hw8 : One w8) (hs0 : ¬ s1 < (0 : Int32)) (hse : ¬ e1 < s1) (he8 : ¬ (8 : Int32) < e1) (hsk : ¬ (4 : Int32) < s1) (hke : ¬ e1 < (4 : Int32)) (h5 : x5 = own_len s1 (4 : Int32)) (Vc : Arv Z h0 c1 k1 .byte (8 : Int32) [(.int (49 : Int32)), (.int (32 : Int32)), (.int (50 : Int32)), (.int (32 : Int32)), (.int (51 : Int32)), (.int (32 : Int32)), (.int (52 : Int32)), (.int (32 : Int32))] (.int (0 : Int32))) (Vb : By Z h0 b1 (e1 - s1)) (nebc : c1 ≠ b1) (gb : n0 ≤ b1) :
    ∃ (T' : State) (h' : Heap) (L' : List Loc) (x7 : Int32) (w8' : Slot), Stand p l e ({ frames := 3, cells := 2, slots := 16, locals := 37 } : Room) s m args below meth c T' L' 1 8 ∧ T'.heap = h' ∧ Fr n0 L' ∧ Keep h0 h' [b1] ∧ By Z h' b1 (e1 - s1) ∧ One w8' ∧ ∀ t, Steps p.tables e below (T'.setTop (mkF m 145 #[.val (.ref a1), .val (.ref c1), .val (.int s1), .val (.int e1), .val (.ref b1), .val (.int (own_len s1 e1)), .val (.int (0 : Int32)), .val (.int x7), w8'] [])) t → Steps p.tables e below (T0.setTop (mkF m 48 #[.val (.ref a1), .val (.ref c1), .val (.int s1), .val (.int e1), .val (.ref b1), .val (.int x5), .val (.int (0 : Int32)), .val (.int (4 : Int32)), w8] [])) t := by
  have pre0 : ∀ t, Steps p.tables e below (T0.setTop (mkF m 48 #[.val (.ref a1), .val (.ref c1), .val (.int s1), .val (.int e1), .val (.ref b1), .val (.int x5), .val (.int (0 : Int32)), .val (.int (4 : Int32)), w8] [])) t → Steps p.tables e below (T0.setTop (mkF m 48 #[.val (.ref a1), .val (.ref c1), .val (.int s1), .val (.int e1), .val (.ref b1), .val (.int x5), .val (.int (0 : Int32)), .val (.int (4 : Int32)), w8] [])) t := fun _ k => k
  have pre101 : ∀ t, Steps p.tables e below (T0.setTop (mkF m 51 #[.val (.ref a1), .val (.ref c1), .val (.int s1), .val (.int e1), .val (.ref b1), .val (.int x5), .val (.int (0 : Int32)), .val (.int (4 : Int32)), w8] [(.int e1), (.int (4 : Int32))])) t → Steps p.tables e below (T0.setTop (mkF m 48 #[.val (.ref a1), .val (.ref c1), .val (.int s1), .val (.int e1), .val (.ref b1), .val (.int x5), .val (.int (0 : Int32)), .val (.int (4 : Int32)), w8] [])) t := fun t kt => pre0 t (by
      show Steps p.tables e below (T0.setTop (mkF m 48 #[.val (.ref a1), .val (.ref c1), .val (.int s1), .val (.int e1), .val (.ref b1), .val (.int x5), .val (.int (0 : Int32)), .val (.int (4 : Int32)), w8] [])) _
      refine XS.iload X0.here hx rfl (hb hby dc21_48) rfl ?_
      show Steps p.tables e below (T0.setTop (mkF m 50 #[.val (.ref a1), .val (.ref c1), .val (.int s1), .val (.int e1), .val (.ref b1), .val (.int x5), .val (.int (0 : Int32)), .val (.int (4 : Int32)), w8] [(.int (4 : Int32))])) _
      refine XS.iloadN X0.here hx rfl (hb hby dc21_50) rfl ?_
      exact kt)
  by_cases hc102 : (4 : Int32) < e1
  · skip
    obtain ⟨cl103, Ar103, q103, S103, N103_, H103, G103⟩ := id Vc
    have hin103 : ¬ ((4 : Int32) < 0 ∨ cl103.slots.size ≤ ((4 : Int32)).toNatClampNeg) := inb_of S103 ⟨by decide, by decide⟩
    have hat103 : cl103.slots[((4 : Int32)).toNatClampNeg]? = some (.int (51 : Int32)) := H103.at hin103 rfl
    obtain ⟨_, _, ⟨T104, L104, k104, n104⟩, -, X104, ⟨Lc104, hQ104, l104, y104, z104⟩, st104⟩ := Jvm.LawKit.callS X0 hx (y := (⟨"com/example/keyfold/keyfold/JsonParser", "isWhitespace", "(B)Z"⟩ : MethodName)) hown (mvT hZ (hw _ (List.mem_of_getElem? (i := 141) rfl))) (mvT hZ (hw _ (List.mem_of_getElem? (i := 142) rfl))) (mvT hZ (hw _ (List.mem_of_getElem? (i := 143) rfl))) (mvT hZ (hw _ (List.mem_of_getElem? (i := 144) rfl))) (by decide) (backOf (W := 0) (rmWs51 l Z a0 hw [] h0 n0 O0) hZ (hw _ (List.mem_of_getElem? (i := 144) rfl)) (hw _ (List.mem_of_getElem? (i := 143) rfl)) (by decide) (by decide)) (g := (mkF m 118 #[.val (.ref a1), .val (.ref c1), .val (.int s1), .val (.int e1), .val (.ref b1), .val (.int x5), .val (.int (0 : Int32)), .val (.int (4 : Int32)), .val (.int (51 : Int32))] [(.int (51 : Int32))])) rfl (by rw [hml]; rfl) (argsL := [(.int (51 : Int32))]) (rest := []) (lenOf pd_8 rfl) rfl (by show 2 * 0 + _ ≤ _; exact Nat.le_of_eq rfl) (hb hby dc21_118) (fun _ _ => ⟨rfl, e0, (by decide : 1 + 0 ≤ _), (by decide : 8 + 0 ≤ _)⟩)
    dsimp only [Pt.U, Pt.locs, Pt.cells, Pt.slots] at X104 l104 y104 z104 st104 hQ104
    subst l104 y104 z104
    obtain ⟨rfl, N104q, hh104⟩ := hQ104
    have N104 := Fr.app N0 N104q
    obtain ⟨cl105, Ar105, q105, S105, N105_, H105, G105⟩ := id Vc
    have hin105 : ¬ ((4 : Int32) < 0 ∨ cl105.slots.size ≤ ((4 : Int32)).toNatClampNeg) := inb_of S105 ⟨by decide, by decide⟩
    have hat105 : cl105.slots[((4 : Int32)).toNatClampNeg]? = some (.int (51 : Int32)) := H105.at hin105 rfl
    obtain ⟨cl106, Ar106, hin106, up106⟩ := By.up (j := x5) Vb (by rw [h5]; exact own_in4 (own_se hs0 hse he8).1 (own_se hs0 hse he8).2 hsk hc102)
    obtain ⟨T107, h107, X107, e107, W107, st107⟩ := stB X104 hx hZ hh104 Ar106 (j := x5) hin106 (g := (mkF m 138 #[.val (.ref a1), .val (.ref c1), .val (.int s1), .val (.int e1), .val (.ref b1), .val (.int (x5 + (1 : Int32))), .val (.int (0 : Int32)), .val (.int (4 : Int32)), .val (.int (51 : Int32))] [(.int (51 : Int32)), (.int x5), (.ref b1)])) rfl rfl (hb hby dc21_138)
    have V107 : By Z h107 b1 (e1 - s1) := up106 _ _ W107
    have N107 := Fr.snoc X107 N104 gb
    have pre108 : ∀ t, Steps p.tables e below (T107.setTop (mkF m 48 #[.val (.ref a1), .val (.ref c1), .val (.int s1), .val (.int e1), .val (.ref b1), .val (.int (x5 + (1 : Int32))), .val (.int (0 : Int32)), .val (.int (5 : Int32)), .val (.int (51 : Int32))] [])) t → Steps p.tables e below (T0.setTop (mkF m 48 #[.val (.ref a1), .val (.ref c1), .val (.int s1), .val (.int e1), .val (.ref b1), .val (.int x5), .val (.int (0 : Int32)), .val (.int (4 : Int32)), w8] [])) t := fun t kt => pre101 t (by
        show Steps p.tables e below (T0.setTop (mkF m 51 #[.val (.ref a1), .val (.ref c1), .val (.int s1), .val (.int e1), .val (.ref b1), .val (.int x5), .val (.int (0 : Int32)), .val (.int (4 : Int32)), w8] [(.int e1), (.int (4 : Int32))])) _
        refine XS.icmpNo X0.here hx rfl (hb hby dc21_51) rfl (tlt hc102).2.1 ?_
        show Steps p.tables e below (T0.setTop (mkF m 54 #[.val (.ref a1), .val (.ref c1), .val (.int s1), .val (.int e1), .val (.ref b1), .val (.int x5), .val (.int (0 : Int32)), .val (.int (4 : Int32)), w8] [])) _
        refine XS.aloadN X0.here hx rfl (hb hby dc21_54) rfl rfl ?_
        show Steps p.tables e below (T0.setTop (mkF m 55 #[.val (.ref a1), .val (.ref c1), .val (.int s1), .val (.int e1), .val (.ref b1), .val (.int x5), .val (.int (0 : Int32)), .val (.int (4 : Int32)), w8] [(.ref c1)])) _
        refine XS.iload X0.here hx rfl (hb hby dc21_55) rfl ?_
        show Steps p.tables e below (T0.setTop (mkF m 57 #[.val (.ref a1), .val (.ref c1), .val (.int s1), .val (.int e1), .val (.ref b1), .val (.int x5), .val (.int (0 : Int32)), .val (.int (4 : Int32)), w8] [(.int (4 : Int32)), (.ref c1)])) _
        refine X0.baloadBytes hx (j := (4 : Int32)) (v := (.int (51 : Int32))) (by rw [e0]; exact Ar103.1) (State.isArrayOf_alike hZ.alike Ar103.2.1) Ar103.2.2 hin103 hat103 (g := (mkF m 57 #[.val (.ref a1), .val (.ref c1), .val (.int s1), .val (.int e1), .val (.ref b1), .val (.int x5), .val (.int (0 : Int32)), .val (.int (4 : Int32)), w8] [(.int (4 : Int32)), (.ref c1)])) rfl rfl (hb hby dc21_57) _ ?_
        show Steps p.tables e below (T0.setTop (mkF m 58 #[.val (.ref a1), .val (.ref c1), .val (.int s1), .val (.int e1), .val (.ref b1), .val (.int x5), .val (.int (0 : Int32)), .val (.int (4 : Int32)), w8] [(.int (51 : Int32))])) _
        refine XS.istore X0.here hx rfl (hb hby dc21_58) rfl (l' := #[.val (.ref a1), .val (.ref c1), .val (.int s1), .val (.int e1), .val (.ref b1), .val (.int x5), .val (.int (0 : Int32)), .val (.int (4 : Int32)), .val (.int (51 : Int32))]) (os_0 hw8) ?_
        show Steps p.tables e below (T0.setTop (mkF m 60 #[.val (.ref a1), .val (.ref c1), .val (.int s1), .val (.int e1), .val (.ref b1), .val (.int x5), .val (.int (0 : Int32)), .val (.int (4 : Int32)), .val (.int (51 : Int32))] [])) _
        refine XS.iload X0.here hx rfl (hb hby dc21_60) rfl ?_
        show Steps p.tables e below (T0.setTop (mkF m 62 #[.val (.ref a1), .val (.ref c1), .val (.int s1), .val (.int e1), .val (.ref b1), .val (.int x5), .val (.int (0 : Int32)), .val (.int (4 : Int32)), .val (.int (51 : Int32))] [(.int (0 : Int32))])) _
        refine XS.ifYes X0.here hx rfl (pc0 := 62) (pc' := 103) rfl (hb hby dc21_62) rfl (by decide) (by decide) (by decide) ?_
        show Steps p.tables e below (T0.setTop (mkF m 103 #[.val (.ref a1), .val (.ref c1), .val (.int s1), .val (.int e1), .val (.ref b1), .val (.int x5), .val (.int (0 : Int32)), .val (.int (4 : Int32)), .val (.int (51 : Int32))] [])) _
        refine XS.iload X0.here hx rfl (hb hby dc21_103) rfl ?_
        show Steps p.tables e below (T0.setTop (mkF m 105 #[.val (.ref a1), .val (.ref c1), .val (.int s1), .val (.int e1), .val (.ref b1), .val (.int x5), .val (.int (0 : Int32)), .val (.int (4 : Int32)), .val (.int (51 : Int32))] [(.int (51 : Int32))])) _
        refine XS.bipush X0.here hx rfl (hb hby dc21_105) ?_
        show Steps p.tables e below (T0.setTop (mkF m 107 #[.val (.ref a1), .val (.ref c1), .val (.int s1), .val (.int e1), .val (.ref b1), .val (.int x5), .val (.int (0 : Int32)), .val (.int (4 : Int32)), .val (.int (51 : Int32))] [(.int (34 : Int32)), (.int (51 : Int32))])) _
        refine XS.icmpYes X0.here hx rfl (pc0 := 107) (pc' := 116) rfl (hb hby dc21_107) rfl (by decide) (by decide) (by decide) ?_
        show Steps p.tables e below (T0.setTop (mkF m 116 #[.val (.ref a1), .val (.ref c1), .val (.int s1), .val (.int e1), .val (.ref b1), .val (.int x5), .val (.int (0 : Int32)), .val (.int (4 : Int32)), .val (.int (51 : Int32))] [])) _
        refine XS.iload X0.here hx rfl (hb hby dc21_116) rfl ?_
        show Steps p.tables e below (T0.setTop (mkF m 118 #[.val (.ref a1), .val (.ref c1), .val (.int s1), .val (.int e1), .val (.ref b1), .val (.int x5), .val (.int (0 : Int32)), .val (.int (4 : Int32)), .val (.int (51 : Int32))] [(.int (51 : Int32))])) _
        refine st104 _ ?_
        show Steps p.tables e below (T104.setTop (mkF m 121 #[.val (.ref a1), .val (.ref c1), .val (.int s1), .val (.int e1), .val (.ref b1), .val (.int x5), .val (.int (0 : Int32)), .val (.int (4 : Int32)), .val (.int (51 : Int32))] [(.int (0 : Int32))])) _
        refine XS.ifYes X104.here hx rfl (pc0 := 121) (pc' := 127) rfl (hb hby dc21_121) rfl (by decide) (by decide) (by decide) ?_
        show Steps p.tables e below (T104.setTop (mkF m 127 #[.val (.ref a1), .val (.ref c1), .val (.int s1), .val (.int e1), .val (.ref b1), .val (.int x5), .val (.int (0 : Int32)), .val (.int (4 : Int32)), .val (.int (51 : Int32))] [])) _
        refine XS.aload X104.here hx rfl (hb hby dc21_127) rfl rfl ?_
        show Steps p.tables e below (T104.setTop (mkF m 129 #[.val (.ref a1), .val (.ref c1), .val (.int s1), .val (.int e1), .val (.ref b1), .val (.int x5), .val (.int (0 : Int32)), .val (.int (4 : Int32)), .val (.int (51 : Int32))] [(.ref b1)])) _
        refine XS.iload X104.here hx rfl (hb hby dc21_129) rfl ?_
        show Steps p.tables e below (T104.setTop (mkF m 131 #[.val (.ref a1), .val (.ref c1), .val (.int s1), .val (.int e1), .val (.ref b1), .val (.int x5), .val (.int (0 : Int32)), .val (.int (4 : Int32)), .val (.int (51 : Int32))] [(.int x5), (.ref b1)])) _
        refine XS.iinc X104.here hx rfl (hb hby dc21_131) rfl (l' := #[.val (.ref a1), .val (.ref c1), .val (.int s1), .val (.int e1), .val (.ref b1), .val (.int (x5 + (1 : Int32))), .val (.int (0 : Int32)), .val (.int (4 : Int32)), .val (.int (51 : Int32))]) rfl ?_
        show Steps p.tables e below (T104.setTop (mkF m 134 #[.val (.ref a1), .val (.ref c1), .val (.int s1), .val (.int e1), .val (.ref b1), .val (.int (x5 + (1 : Int32))), .val (.int (0 : Int32)), .val (.int (4 : Int32)), .val (.int (51 : Int32))] [(.int x5), (.ref b1)])) _
        refine XS.aloadN X104.here hx rfl (hb hby dc21_134) rfl rfl ?_
        show Steps p.tables e below (T104.setTop (mkF m 135 #[.val (.ref a1), .val (.ref c1), .val (.int s1), .val (.int e1), .val (.ref b1), .val (.int (x5 + (1 : Int32))), .val (.int (0 : Int32)), .val (.int (4 : Int32)), .val (.int (51 : Int32))] [(.ref c1), (.int x5), (.ref b1)])) _
        refine XS.iload X104.here hx rfl (hb hby dc21_135) rfl ?_
        show Steps p.tables e below (T104.setTop (mkF m 137 #[.val (.ref a1), .val (.ref c1), .val (.int s1), .val (.int e1), .val (.ref b1), .val (.int (x5 + (1 : Int32))), .val (.int (0 : Int32)), .val (.int (4 : Int32)), .val (.int (51 : Int32))] [(.int (4 : Int32)), (.ref c1), (.int x5), (.ref b1)])) _
        refine X104.baloadBytes hx (j := (4 : Int32)) (v := (.int (51 : Int32))) (by rw [hh104]; exact Ar105.1) (State.isArrayOf_alike hZ.alike Ar105.2.1) Ar105.2.2 hin105 hat105 (g := (mkF m 137 #[.val (.ref a1), .val (.ref c1), .val (.int s1), .val (.int e1), .val (.ref b1), .val (.int (x5 + (1 : Int32))), .val (.int (0 : Int32)), .val (.int (4 : Int32)), .val (.int (51 : Int32))] [(.int (4 : Int32)), (.ref c1), (.int x5), (.ref b1)])) rfl rfl (hb hby dc21_137) _ ?_
        show Steps p.tables e below (T104.setTop (mkF m 138 #[.val (.ref a1), .val (.ref c1), .val (.int s1), .val (.int e1), .val (.ref b1), .val (.int (x5 + (1 : Int32))), .val (.int (0 : Int32)), .val (.int (4 : Int32)), .val (.int (51 : Int32))] [(.int (51 : Int32)), (.int x5), (.ref b1)])) _
        refine st107 _ ?_
        show Steps p.tables e below (T107.setTop (mkF m 139 #[.val (.ref a1), .val (.ref c1), .val (.int s1), .val (.int e1), .val (.ref b1), .val (.int (x5 + (1 : Int32))), .val (.int (0 : Int32)), .val (.int (4 : Int32)), .val (.int (51 : Int32))] [])) _
        refine XS.iinc X107.here hx rfl (hb hby dc21_139) rfl (l' := #[.val (.ref a1), .val (.ref c1), .val (.int s1), .val (.int e1), .val (.ref b1), .val (.int (x5 + (1 : Int32))), .val (.int (0 : Int32)), .val (.int (5 : Int32)), .val (.int (51 : Int32))]) rfl ?_
        show Steps p.tables e below (T107.setTop (mkF m 142 #[.val (.ref a1), .val (.ref c1), .val (.int s1), .val (.int e1), .val (.ref b1), .val (.int (x5 + (1 : Int32))), .val (.int (0 : Int32)), .val (.int (5 : Int32)), .val (.int (51 : Int32))] [])) _
        refine XS.goto X107.here hx rfl (pc0 := 142) (pc' := 48) rfl (hb hby dc21_142) (by decide) (by decide) ?_
        exact kt)
    have O109 : Old Z n0 h107 := (O0.wr W107 gb)
    have f110 := (Vc.other W107 nebc)
    obtain ⟨T', h', L', x7', w8', X', e', N', K', V', o8', st'⟩ := lp5 a1 c1 b1 k1 s1 e1 (x5 + (1 : Int32)) (.val (.int (51 : Int32))) X107 hx hZ hw hby hml hown e107 N107 O109 (One.val rfl) hs0 hse he8 (own_up2 hsk (by decide)) (own_up hc102 (by decide)) (by rw [h5]; exact own_st4 (own_se hs0 hse he8).1) f110 V107 nebc gb
    have K111 : Keep h0 h' [b1] := (Keep.trans (Keep.wr (Keep.refl h0 [b1]) W107 (Or.inl (List.mem_of_getElem? (i := 0) rfl))) K' (allS (P := fun x => x ∈ [b1] ∨ h0.size ≤ x) (Or.inl (List.mem_of_getElem? (i := 0) rfl)) all0))
    exact ⟨T', h', L', x7', w8', X', e', N', K111, V', o8', fun t kt => pre108 t (st' t kt)⟩
  · skip
    have pre112 : ∀ t, Steps p.tables e below (T0.setTop (mkF m 145 #[.val (.ref a1), .val (.ref c1), .val (.int s1), .val (.int e1), .val (.ref b1), .val (.int x5), .val (.int (0 : Int32)), .val (.int (4 : Int32)), w8] [])) t → Steps p.tables e below (T0.setTop (mkF m 48 #[.val (.ref a1), .val (.ref c1), .val (.int s1), .val (.int e1), .val (.ref b1), .val (.int x5), .val (.int (0 : Int32)), .val (.int (4 : Int32)), w8] [])) t := fun t kt => pre101 t (by
        show Steps p.tables e below (T0.setTop (mkF m 51 #[.val (.ref a1), .val (.ref c1), .val (.int s1), .val (.int e1), .val (.ref b1), .val (.int x5), .val (.int (0 : Int32)), .val (.int (4 : Int32)), w8] [(.int e1), (.int (4 : Int32))])) _
        refine XS.icmpYes X0.here hx rfl (pc0 := 51) (pc' := 145) rfl (hb hby dc21_51) rfl (flt hc102).2.1 (by decide) (by decide) ?_
        exact kt)
    have he : e1 = (4 : Int32) := own_anti hke hc102
    have h5e : x5 = own_len s1 e1 := by rw [he]; exact h5
    exact ⟨_, _, _, (4 : Int32), w8, X0, e0, N0, (Keep.refl h0 [b1]), Vb, hw8, fun t kt => by rw [← h5e] at kt; exact pre112 t kt⟩
set_option maxRecDepth 65536 in
set_option maxHeartbeats 40000000 in
theorem lp3 {p : Program} {l : Launch} {e : Env} {s : State} {m : MethodId} {args : Array Value} {below : List Frame} {meth : Method} {c : Code} {T0 : State} {locs : List Loc} {Z : State} {a0 : Array Value} {h0 : Heap} {n0 : Nat} (a1 c1 b1 : Addr) (k1 : ClassId) (s1 e1 x5 : Int32) (w8 : Slot)
    (X0 : Stand p l e ({ frames := 3, cells := 2, slots := 16, locals := 37 } : Room) s m args below meth c T0 locs 1 8) (hx : p.tables.exec = Jvm.exec) (hZ : Z.Warmed39 s.vm) (hw : ∀ d ∈ tables_1, d.before a0 Z = true) (hby : c.code = prog_47_method_10_code) (hml : c.maxLocals = 9) (hown : s.vm.findClass "com/example/keyfold/keyfold/JsonValue" = some m.cls) (e0 : T0.heap = h0) (N0 : Fr n0 locs) (O0 : Old Z n0 h0) (hw8 : One w8) (hs0 : ¬ s1 < (0 : Int32)) (hse : ¬ e1 < s1) (he8 : ¬ (8 : Int32) < e1) (hsk : ¬ (3 : Int32) < s1) (hke : ¬ e1 < (3 : Int32)) (h5 : x5 = own_len s1 (3 : Int32)) (Vc : Arv Z h0 c1 k1 .byte (8 : Int32) [(.int (49 : Int32)), (.int (32 : Int32)), (.int (50 : Int32)), (.int (32 : Int32)), (.int (51 : Int32)), (.int (32 : Int32)), (.int (52 : Int32)), (.int (32 : Int32))] (.int (0 : Int32))) (Vb : By Z h0 b1 (e1 - s1)) (nebc : c1 ≠ b1) (gb : n0 ≤ b1) :
    ∃ (T' : State) (h' : Heap) (L' : List Loc) (x7 : Int32) (w8' : Slot), Stand p l e ({ frames := 3, cells := 2, slots := 16, locals := 37 } : Room) s m args below meth c T' L' 1 8 ∧ T'.heap = h' ∧ Fr n0 L' ∧ Keep h0 h' [b1] ∧ By Z h' b1 (e1 - s1) ∧ One w8' ∧ ∀ t, Steps p.tables e below (T'.setTop (mkF m 145 #[.val (.ref a1), .val (.ref c1), .val (.int s1), .val (.int e1), .val (.ref b1), .val (.int (own_len s1 e1)), .val (.int (0 : Int32)), .val (.int x7), w8'] [])) t → Steps p.tables e below (T0.setTop (mkF m 48 #[.val (.ref a1), .val (.ref c1), .val (.int s1), .val (.int e1), .val (.ref b1), .val (.int x5), .val (.int (0 : Int32)), .val (.int (3 : Int32)), w8] [])) t := by
  have pre0 : ∀ t, Steps p.tables e below (T0.setTop (mkF m 48 #[.val (.ref a1), .val (.ref c1), .val (.int s1), .val (.int e1), .val (.ref b1), .val (.int x5), .val (.int (0 : Int32)), .val (.int (3 : Int32)), w8] [])) t → Steps p.tables e below (T0.setTop (mkF m 48 #[.val (.ref a1), .val (.ref c1), .val (.int s1), .val (.int e1), .val (.ref b1), .val (.int x5), .val (.int (0 : Int32)), .val (.int (3 : Int32)), w8] [])) t := fun _ k => k
  have pre101 : ∀ t, Steps p.tables e below (T0.setTop (mkF m 51 #[.val (.ref a1), .val (.ref c1), .val (.int s1), .val (.int e1), .val (.ref b1), .val (.int x5), .val (.int (0 : Int32)), .val (.int (3 : Int32)), w8] [(.int e1), (.int (3 : Int32))])) t → Steps p.tables e below (T0.setTop (mkF m 48 #[.val (.ref a1), .val (.ref c1), .val (.int s1), .val (.int e1), .val (.ref b1), .val (.int x5), .val (.int (0 : Int32)), .val (.int (3 : Int32)), w8] [])) t := fun t kt => pre0 t (by
      show Steps p.tables e below (T0.setTop (mkF m 48 #[.val (.ref a1), .val (.ref c1), .val (.int s1), .val (.int e1), .val (.ref b1), .val (.int x5), .val (.int (0 : Int32)), .val (.int (3 : Int32)), w8] [])) _
      refine XS.iload X0.here hx rfl (hb hby dc21_48) rfl ?_
      show Steps p.tables e below (T0.setTop (mkF m 50 #[.val (.ref a1), .val (.ref c1), .val (.int s1), .val (.int e1), .val (.ref b1), .val (.int x5), .val (.int (0 : Int32)), .val (.int (3 : Int32)), w8] [(.int (3 : Int32))])) _
      refine XS.iloadN X0.here hx rfl (hb hby dc21_50) rfl ?_
      exact kt)
  by_cases hc102 : (3 : Int32) < e1
  · skip
    obtain ⟨cl103, Ar103, q103, S103, N103_, H103, G103⟩ := id Vc
    have hin103 : ¬ ((3 : Int32) < 0 ∨ cl103.slots.size ≤ ((3 : Int32)).toNatClampNeg) := inb_of S103 ⟨by decide, by decide⟩
    have hat103 : cl103.slots[((3 : Int32)).toNatClampNeg]? = some (.int (32 : Int32)) := H103.at hin103 rfl
    obtain ⟨_, _, ⟨T104, L104, k104, n104⟩, -, X104, ⟨Lc104, hQ104, l104, y104, z104⟩, st104⟩ := Jvm.LawKit.callS X0 hx (y := (⟨"com/example/keyfold/keyfold/JsonParser", "isWhitespace", "(B)Z"⟩ : MethodName)) hown (mvT hZ (hw _ (List.mem_of_getElem? (i := 141) rfl))) (mvT hZ (hw _ (List.mem_of_getElem? (i := 142) rfl))) (mvT hZ (hw _ (List.mem_of_getElem? (i := 143) rfl))) (mvT hZ (hw _ (List.mem_of_getElem? (i := 144) rfl))) (by decide) (backOf (W := 0) (rmWs32 l Z a0 hw [] h0 n0 O0) hZ (hw _ (List.mem_of_getElem? (i := 144) rfl)) (hw _ (List.mem_of_getElem? (i := 143) rfl)) (by decide) (by decide)) (g := (mkF m 118 #[.val (.ref a1), .val (.ref c1), .val (.int s1), .val (.int e1), .val (.ref b1), .val (.int x5), .val (.int (0 : Int32)), .val (.int (3 : Int32)), .val (.int (32 : Int32))] [(.int (32 : Int32))])) rfl (by rw [hml]; rfl) (argsL := [(.int (32 : Int32))]) (rest := []) (lenOf pd_8 rfl) rfl (by show 2 * 0 + _ ≤ _; exact Nat.le_of_eq rfl) (hb hby dc21_118) (fun _ _ => ⟨rfl, e0, (by decide : 1 + 0 ≤ _), (by decide : 8 + 0 ≤ _)⟩)
    dsimp only [Pt.U, Pt.locs, Pt.cells, Pt.slots] at X104 l104 y104 z104 st104 hQ104
    subst l104 y104 z104
    obtain ⟨rfl, N104q, hh104⟩ := hQ104
    have N104 := Fr.app N0 N104q
    have pre105 : ∀ t, Steps p.tables e below (T104.setTop (mkF m 48 #[.val (.ref a1), .val (.ref c1), .val (.int s1), .val (.int e1), .val (.ref b1), .val (.int x5), .val (.int (0 : Int32)), .val (.int (4 : Int32)), .val (.int (32 : Int32))] [])) t → Steps p.tables e below (T0.setTop (mkF m 48 #[.val (.ref a1), .val (.ref c1), .val (.int s1), .val (.int e1), .val (.ref b1), .val (.int x5), .val (.int (0 : Int32)), .val (.int (3 : Int32)), w8] [])) t := fun t kt => pre101 t (by
        show Steps p.tables e below (T0.setTop (mkF m 51 #[.val (.ref a1), .val (.ref c1), .val (.int s1), .val (.int e1), .val (.ref b1), .val (.int x5), .val (.int (0 : Int32)), .val (.int (3 : Int32)), w8] [(.int e1), (.int (3 : Int32))])) _
        refine XS.icmpNo X0.here hx rfl (hb hby dc21_51) rfl (tlt hc102).2.1 ?_
        show Steps p.tables e below (T0.setTop (mkF m 54 #[.val (.ref a1), .val (.ref c1), .val (.int s1), .val (.int e1), .val (.ref b1), .val (.int x5), .val (.int (0 : Int32)), .val (.int (3 : Int32)), w8] [])) _
        refine XS.aloadN X0.here hx rfl (hb hby dc21_54) rfl rfl ?_
        show Steps p.tables e below (T0.setTop (mkF m 55 #[.val (.ref a1), .val (.ref c1), .val (.int s1), .val (.int e1), .val (.ref b1), .val (.int x5), .val (.int (0 : Int32)), .val (.int (3 : Int32)), w8] [(.ref c1)])) _
        refine XS.iload X0.here hx rfl (hb hby dc21_55) rfl ?_
        show Steps p.tables e below (T0.setTop (mkF m 57 #[.val (.ref a1), .val (.ref c1), .val (.int s1), .val (.int e1), .val (.ref b1), .val (.int x5), .val (.int (0 : Int32)), .val (.int (3 : Int32)), w8] [(.int (3 : Int32)), (.ref c1)])) _
        refine X0.baloadBytes hx (j := (3 : Int32)) (v := (.int (32 : Int32))) (by rw [e0]; exact Ar103.1) (State.isArrayOf_alike hZ.alike Ar103.2.1) Ar103.2.2 hin103 hat103 (g := (mkF m 57 #[.val (.ref a1), .val (.ref c1), .val (.int s1), .val (.int e1), .val (.ref b1), .val (.int x5), .val (.int (0 : Int32)), .val (.int (3 : Int32)), w8] [(.int (3 : Int32)), (.ref c1)])) rfl rfl (hb hby dc21_57) _ ?_
        show Steps p.tables e below (T0.setTop (mkF m 58 #[.val (.ref a1), .val (.ref c1), .val (.int s1), .val (.int e1), .val (.ref b1), .val (.int x5), .val (.int (0 : Int32)), .val (.int (3 : Int32)), w8] [(.int (32 : Int32))])) _
        refine XS.istore X0.here hx rfl (hb hby dc21_58) rfl (l' := #[.val (.ref a1), .val (.ref c1), .val (.int s1), .val (.int e1), .val (.ref b1), .val (.int x5), .val (.int (0 : Int32)), .val (.int (3 : Int32)), .val (.int (32 : Int32))]) (os_0 hw8) ?_
        show Steps p.tables e below (T0.setTop (mkF m 60 #[.val (.ref a1), .val (.ref c1), .val (.int s1), .val (.int e1), .val (.ref b1), .val (.int x5), .val (.int (0 : Int32)), .val (.int (3 : Int32)), .val (.int (32 : Int32))] [])) _
        refine XS.iload X0.here hx rfl (hb hby dc21_60) rfl ?_
        show Steps p.tables e below (T0.setTop (mkF m 62 #[.val (.ref a1), .val (.ref c1), .val (.int s1), .val (.int e1), .val (.ref b1), .val (.int x5), .val (.int (0 : Int32)), .val (.int (3 : Int32)), .val (.int (32 : Int32))] [(.int (0 : Int32))])) _
        refine XS.ifYes X0.here hx rfl (pc0 := 62) (pc' := 103) rfl (hb hby dc21_62) rfl (by decide) (by decide) (by decide) ?_
        show Steps p.tables e below (T0.setTop (mkF m 103 #[.val (.ref a1), .val (.ref c1), .val (.int s1), .val (.int e1), .val (.ref b1), .val (.int x5), .val (.int (0 : Int32)), .val (.int (3 : Int32)), .val (.int (32 : Int32))] [])) _
        refine XS.iload X0.here hx rfl (hb hby dc21_103) rfl ?_
        show Steps p.tables e below (T0.setTop (mkF m 105 #[.val (.ref a1), .val (.ref c1), .val (.int s1), .val (.int e1), .val (.ref b1), .val (.int x5), .val (.int (0 : Int32)), .val (.int (3 : Int32)), .val (.int (32 : Int32))] [(.int (32 : Int32))])) _
        refine XS.bipush X0.here hx rfl (hb hby dc21_105) ?_
        show Steps p.tables e below (T0.setTop (mkF m 107 #[.val (.ref a1), .val (.ref c1), .val (.int s1), .val (.int e1), .val (.ref b1), .val (.int x5), .val (.int (0 : Int32)), .val (.int (3 : Int32)), .val (.int (32 : Int32))] [(.int (34 : Int32)), (.int (32 : Int32))])) _
        refine XS.icmpYes X0.here hx rfl (pc0 := 107) (pc' := 116) rfl (hb hby dc21_107) rfl (by decide) (by decide) (by decide) ?_
        show Steps p.tables e below (T0.setTop (mkF m 116 #[.val (.ref a1), .val (.ref c1), .val (.int s1), .val (.int e1), .val (.ref b1), .val (.int x5), .val (.int (0 : Int32)), .val (.int (3 : Int32)), .val (.int (32 : Int32))] [])) _
        refine XS.iload X0.here hx rfl (hb hby dc21_116) rfl ?_
        show Steps p.tables e below (T0.setTop (mkF m 118 #[.val (.ref a1), .val (.ref c1), .val (.int s1), .val (.int e1), .val (.ref b1), .val (.int x5), .val (.int (0 : Int32)), .val (.int (3 : Int32)), .val (.int (32 : Int32))] [(.int (32 : Int32))])) _
        refine st104 _ ?_
        show Steps p.tables e below (T104.setTop (mkF m 121 #[.val (.ref a1), .val (.ref c1), .val (.int s1), .val (.int e1), .val (.ref b1), .val (.int x5), .val (.int (0 : Int32)), .val (.int (3 : Int32)), .val (.int (32 : Int32))] [(.int (1 : Int32))])) _
        refine XS.ifNo X104.here hx rfl (hb hby dc21_121) rfl (by decide) ?_
        show Steps p.tables e below (T104.setTop (mkF m 124 #[.val (.ref a1), .val (.ref c1), .val (.int s1), .val (.int e1), .val (.ref b1), .val (.int x5), .val (.int (0 : Int32)), .val (.int (3 : Int32)), .val (.int (32 : Int32))] [])) _
        refine XS.goto X104.here hx rfl (pc0 := 124) (pc' := 139) rfl (hb hby dc21_124) (by decide) (by decide) ?_
        show Steps p.tables e below (T104.setTop (mkF m 139 #[.val (.ref a1), .val (.ref c1), .val (.int s1), .val (.int e1), .val (.ref b1), .val (.int x5), .val (.int (0 : Int32)), .val (.int (3 : Int32)), .val (.int (32 : Int32))] [])) _
        refine XS.iinc X104.here hx rfl (hb hby dc21_139) rfl (l' := #[.val (.ref a1), .val (.ref c1), .val (.int s1), .val (.int e1), .val (.ref b1), .val (.int x5), .val (.int (0 : Int32)), .val (.int (4 : Int32)), .val (.int (32 : Int32))]) rfl ?_
        show Steps p.tables e below (T104.setTop (mkF m 142 #[.val (.ref a1), .val (.ref c1), .val (.int s1), .val (.int e1), .val (.ref b1), .val (.int x5), .val (.int (0 : Int32)), .val (.int (4 : Int32)), .val (.int (32 : Int32))] [])) _
        refine XS.goto X104.here hx rfl (pc0 := 142) (pc' := 48) rfl (hb hby dc21_142) (by decide) (by decide) ?_
        exact kt)
    obtain ⟨T', h', L', x7', w8', X', e', N', K', V', o8', st'⟩ := lp4 a1 c1 b1 k1 s1 e1 x5 (.val (.int (32 : Int32))) X104 hx hZ hw hby hml hown hh104 N104 O0 (One.val rfl) hs0 hse he8 (own_up2 hsk (by decide)) (own_up hc102 (by decide)) (by rw [h5]; exact own_st3 (own_se hs0 hse he8).1) Vc Vb nebc gb
    have K106 : Keep h0 h' [b1] := (Keep.trans (Keep.refl h0 [b1]) K' (allS (P := fun x => x ∈ [b1] ∨ h0.size ≤ x) (Or.inl (List.mem_of_getElem? (i := 0) rfl)) all0))
    exact ⟨T', h', L', x7', w8', X', e', N', K106, V', o8', fun t kt => pre105 t (st' t kt)⟩
  · skip
    have pre107 : ∀ t, Steps p.tables e below (T0.setTop (mkF m 145 #[.val (.ref a1), .val (.ref c1), .val (.int s1), .val (.int e1), .val (.ref b1), .val (.int x5), .val (.int (0 : Int32)), .val (.int (3 : Int32)), w8] [])) t → Steps p.tables e below (T0.setTop (mkF m 48 #[.val (.ref a1), .val (.ref c1), .val (.int s1), .val (.int e1), .val (.ref b1), .val (.int x5), .val (.int (0 : Int32)), .val (.int (3 : Int32)), w8] [])) t := fun t kt => pre101 t (by
        show Steps p.tables e below (T0.setTop (mkF m 51 #[.val (.ref a1), .val (.ref c1), .val (.int s1), .val (.int e1), .val (.ref b1), .val (.int x5), .val (.int (0 : Int32)), .val (.int (3 : Int32)), w8] [(.int e1), (.int (3 : Int32))])) _
        refine XS.icmpYes X0.here hx rfl (pc0 := 51) (pc' := 145) rfl (hb hby dc21_51) rfl (flt hc102).2.1 (by decide) (by decide) ?_
        exact kt)
    have he : e1 = (3 : Int32) := own_anti hke hc102
    have h5e : x5 = own_len s1 e1 := by rw [he]; exact h5
    exact ⟨_, _, _, (3 : Int32), w8, X0, e0, N0, (Keep.refl h0 [b1]), Vb, hw8, fun t kt => by rw [← h5e] at kt; exact pre107 t kt⟩
set_option maxRecDepth 65536 in
set_option maxHeartbeats 40000000 in
theorem lp2 {p : Program} {l : Launch} {e : Env} {s : State} {m : MethodId} {args : Array Value} {below : List Frame} {meth : Method} {c : Code} {T0 : State} {locs : List Loc} {Z : State} {a0 : Array Value} {h0 : Heap} {n0 : Nat} (a1 c1 b1 : Addr) (k1 : ClassId) (s1 e1 x5 : Int32) (w8 : Slot)
    (X0 : Stand p l e ({ frames := 3, cells := 2, slots := 16, locals := 37 } : Room) s m args below meth c T0 locs 1 8) (hx : p.tables.exec = Jvm.exec) (hZ : Z.Warmed39 s.vm) (hw : ∀ d ∈ tables_1, d.before a0 Z = true) (hby : c.code = prog_47_method_10_code) (hml : c.maxLocals = 9) (hown : s.vm.findClass "com/example/keyfold/keyfold/JsonValue" = some m.cls) (e0 : T0.heap = h0) (N0 : Fr n0 locs) (O0 : Old Z n0 h0) (hw8 : One w8) (hs0 : ¬ s1 < (0 : Int32)) (hse : ¬ e1 < s1) (he8 : ¬ (8 : Int32) < e1) (hsk : ¬ (2 : Int32) < s1) (hke : ¬ e1 < (2 : Int32)) (h5 : x5 = own_len s1 (2 : Int32)) (Vc : Arv Z h0 c1 k1 .byte (8 : Int32) [(.int (49 : Int32)), (.int (32 : Int32)), (.int (50 : Int32)), (.int (32 : Int32)), (.int (51 : Int32)), (.int (32 : Int32)), (.int (52 : Int32)), (.int (32 : Int32))] (.int (0 : Int32))) (Vb : By Z h0 b1 (e1 - s1)) (nebc : c1 ≠ b1) (gb : n0 ≤ b1) :
    ∃ (T' : State) (h' : Heap) (L' : List Loc) (x7 : Int32) (w8' : Slot), Stand p l e ({ frames := 3, cells := 2, slots := 16, locals := 37 } : Room) s m args below meth c T' L' 1 8 ∧ T'.heap = h' ∧ Fr n0 L' ∧ Keep h0 h' [b1] ∧ By Z h' b1 (e1 - s1) ∧ One w8' ∧ ∀ t, Steps p.tables e below (T'.setTop (mkF m 145 #[.val (.ref a1), .val (.ref c1), .val (.int s1), .val (.int e1), .val (.ref b1), .val (.int (own_len s1 e1)), .val (.int (0 : Int32)), .val (.int x7), w8'] [])) t → Steps p.tables e below (T0.setTop (mkF m 48 #[.val (.ref a1), .val (.ref c1), .val (.int s1), .val (.int e1), .val (.ref b1), .val (.int x5), .val (.int (0 : Int32)), .val (.int (2 : Int32)), w8] [])) t := by
  have pre0 : ∀ t, Steps p.tables e below (T0.setTop (mkF m 48 #[.val (.ref a1), .val (.ref c1), .val (.int s1), .val (.int e1), .val (.ref b1), .val (.int x5), .val (.int (0 : Int32)), .val (.int (2 : Int32)), w8] [])) t → Steps p.tables e below (T0.setTop (mkF m 48 #[.val (.ref a1), .val (.ref c1), .val (.int s1), .val (.int e1), .val (.ref b1), .val (.int x5), .val (.int (0 : Int32)), .val (.int (2 : Int32)), w8] [])) t := fun _ k => k
  have pre101 : ∀ t, Steps p.tables e below (T0.setTop (mkF m 51 #[.val (.ref a1), .val (.ref c1), .val (.int s1), .val (.int e1), .val (.ref b1), .val (.int x5), .val (.int (0 : Int32)), .val (.int (2 : Int32)), w8] [(.int e1), (.int (2 : Int32))])) t → Steps p.tables e below (T0.setTop (mkF m 48 #[.val (.ref a1), .val (.ref c1), .val (.int s1), .val (.int e1), .val (.ref b1), .val (.int x5), .val (.int (0 : Int32)), .val (.int (2 : Int32)), w8] [])) t := fun t kt => pre0 t (by
      show Steps p.tables e below (T0.setTop (mkF m 48 #[.val (.ref a1), .val (.ref c1), .val (.int s1), .val (.int e1), .val (.ref b1), .val (.int x5), .val (.int (0 : Int32)), .val (.int (2 : Int32)), w8] [])) _
      refine XS.iload X0.here hx rfl (hb hby dc21_48) rfl ?_
      show Steps p.tables e below (T0.setTop (mkF m 50 #[.val (.ref a1), .val (.ref c1), .val (.int s1), .val (.int e1), .val (.ref b1), .val (.int x5), .val (.int (0 : Int32)), .val (.int (2 : Int32)), w8] [(.int (2 : Int32))])) _
      refine XS.iloadN X0.here hx rfl (hb hby dc21_50) rfl ?_
      exact kt)
  by_cases hc102 : (2 : Int32) < e1
  · skip
    obtain ⟨cl103, Ar103, q103, S103, N103_, H103, G103⟩ := id Vc
    have hin103 : ¬ ((2 : Int32) < 0 ∨ cl103.slots.size ≤ ((2 : Int32)).toNatClampNeg) := inb_of S103 ⟨by decide, by decide⟩
    have hat103 : cl103.slots[((2 : Int32)).toNatClampNeg]? = some (.int (50 : Int32)) := H103.at hin103 rfl
    obtain ⟨_, _, ⟨T104, L104, k104, n104⟩, -, X104, ⟨Lc104, hQ104, l104, y104, z104⟩, st104⟩ := Jvm.LawKit.callS X0 hx (y := (⟨"com/example/keyfold/keyfold/JsonParser", "isWhitespace", "(B)Z"⟩ : MethodName)) hown (mvT hZ (hw _ (List.mem_of_getElem? (i := 141) rfl))) (mvT hZ (hw _ (List.mem_of_getElem? (i := 142) rfl))) (mvT hZ (hw _ (List.mem_of_getElem? (i := 143) rfl))) (mvT hZ (hw _ (List.mem_of_getElem? (i := 144) rfl))) (by decide) (backOf (W := 0) (rmWs50 l Z a0 hw [] h0 n0 O0) hZ (hw _ (List.mem_of_getElem? (i := 144) rfl)) (hw _ (List.mem_of_getElem? (i := 143) rfl)) (by decide) (by decide)) (g := (mkF m 118 #[.val (.ref a1), .val (.ref c1), .val (.int s1), .val (.int e1), .val (.ref b1), .val (.int x5), .val (.int (0 : Int32)), .val (.int (2 : Int32)), .val (.int (50 : Int32))] [(.int (50 : Int32))])) rfl (by rw [hml]; rfl) (argsL := [(.int (50 : Int32))]) (rest := []) (lenOf pd_8 rfl) rfl (by show 2 * 0 + _ ≤ _; exact Nat.le_of_eq rfl) (hb hby dc21_118) (fun _ _ => ⟨rfl, e0, (by decide : 1 + 0 ≤ _), (by decide : 8 + 0 ≤ _)⟩)
    dsimp only [Pt.U, Pt.locs, Pt.cells, Pt.slots] at X104 l104 y104 z104 st104 hQ104
    subst l104 y104 z104
    obtain ⟨rfl, N104q, hh104⟩ := hQ104
    have N104 := Fr.app N0 N104q
    obtain ⟨cl105, Ar105, q105, S105, N105_, H105, G105⟩ := id Vc
    have hin105 : ¬ ((2 : Int32) < 0 ∨ cl105.slots.size ≤ ((2 : Int32)).toNatClampNeg) := inb_of S105 ⟨by decide, by decide⟩
    have hat105 : cl105.slots[((2 : Int32)).toNatClampNeg]? = some (.int (50 : Int32)) := H105.at hin105 rfl
    obtain ⟨cl106, Ar106, hin106, up106⟩ := By.up (j := x5) Vb (by rw [h5]; exact own_in2 (own_se hs0 hse he8).1 (own_se hs0 hse he8).2 hsk hc102)
    obtain ⟨T107, h107, X107, e107, W107, st107⟩ := stB X104 hx hZ hh104 Ar106 (j := x5) hin106 (g := (mkF m 138 #[.val (.ref a1), .val (.ref c1), .val (.int s1), .val (.int e1), .val (.ref b1), .val (.int (x5 + (1 : Int32))), .val (.int (0 : Int32)), .val (.int (2 : Int32)), .val (.int (50 : Int32))] [(.int (50 : Int32)), (.int x5), (.ref b1)])) rfl rfl (hb hby dc21_138)
    have V107 : By Z h107 b1 (e1 - s1) := up106 _ _ W107
    have N107 := Fr.snoc X107 N104 gb
    have pre108 : ∀ t, Steps p.tables e below (T107.setTop (mkF m 48 #[.val (.ref a1), .val (.ref c1), .val (.int s1), .val (.int e1), .val (.ref b1), .val (.int (x5 + (1 : Int32))), .val (.int (0 : Int32)), .val (.int (3 : Int32)), .val (.int (50 : Int32))] [])) t → Steps p.tables e below (T0.setTop (mkF m 48 #[.val (.ref a1), .val (.ref c1), .val (.int s1), .val (.int e1), .val (.ref b1), .val (.int x5), .val (.int (0 : Int32)), .val (.int (2 : Int32)), w8] [])) t := fun t kt => pre101 t (by
        show Steps p.tables e below (T0.setTop (mkF m 51 #[.val (.ref a1), .val (.ref c1), .val (.int s1), .val (.int e1), .val (.ref b1), .val (.int x5), .val (.int (0 : Int32)), .val (.int (2 : Int32)), w8] [(.int e1), (.int (2 : Int32))])) _
        refine XS.icmpNo X0.here hx rfl (hb hby dc21_51) rfl (tlt hc102).2.1 ?_
        show Steps p.tables e below (T0.setTop (mkF m 54 #[.val (.ref a1), .val (.ref c1), .val (.int s1), .val (.int e1), .val (.ref b1), .val (.int x5), .val (.int (0 : Int32)), .val (.int (2 : Int32)), w8] [])) _
        refine XS.aloadN X0.here hx rfl (hb hby dc21_54) rfl rfl ?_
        show Steps p.tables e below (T0.setTop (mkF m 55 #[.val (.ref a1), .val (.ref c1), .val (.int s1), .val (.int e1), .val (.ref b1), .val (.int x5), .val (.int (0 : Int32)), .val (.int (2 : Int32)), w8] [(.ref c1)])) _
        refine XS.iload X0.here hx rfl (hb hby dc21_55) rfl ?_
        show Steps p.tables e below (T0.setTop (mkF m 57 #[.val (.ref a1), .val (.ref c1), .val (.int s1), .val (.int e1), .val (.ref b1), .val (.int x5), .val (.int (0 : Int32)), .val (.int (2 : Int32)), w8] [(.int (2 : Int32)), (.ref c1)])) _
        refine X0.baloadBytes hx (j := (2 : Int32)) (v := (.int (50 : Int32))) (by rw [e0]; exact Ar103.1) (State.isArrayOf_alike hZ.alike Ar103.2.1) Ar103.2.2 hin103 hat103 (g := (mkF m 57 #[.val (.ref a1), .val (.ref c1), .val (.int s1), .val (.int e1), .val (.ref b1), .val (.int x5), .val (.int (0 : Int32)), .val (.int (2 : Int32)), w8] [(.int (2 : Int32)), (.ref c1)])) rfl rfl (hb hby dc21_57) _ ?_
        show Steps p.tables e below (T0.setTop (mkF m 58 #[.val (.ref a1), .val (.ref c1), .val (.int s1), .val (.int e1), .val (.ref b1), .val (.int x5), .val (.int (0 : Int32)), .val (.int (2 : Int32)), w8] [(.int (50 : Int32))])) _
        refine XS.istore X0.here hx rfl (hb hby dc21_58) rfl (l' := #[.val (.ref a1), .val (.ref c1), .val (.int s1), .val (.int e1), .val (.ref b1), .val (.int x5), .val (.int (0 : Int32)), .val (.int (2 : Int32)), .val (.int (50 : Int32))]) (os_0 hw8) ?_
        show Steps p.tables e below (T0.setTop (mkF m 60 #[.val (.ref a1), .val (.ref c1), .val (.int s1), .val (.int e1), .val (.ref b1), .val (.int x5), .val (.int (0 : Int32)), .val (.int (2 : Int32)), .val (.int (50 : Int32))] [])) _
        refine XS.iload X0.here hx rfl (hb hby dc21_60) rfl ?_
        show Steps p.tables e below (T0.setTop (mkF m 62 #[.val (.ref a1), .val (.ref c1), .val (.int s1), .val (.int e1), .val (.ref b1), .val (.int x5), .val (.int (0 : Int32)), .val (.int (2 : Int32)), .val (.int (50 : Int32))] [(.int (0 : Int32))])) _
        refine XS.ifYes X0.here hx rfl (pc0 := 62) (pc' := 103) rfl (hb hby dc21_62) rfl (by decide) (by decide) (by decide) ?_
        show Steps p.tables e below (T0.setTop (mkF m 103 #[.val (.ref a1), .val (.ref c1), .val (.int s1), .val (.int e1), .val (.ref b1), .val (.int x5), .val (.int (0 : Int32)), .val (.int (2 : Int32)), .val (.int (50 : Int32))] [])) _
        refine XS.iload X0.here hx rfl (hb hby dc21_103) rfl ?_
        show Steps p.tables e below (T0.setTop (mkF m 105 #[.val (.ref a1), .val (.ref c1), .val (.int s1), .val (.int e1), .val (.ref b1), .val (.int x5), .val (.int (0 : Int32)), .val (.int (2 : Int32)), .val (.int (50 : Int32))] [(.int (50 : Int32))])) _
        refine XS.bipush X0.here hx rfl (hb hby dc21_105) ?_
        show Steps p.tables e below (T0.setTop (mkF m 107 #[.val (.ref a1), .val (.ref c1), .val (.int s1), .val (.int e1), .val (.ref b1), .val (.int x5), .val (.int (0 : Int32)), .val (.int (2 : Int32)), .val (.int (50 : Int32))] [(.int (34 : Int32)), (.int (50 : Int32))])) _
        refine XS.icmpYes X0.here hx rfl (pc0 := 107) (pc' := 116) rfl (hb hby dc21_107) rfl (by decide) (by decide) (by decide) ?_
        show Steps p.tables e below (T0.setTop (mkF m 116 #[.val (.ref a1), .val (.ref c1), .val (.int s1), .val (.int e1), .val (.ref b1), .val (.int x5), .val (.int (0 : Int32)), .val (.int (2 : Int32)), .val (.int (50 : Int32))] [])) _
        refine XS.iload X0.here hx rfl (hb hby dc21_116) rfl ?_
        show Steps p.tables e below (T0.setTop (mkF m 118 #[.val (.ref a1), .val (.ref c1), .val (.int s1), .val (.int e1), .val (.ref b1), .val (.int x5), .val (.int (0 : Int32)), .val (.int (2 : Int32)), .val (.int (50 : Int32))] [(.int (50 : Int32))])) _
        refine st104 _ ?_
        show Steps p.tables e below (T104.setTop (mkF m 121 #[.val (.ref a1), .val (.ref c1), .val (.int s1), .val (.int e1), .val (.ref b1), .val (.int x5), .val (.int (0 : Int32)), .val (.int (2 : Int32)), .val (.int (50 : Int32))] [(.int (0 : Int32))])) _
        refine XS.ifYes X104.here hx rfl (pc0 := 121) (pc' := 127) rfl (hb hby dc21_121) rfl (by decide) (by decide) (by decide) ?_
        show Steps p.tables e below (T104.setTop (mkF m 127 #[.val (.ref a1), .val (.ref c1), .val (.int s1), .val (.int e1), .val (.ref b1), .val (.int x5), .val (.int (0 : Int32)), .val (.int (2 : Int32)), .val (.int (50 : Int32))] [])) _
        refine XS.aload X104.here hx rfl (hb hby dc21_127) rfl rfl ?_
        show Steps p.tables e below (T104.setTop (mkF m 129 #[.val (.ref a1), .val (.ref c1), .val (.int s1), .val (.int e1), .val (.ref b1), .val (.int x5), .val (.int (0 : Int32)), .val (.int (2 : Int32)), .val (.int (50 : Int32))] [(.ref b1)])) _
        refine XS.iload X104.here hx rfl (hb hby dc21_129) rfl ?_
        show Steps p.tables e below (T104.setTop (mkF m 131 #[.val (.ref a1), .val (.ref c1), .val (.int s1), .val (.int e1), .val (.ref b1), .val (.int x5), .val (.int (0 : Int32)), .val (.int (2 : Int32)), .val (.int (50 : Int32))] [(.int x5), (.ref b1)])) _
        refine XS.iinc X104.here hx rfl (hb hby dc21_131) rfl (l' := #[.val (.ref a1), .val (.ref c1), .val (.int s1), .val (.int e1), .val (.ref b1), .val (.int (x5 + (1 : Int32))), .val (.int (0 : Int32)), .val (.int (2 : Int32)), .val (.int (50 : Int32))]) rfl ?_
        show Steps p.tables e below (T104.setTop (mkF m 134 #[.val (.ref a1), .val (.ref c1), .val (.int s1), .val (.int e1), .val (.ref b1), .val (.int (x5 + (1 : Int32))), .val (.int (0 : Int32)), .val (.int (2 : Int32)), .val (.int (50 : Int32))] [(.int x5), (.ref b1)])) _
        refine XS.aloadN X104.here hx rfl (hb hby dc21_134) rfl rfl ?_
        show Steps p.tables e below (T104.setTop (mkF m 135 #[.val (.ref a1), .val (.ref c1), .val (.int s1), .val (.int e1), .val (.ref b1), .val (.int (x5 + (1 : Int32))), .val (.int (0 : Int32)), .val (.int (2 : Int32)), .val (.int (50 : Int32))] [(.ref c1), (.int x5), (.ref b1)])) _
        refine XS.iload X104.here hx rfl (hb hby dc21_135) rfl ?_
        show Steps p.tables e below (T104.setTop (mkF m 137 #[.val (.ref a1), .val (.ref c1), .val (.int s1), .val (.int e1), .val (.ref b1), .val (.int (x5 + (1 : Int32))), .val (.int (0 : Int32)), .val (.int (2 : Int32)), .val (.int (50 : Int32))] [(.int (2 : Int32)), (.ref c1), (.int x5), (.ref b1)])) _
        refine X104.baloadBytes hx (j := (2 : Int32)) (v := (.int (50 : Int32))) (by rw [hh104]; exact Ar105.1) (State.isArrayOf_alike hZ.alike Ar105.2.1) Ar105.2.2 hin105 hat105 (g := (mkF m 137 #[.val (.ref a1), .val (.ref c1), .val (.int s1), .val (.int e1), .val (.ref b1), .val (.int (x5 + (1 : Int32))), .val (.int (0 : Int32)), .val (.int (2 : Int32)), .val (.int (50 : Int32))] [(.int (2 : Int32)), (.ref c1), (.int x5), (.ref b1)])) rfl rfl (hb hby dc21_137) _ ?_
        show Steps p.tables e below (T104.setTop (mkF m 138 #[.val (.ref a1), .val (.ref c1), .val (.int s1), .val (.int e1), .val (.ref b1), .val (.int (x5 + (1 : Int32))), .val (.int (0 : Int32)), .val (.int (2 : Int32)), .val (.int (50 : Int32))] [(.int (50 : Int32)), (.int x5), (.ref b1)])) _
        refine st107 _ ?_
        show Steps p.tables e below (T107.setTop (mkF m 139 #[.val (.ref a1), .val (.ref c1), .val (.int s1), .val (.int e1), .val (.ref b1), .val (.int (x5 + (1 : Int32))), .val (.int (0 : Int32)), .val (.int (2 : Int32)), .val (.int (50 : Int32))] [])) _
        refine XS.iinc X107.here hx rfl (hb hby dc21_139) rfl (l' := #[.val (.ref a1), .val (.ref c1), .val (.int s1), .val (.int e1), .val (.ref b1), .val (.int (x5 + (1 : Int32))), .val (.int (0 : Int32)), .val (.int (3 : Int32)), .val (.int (50 : Int32))]) rfl ?_
        show Steps p.tables e below (T107.setTop (mkF m 142 #[.val (.ref a1), .val (.ref c1), .val (.int s1), .val (.int e1), .val (.ref b1), .val (.int (x5 + (1 : Int32))), .val (.int (0 : Int32)), .val (.int (3 : Int32)), .val (.int (50 : Int32))] [])) _
        refine XS.goto X107.here hx rfl (pc0 := 142) (pc' := 48) rfl (hb hby dc21_142) (by decide) (by decide) ?_
        exact kt)
    have O109 : Old Z n0 h107 := (O0.wr W107 gb)
    have f110 := (Vc.other W107 nebc)
    obtain ⟨T', h', L', x7', w8', X', e', N', K', V', o8', st'⟩ := lp3 a1 c1 b1 k1 s1 e1 (x5 + (1 : Int32)) (.val (.int (50 : Int32))) X107 hx hZ hw hby hml hown e107 N107 O109 (One.val rfl) hs0 hse he8 (own_up2 hsk (by decide)) (own_up hc102 (by decide)) (by rw [h5]; exact own_st2 (own_se hs0 hse he8).1) f110 V107 nebc gb
    have K111 : Keep h0 h' [b1] := (Keep.trans (Keep.wr (Keep.refl h0 [b1]) W107 (Or.inl (List.mem_of_getElem? (i := 0) rfl))) K' (allS (P := fun x => x ∈ [b1] ∨ h0.size ≤ x) (Or.inl (List.mem_of_getElem? (i := 0) rfl)) all0))
    exact ⟨T', h', L', x7', w8', X', e', N', K111, V', o8', fun t kt => pre108 t (st' t kt)⟩
  · skip
    have pre112 : ∀ t, Steps p.tables e below (T0.setTop (mkF m 145 #[.val (.ref a1), .val (.ref c1), .val (.int s1), .val (.int e1), .val (.ref b1), .val (.int x5), .val (.int (0 : Int32)), .val (.int (2 : Int32)), w8] [])) t → Steps p.tables e below (T0.setTop (mkF m 48 #[.val (.ref a1), .val (.ref c1), .val (.int s1), .val (.int e1), .val (.ref b1), .val (.int x5), .val (.int (0 : Int32)), .val (.int (2 : Int32)), w8] [])) t := fun t kt => pre101 t (by
        show Steps p.tables e below (T0.setTop (mkF m 51 #[.val (.ref a1), .val (.ref c1), .val (.int s1), .val (.int e1), .val (.ref b1), .val (.int x5), .val (.int (0 : Int32)), .val (.int (2 : Int32)), w8] [(.int e1), (.int (2 : Int32))])) _
        refine XS.icmpYes X0.here hx rfl (pc0 := 51) (pc' := 145) rfl (hb hby dc21_51) rfl (flt hc102).2.1 (by decide) (by decide) ?_
        exact kt)
    have he : e1 = (2 : Int32) := own_anti hke hc102
    have h5e : x5 = own_len s1 e1 := by rw [he]; exact h5
    exact ⟨_, _, _, (2 : Int32), w8, X0, e0, N0, (Keep.refl h0 [b1]), Vb, hw8, fun t kt => by rw [← h5e] at kt; exact pre112 t kt⟩
set_option maxRecDepth 65536 in
set_option maxHeartbeats 40000000 in
theorem lp1 {p : Program} {l : Launch} {e : Env} {s : State} {m : MethodId} {args : Array Value} {below : List Frame} {meth : Method} {c : Code} {T0 : State} {locs : List Loc} {Z : State} {a0 : Array Value} {h0 : Heap} {n0 : Nat} (a1 c1 b1 : Addr) (k1 : ClassId) (s1 e1 x5 : Int32) (w8 : Slot)
    (X0 : Stand p l e ({ frames := 3, cells := 2, slots := 16, locals := 37 } : Room) s m args below meth c T0 locs 1 8) (hx : p.tables.exec = Jvm.exec) (hZ : Z.Warmed39 s.vm) (hw : ∀ d ∈ tables_1, d.before a0 Z = true) (hby : c.code = prog_47_method_10_code) (hml : c.maxLocals = 9) (hown : s.vm.findClass "com/example/keyfold/keyfold/JsonValue" = some m.cls) (e0 : T0.heap = h0) (N0 : Fr n0 locs) (O0 : Old Z n0 h0) (hw8 : One w8) (hs0 : ¬ s1 < (0 : Int32)) (hse : ¬ e1 < s1) (he8 : ¬ (8 : Int32) < e1) (hsk : ¬ (1 : Int32) < s1) (hke : ¬ e1 < (1 : Int32)) (h5 : x5 = own_len s1 (1 : Int32)) (Vc : Arv Z h0 c1 k1 .byte (8 : Int32) [(.int (49 : Int32)), (.int (32 : Int32)), (.int (50 : Int32)), (.int (32 : Int32)), (.int (51 : Int32)), (.int (32 : Int32)), (.int (52 : Int32)), (.int (32 : Int32))] (.int (0 : Int32))) (Vb : By Z h0 b1 (e1 - s1)) (nebc : c1 ≠ b1) (gb : n0 ≤ b1) :
    ∃ (T' : State) (h' : Heap) (L' : List Loc) (x7 : Int32) (w8' : Slot), Stand p l e ({ frames := 3, cells := 2, slots := 16, locals := 37 } : Room) s m args below meth c T' L' 1 8 ∧ T'.heap = h' ∧ Fr n0 L' ∧ Keep h0 h' [b1] ∧ By Z h' b1 (e1 - s1) ∧ One w8' ∧ ∀ t, Steps p.tables e below (T'.setTop (mkF m 145 #[.val (.ref a1), .val (.ref c1), .val (.int s1), .val (.int e1), .val (.ref b1), .val (.int (own_len s1 e1)), .val (.int (0 : Int32)), .val (.int x7), w8'] [])) t → Steps p.tables e below (T0.setTop (mkF m 48 #[.val (.ref a1), .val (.ref c1), .val (.int s1), .val (.int e1), .val (.ref b1), .val (.int x5), .val (.int (0 : Int32)), .val (.int (1 : Int32)), w8] [])) t := by
  have pre0 : ∀ t, Steps p.tables e below (T0.setTop (mkF m 48 #[.val (.ref a1), .val (.ref c1), .val (.int s1), .val (.int e1), .val (.ref b1), .val (.int x5), .val (.int (0 : Int32)), .val (.int (1 : Int32)), w8] [])) t → Steps p.tables e below (T0.setTop (mkF m 48 #[.val (.ref a1), .val (.ref c1), .val (.int s1), .val (.int e1), .val (.ref b1), .val (.int x5), .val (.int (0 : Int32)), .val (.int (1 : Int32)), w8] [])) t := fun _ k => k
  have pre101 : ∀ t, Steps p.tables e below (T0.setTop (mkF m 51 #[.val (.ref a1), .val (.ref c1), .val (.int s1), .val (.int e1), .val (.ref b1), .val (.int x5), .val (.int (0 : Int32)), .val (.int (1 : Int32)), w8] [(.int e1), (.int (1 : Int32))])) t → Steps p.tables e below (T0.setTop (mkF m 48 #[.val (.ref a1), .val (.ref c1), .val (.int s1), .val (.int e1), .val (.ref b1), .val (.int x5), .val (.int (0 : Int32)), .val (.int (1 : Int32)), w8] [])) t := fun t kt => pre0 t (by
      show Steps p.tables e below (T0.setTop (mkF m 48 #[.val (.ref a1), .val (.ref c1), .val (.int s1), .val (.int e1), .val (.ref b1), .val (.int x5), .val (.int (0 : Int32)), .val (.int (1 : Int32)), w8] [])) _
      refine XS.iload X0.here hx rfl (hb hby dc21_48) rfl ?_
      show Steps p.tables e below (T0.setTop (mkF m 50 #[.val (.ref a1), .val (.ref c1), .val (.int s1), .val (.int e1), .val (.ref b1), .val (.int x5), .val (.int (0 : Int32)), .val (.int (1 : Int32)), w8] [(.int (1 : Int32))])) _
      refine XS.iloadN X0.here hx rfl (hb hby dc21_50) rfl ?_
      exact kt)
  by_cases hc102 : (1 : Int32) < e1
  · skip
    obtain ⟨cl103, Ar103, q103, S103, N103_, H103, G103⟩ := id Vc
    have hin103 : ¬ ((1 : Int32) < 0 ∨ cl103.slots.size ≤ ((1 : Int32)).toNatClampNeg) := inb_of S103 ⟨by decide, by decide⟩
    have hat103 : cl103.slots[((1 : Int32)).toNatClampNeg]? = some (.int (32 : Int32)) := H103.at hin103 rfl
    obtain ⟨_, _, ⟨T104, L104, k104, n104⟩, -, X104, ⟨Lc104, hQ104, l104, y104, z104⟩, st104⟩ := Jvm.LawKit.callS X0 hx (y := (⟨"com/example/keyfold/keyfold/JsonParser", "isWhitespace", "(B)Z"⟩ : MethodName)) hown (mvT hZ (hw _ (List.mem_of_getElem? (i := 141) rfl))) (mvT hZ (hw _ (List.mem_of_getElem? (i := 142) rfl))) (mvT hZ (hw _ (List.mem_of_getElem? (i := 143) rfl))) (mvT hZ (hw _ (List.mem_of_getElem? (i := 144) rfl))) (by decide) (backOf (W := 0) (rmWs32 l Z a0 hw [] h0 n0 O0) hZ (hw _ (List.mem_of_getElem? (i := 144) rfl)) (hw _ (List.mem_of_getElem? (i := 143) rfl)) (by decide) (by decide)) (g := (mkF m 118 #[.val (.ref a1), .val (.ref c1), .val (.int s1), .val (.int e1), .val (.ref b1), .val (.int x5), .val (.int (0 : Int32)), .val (.int (1 : Int32)), .val (.int (32 : Int32))] [(.int (32 : Int32))])) rfl (by rw [hml]; rfl) (argsL := [(.int (32 : Int32))]) (rest := []) (lenOf pd_8 rfl) rfl (by show 2 * 0 + _ ≤ _; exact Nat.le_of_eq rfl) (hb hby dc21_118) (fun _ _ => ⟨rfl, e0, (by decide : 1 + 0 ≤ _), (by decide : 8 + 0 ≤ _)⟩)
    dsimp only [Pt.U, Pt.locs, Pt.cells, Pt.slots] at X104 l104 y104 z104 st104 hQ104
    subst l104 y104 z104
    obtain ⟨rfl, N104q, hh104⟩ := hQ104
    have N104 := Fr.app N0 N104q
    have pre105 : ∀ t, Steps p.tables e below (T104.setTop (mkF m 48 #[.val (.ref a1), .val (.ref c1), .val (.int s1), .val (.int e1), .val (.ref b1), .val (.int x5), .val (.int (0 : Int32)), .val (.int (2 : Int32)), .val (.int (32 : Int32))] [])) t → Steps p.tables e below (T0.setTop (mkF m 48 #[.val (.ref a1), .val (.ref c1), .val (.int s1), .val (.int e1), .val (.ref b1), .val (.int x5), .val (.int (0 : Int32)), .val (.int (1 : Int32)), w8] [])) t := fun t kt => pre101 t (by
        show Steps p.tables e below (T0.setTop (mkF m 51 #[.val (.ref a1), .val (.ref c1), .val (.int s1), .val (.int e1), .val (.ref b1), .val (.int x5), .val (.int (0 : Int32)), .val (.int (1 : Int32)), w8] [(.int e1), (.int (1 : Int32))])) _
        refine XS.icmpNo X0.here hx rfl (hb hby dc21_51) rfl (tlt hc102).2.1 ?_
        show Steps p.tables e below (T0.setTop (mkF m 54 #[.val (.ref a1), .val (.ref c1), .val (.int s1), .val (.int e1), .val (.ref b1), .val (.int x5), .val (.int (0 : Int32)), .val (.int (1 : Int32)), w8] [])) _
        refine XS.aloadN X0.here hx rfl (hb hby dc21_54) rfl rfl ?_
        show Steps p.tables e below (T0.setTop (mkF m 55 #[.val (.ref a1), .val (.ref c1), .val (.int s1), .val (.int e1), .val (.ref b1), .val (.int x5), .val (.int (0 : Int32)), .val (.int (1 : Int32)), w8] [(.ref c1)])) _
        refine XS.iload X0.here hx rfl (hb hby dc21_55) rfl ?_
        show Steps p.tables e below (T0.setTop (mkF m 57 #[.val (.ref a1), .val (.ref c1), .val (.int s1), .val (.int e1), .val (.ref b1), .val (.int x5), .val (.int (0 : Int32)), .val (.int (1 : Int32)), w8] [(.int (1 : Int32)), (.ref c1)])) _
        refine X0.baloadBytes hx (j := (1 : Int32)) (v := (.int (32 : Int32))) (by rw [e0]; exact Ar103.1) (State.isArrayOf_alike hZ.alike Ar103.2.1) Ar103.2.2 hin103 hat103 (g := (mkF m 57 #[.val (.ref a1), .val (.ref c1), .val (.int s1), .val (.int e1), .val (.ref b1), .val (.int x5), .val (.int (0 : Int32)), .val (.int (1 : Int32)), w8] [(.int (1 : Int32)), (.ref c1)])) rfl rfl (hb hby dc21_57) _ ?_
        show Steps p.tables e below (T0.setTop (mkF m 58 #[.val (.ref a1), .val (.ref c1), .val (.int s1), .val (.int e1), .val (.ref b1), .val (.int x5), .val (.int (0 : Int32)), .val (.int (1 : Int32)), w8] [(.int (32 : Int32))])) _
        refine XS.istore X0.here hx rfl (hb hby dc21_58) rfl (l' := #[.val (.ref a1), .val (.ref c1), .val (.int s1), .val (.int e1), .val (.ref b1), .val (.int x5), .val (.int (0 : Int32)), .val (.int (1 : Int32)), .val (.int (32 : Int32))]) (os_0 hw8) ?_
        show Steps p.tables e below (T0.setTop (mkF m 60 #[.val (.ref a1), .val (.ref c1), .val (.int s1), .val (.int e1), .val (.ref b1), .val (.int x5), .val (.int (0 : Int32)), .val (.int (1 : Int32)), .val (.int (32 : Int32))] [])) _
        refine XS.iload X0.here hx rfl (hb hby dc21_60) rfl ?_
        show Steps p.tables e below (T0.setTop (mkF m 62 #[.val (.ref a1), .val (.ref c1), .val (.int s1), .val (.int e1), .val (.ref b1), .val (.int x5), .val (.int (0 : Int32)), .val (.int (1 : Int32)), .val (.int (32 : Int32))] [(.int (0 : Int32))])) _
        refine XS.ifYes X0.here hx rfl (pc0 := 62) (pc' := 103) rfl (hb hby dc21_62) rfl (by decide) (by decide) (by decide) ?_
        show Steps p.tables e below (T0.setTop (mkF m 103 #[.val (.ref a1), .val (.ref c1), .val (.int s1), .val (.int e1), .val (.ref b1), .val (.int x5), .val (.int (0 : Int32)), .val (.int (1 : Int32)), .val (.int (32 : Int32))] [])) _
        refine XS.iload X0.here hx rfl (hb hby dc21_103) rfl ?_
        show Steps p.tables e below (T0.setTop (mkF m 105 #[.val (.ref a1), .val (.ref c1), .val (.int s1), .val (.int e1), .val (.ref b1), .val (.int x5), .val (.int (0 : Int32)), .val (.int (1 : Int32)), .val (.int (32 : Int32))] [(.int (32 : Int32))])) _
        refine XS.bipush X0.here hx rfl (hb hby dc21_105) ?_
        show Steps p.tables e below (T0.setTop (mkF m 107 #[.val (.ref a1), .val (.ref c1), .val (.int s1), .val (.int e1), .val (.ref b1), .val (.int x5), .val (.int (0 : Int32)), .val (.int (1 : Int32)), .val (.int (32 : Int32))] [(.int (34 : Int32)), (.int (32 : Int32))])) _
        refine XS.icmpYes X0.here hx rfl (pc0 := 107) (pc' := 116) rfl (hb hby dc21_107) rfl (by decide) (by decide) (by decide) ?_
        show Steps p.tables e below (T0.setTop (mkF m 116 #[.val (.ref a1), .val (.ref c1), .val (.int s1), .val (.int e1), .val (.ref b1), .val (.int x5), .val (.int (0 : Int32)), .val (.int (1 : Int32)), .val (.int (32 : Int32))] [])) _
        refine XS.iload X0.here hx rfl (hb hby dc21_116) rfl ?_
        show Steps p.tables e below (T0.setTop (mkF m 118 #[.val (.ref a1), .val (.ref c1), .val (.int s1), .val (.int e1), .val (.ref b1), .val (.int x5), .val (.int (0 : Int32)), .val (.int (1 : Int32)), .val (.int (32 : Int32))] [(.int (32 : Int32))])) _
        refine st104 _ ?_
        show Steps p.tables e below (T104.setTop (mkF m 121 #[.val (.ref a1), .val (.ref c1), .val (.int s1), .val (.int e1), .val (.ref b1), .val (.int x5), .val (.int (0 : Int32)), .val (.int (1 : Int32)), .val (.int (32 : Int32))] [(.int (1 : Int32))])) _
        refine XS.ifNo X104.here hx rfl (hb hby dc21_121) rfl (by decide) ?_
        show Steps p.tables e below (T104.setTop (mkF m 124 #[.val (.ref a1), .val (.ref c1), .val (.int s1), .val (.int e1), .val (.ref b1), .val (.int x5), .val (.int (0 : Int32)), .val (.int (1 : Int32)), .val (.int (32 : Int32))] [])) _
        refine XS.goto X104.here hx rfl (pc0 := 124) (pc' := 139) rfl (hb hby dc21_124) (by decide) (by decide) ?_
        show Steps p.tables e below (T104.setTop (mkF m 139 #[.val (.ref a1), .val (.ref c1), .val (.int s1), .val (.int e1), .val (.ref b1), .val (.int x5), .val (.int (0 : Int32)), .val (.int (1 : Int32)), .val (.int (32 : Int32))] [])) _
        refine XS.iinc X104.here hx rfl (hb hby dc21_139) rfl (l' := #[.val (.ref a1), .val (.ref c1), .val (.int s1), .val (.int e1), .val (.ref b1), .val (.int x5), .val (.int (0 : Int32)), .val (.int (2 : Int32)), .val (.int (32 : Int32))]) rfl ?_
        show Steps p.tables e below (T104.setTop (mkF m 142 #[.val (.ref a1), .val (.ref c1), .val (.int s1), .val (.int e1), .val (.ref b1), .val (.int x5), .val (.int (0 : Int32)), .val (.int (2 : Int32)), .val (.int (32 : Int32))] [])) _
        refine XS.goto X104.here hx rfl (pc0 := 142) (pc' := 48) rfl (hb hby dc21_142) (by decide) (by decide) ?_
        exact kt)
    obtain ⟨T', h', L', x7', w8', X', e', N', K', V', o8', st'⟩ := lp2 a1 c1 b1 k1 s1 e1 x5 (.val (.int (32 : Int32))) X104 hx hZ hw hby hml hown hh104 N104 O0 (One.val rfl) hs0 hse he8 (own_up2 hsk (by decide)) (own_up hc102 (by decide)) (by rw [h5]; exact own_st1 (own_se hs0 hse he8).1) Vc Vb nebc gb
    have K106 : Keep h0 h' [b1] := (Keep.trans (Keep.refl h0 [b1]) K' (allS (P := fun x => x ∈ [b1] ∨ h0.size ≤ x) (Or.inl (List.mem_of_getElem? (i := 0) rfl)) all0))
    exact ⟨T', h', L', x7', w8', X', e', N', K106, V', o8', fun t kt => pre105 t (st' t kt)⟩
  · skip
    have pre107 : ∀ t, Steps p.tables e below (T0.setTop (mkF m 145 #[.val (.ref a1), .val (.ref c1), .val (.int s1), .val (.int e1), .val (.ref b1), .val (.int x5), .val (.int (0 : Int32)), .val (.int (1 : Int32)), w8] [])) t → Steps p.tables e below (T0.setTop (mkF m 48 #[.val (.ref a1), .val (.ref c1), .val (.int s1), .val (.int e1), .val (.ref b1), .val (.int x5), .val (.int (0 : Int32)), .val (.int (1 : Int32)), w8] [])) t := fun t kt => pre101 t (by
        show Steps p.tables e below (T0.setTop (mkF m 51 #[.val (.ref a1), .val (.ref c1), .val (.int s1), .val (.int e1), .val (.ref b1), .val (.int x5), .val (.int (0 : Int32)), .val (.int (1 : Int32)), w8] [(.int e1), (.int (1 : Int32))])) _
        refine XS.icmpYes X0.here hx rfl (pc0 := 51) (pc' := 145) rfl (hb hby dc21_51) rfl (flt hc102).2.1 (by decide) (by decide) ?_
        exact kt)
    have he : e1 = (1 : Int32) := own_anti hke hc102
    have h5e : x5 = own_len s1 e1 := by rw [he]; exact h5
    exact ⟨_, _, _, (1 : Int32), w8, X0, e0, N0, (Keep.refl h0 [b1]), Vb, hw8, fun t kt => by rw [← h5e] at kt; exact pre107 t kt⟩
set_option maxRecDepth 65536 in
set_option maxHeartbeats 40000000 in
theorem lp0 {p : Program} {l : Launch} {e : Env} {s : State} {m : MethodId} {args : Array Value} {below : List Frame} {meth : Method} {c : Code} {T0 : State} {locs : List Loc} {Z : State} {a0 : Array Value} {h0 : Heap} {n0 : Nat} (a1 c1 b1 : Addr) (k1 : ClassId) (s1 e1 x5 : Int32) (w8 : Slot)
    (X0 : Stand p l e ({ frames := 3, cells := 2, slots := 16, locals := 37 } : Room) s m args below meth c T0 locs 1 8) (hx : p.tables.exec = Jvm.exec) (hZ : Z.Warmed39 s.vm) (hw : ∀ d ∈ tables_1, d.before a0 Z = true) (hby : c.code = prog_47_method_10_code) (hml : c.maxLocals = 9) (hown : s.vm.findClass "com/example/keyfold/keyfold/JsonValue" = some m.cls) (e0 : T0.heap = h0) (N0 : Fr n0 locs) (O0 : Old Z n0 h0) (hw8 : One w8) (hs0 : ¬ s1 < (0 : Int32)) (hse : ¬ e1 < s1) (he8 : ¬ (8 : Int32) < e1) (hsk : ¬ (0 : Int32) < s1) (hke : ¬ e1 < (0 : Int32)) (h5 : x5 = own_len s1 (0 : Int32)) (Vc : Arv Z h0 c1 k1 .byte (8 : Int32) [(.int (49 : Int32)), (.int (32 : Int32)), (.int (50 : Int32)), (.int (32 : Int32)), (.int (51 : Int32)), (.int (32 : Int32)), (.int (52 : Int32)), (.int (32 : Int32))] (.int (0 : Int32))) (Vb : By Z h0 b1 (e1 - s1)) (nebc : c1 ≠ b1) (gb : n0 ≤ b1) :
    ∃ (T' : State) (h' : Heap) (L' : List Loc) (x7 : Int32) (w8' : Slot), Stand p l e ({ frames := 3, cells := 2, slots := 16, locals := 37 } : Room) s m args below meth c T' L' 1 8 ∧ T'.heap = h' ∧ Fr n0 L' ∧ Keep h0 h' [b1] ∧ By Z h' b1 (e1 - s1) ∧ One w8' ∧ ∀ t, Steps p.tables e below (T'.setTop (mkF m 145 #[.val (.ref a1), .val (.ref c1), .val (.int s1), .val (.int e1), .val (.ref b1), .val (.int (own_len s1 e1)), .val (.int (0 : Int32)), .val (.int x7), w8'] [])) t → Steps p.tables e below (T0.setTop (mkF m 48 #[.val (.ref a1), .val (.ref c1), .val (.int s1), .val (.int e1), .val (.ref b1), .val (.int x5), .val (.int (0 : Int32)), .val (.int (0 : Int32)), w8] [])) t := by
  have pre0 : ∀ t, Steps p.tables e below (T0.setTop (mkF m 48 #[.val (.ref a1), .val (.ref c1), .val (.int s1), .val (.int e1), .val (.ref b1), .val (.int x5), .val (.int (0 : Int32)), .val (.int (0 : Int32)), w8] [])) t → Steps p.tables e below (T0.setTop (mkF m 48 #[.val (.ref a1), .val (.ref c1), .val (.int s1), .val (.int e1), .val (.ref b1), .val (.int x5), .val (.int (0 : Int32)), .val (.int (0 : Int32)), w8] [])) t := fun _ k => k
  have pre101 : ∀ t, Steps p.tables e below (T0.setTop (mkF m 51 #[.val (.ref a1), .val (.ref c1), .val (.int s1), .val (.int e1), .val (.ref b1), .val (.int x5), .val (.int (0 : Int32)), .val (.int (0 : Int32)), w8] [(.int e1), (.int (0 : Int32))])) t → Steps p.tables e below (T0.setTop (mkF m 48 #[.val (.ref a1), .val (.ref c1), .val (.int s1), .val (.int e1), .val (.ref b1), .val (.int x5), .val (.int (0 : Int32)), .val (.int (0 : Int32)), w8] [])) t := fun t kt => pre0 t (by
      show Steps p.tables e below (T0.setTop (mkF m 48 #[.val (.ref a1), .val (.ref c1), .val (.int s1), .val (.int e1), .val (.ref b1), .val (.int x5), .val (.int (0 : Int32)), .val (.int (0 : Int32)), w8] [])) _
      refine XS.iload X0.here hx rfl (hb hby dc21_48) rfl ?_
      show Steps p.tables e below (T0.setTop (mkF m 50 #[.val (.ref a1), .val (.ref c1), .val (.int s1), .val (.int e1), .val (.ref b1), .val (.int x5), .val (.int (0 : Int32)), .val (.int (0 : Int32)), w8] [(.int (0 : Int32))])) _
      refine XS.iloadN X0.here hx rfl (hb hby dc21_50) rfl ?_
      exact kt)
  by_cases hc102 : (0 : Int32) < e1
  · skip
    obtain ⟨cl103, Ar103, q103, S103, N103_, H103, G103⟩ := id Vc
    have hin103 : ¬ ((0 : Int32) < 0 ∨ cl103.slots.size ≤ ((0 : Int32)).toNatClampNeg) := inb_of S103 ⟨by decide, by decide⟩
    have hat103 : cl103.slots[((0 : Int32)).toNatClampNeg]? = some (.int (49 : Int32)) := H103.at hin103 rfl
    obtain ⟨_, _, ⟨T104, L104, k104, n104⟩, -, X104, ⟨Lc104, hQ104, l104, y104, z104⟩, st104⟩ := Jvm.LawKit.callS X0 hx (y := (⟨"com/example/keyfold/keyfold/JsonParser", "isWhitespace", "(B)Z"⟩ : MethodName)) hown (mvT hZ (hw _ (List.mem_of_getElem? (i := 141) rfl))) (mvT hZ (hw _ (List.mem_of_getElem? (i := 142) rfl))) (mvT hZ (hw _ (List.mem_of_getElem? (i := 143) rfl))) (mvT hZ (hw _ (List.mem_of_getElem? (i := 144) rfl))) (by decide) (backOf (W := 0) (rmWs49 l Z a0 hw [] h0 n0 O0) hZ (hw _ (List.mem_of_getElem? (i := 144) rfl)) (hw _ (List.mem_of_getElem? (i := 143) rfl)) (by decide) (by decide)) (g := (mkF m 118 #[.val (.ref a1), .val (.ref c1), .val (.int s1), .val (.int e1), .val (.ref b1), .val (.int x5), .val (.int (0 : Int32)), .val (.int (0 : Int32)), .val (.int (49 : Int32))] [(.int (49 : Int32))])) rfl (by rw [hml]; rfl) (argsL := [(.int (49 : Int32))]) (rest := []) (lenOf pd_8 rfl) rfl (by show 2 * 0 + _ ≤ _; exact Nat.le_of_eq rfl) (hb hby dc21_118) (fun _ _ => ⟨rfl, e0, (by decide : 1 + 0 ≤ _), (by decide : 8 + 0 ≤ _)⟩)
    dsimp only [Pt.U, Pt.locs, Pt.cells, Pt.slots] at X104 l104 y104 z104 st104 hQ104
    subst l104 y104 z104
    obtain ⟨rfl, N104q, hh104⟩ := hQ104
    have N104 := Fr.app N0 N104q
    obtain ⟨cl105, Ar105, q105, S105, N105_, H105, G105⟩ := id Vc
    have hin105 : ¬ ((0 : Int32) < 0 ∨ cl105.slots.size ≤ ((0 : Int32)).toNatClampNeg) := inb_of S105 ⟨by decide, by decide⟩
    have hat105 : cl105.slots[((0 : Int32)).toNatClampNeg]? = some (.int (49 : Int32)) := H105.at hin105 rfl
    obtain ⟨cl106, Ar106, hin106, up106⟩ := By.up (j := x5) Vb (by rw [h5]; exact own_in0 (own_se hs0 hse he8).1 (own_se hs0 hse he8).2 hsk hc102)
    obtain ⟨T107, h107, X107, e107, W107, st107⟩ := stB X104 hx hZ hh104 Ar106 (j := x5) hin106 (g := (mkF m 138 #[.val (.ref a1), .val (.ref c1), .val (.int s1), .val (.int e1), .val (.ref b1), .val (.int (x5 + (1 : Int32))), .val (.int (0 : Int32)), .val (.int (0 : Int32)), .val (.int (49 : Int32))] [(.int (49 : Int32)), (.int x5), (.ref b1)])) rfl rfl (hb hby dc21_138)
    have V107 : By Z h107 b1 (e1 - s1) := up106 _ _ W107
    have N107 := Fr.snoc X107 N104 gb
    have pre108 : ∀ t, Steps p.tables e below (T107.setTop (mkF m 48 #[.val (.ref a1), .val (.ref c1), .val (.int s1), .val (.int e1), .val (.ref b1), .val (.int (x5 + (1 : Int32))), .val (.int (0 : Int32)), .val (.int (1 : Int32)), .val (.int (49 : Int32))] [])) t → Steps p.tables e below (T0.setTop (mkF m 48 #[.val (.ref a1), .val (.ref c1), .val (.int s1), .val (.int e1), .val (.ref b1), .val (.int x5), .val (.int (0 : Int32)), .val (.int (0 : Int32)), w8] [])) t := fun t kt => pre101 t (by
        show Steps p.tables e below (T0.setTop (mkF m 51 #[.val (.ref a1), .val (.ref c1), .val (.int s1), .val (.int e1), .val (.ref b1), .val (.int x5), .val (.int (0 : Int32)), .val (.int (0 : Int32)), w8] [(.int e1), (.int (0 : Int32))])) _
        refine XS.icmpNo X0.here hx rfl (hb hby dc21_51) rfl (tlt hc102).2.1 ?_
        show Steps p.tables e below (T0.setTop (mkF m 54 #[.val (.ref a1), .val (.ref c1), .val (.int s1), .val (.int e1), .val (.ref b1), .val (.int x5), .val (.int (0 : Int32)), .val (.int (0 : Int32)), w8] [])) _
        refine XS.aloadN X0.here hx rfl (hb hby dc21_54) rfl rfl ?_
        show Steps p.tables e below (T0.setTop (mkF m 55 #[.val (.ref a1), .val (.ref c1), .val (.int s1), .val (.int e1), .val (.ref b1), .val (.int x5), .val (.int (0 : Int32)), .val (.int (0 : Int32)), w8] [(.ref c1)])) _
        refine XS.iload X0.here hx rfl (hb hby dc21_55) rfl ?_
        show Steps p.tables e below (T0.setTop (mkF m 57 #[.val (.ref a1), .val (.ref c1), .val (.int s1), .val (.int e1), .val (.ref b1), .val (.int x5), .val (.int (0 : Int32)), .val (.int (0 : Int32)), w8] [(.int (0 : Int32)), (.ref c1)])) _
        refine X0.baloadBytes hx (j := (0 : Int32)) (v := (.int (49 : Int32))) (by rw [e0]; exact Ar103.1) (State.isArrayOf_alike hZ.alike Ar103.2.1) Ar103.2.2 hin103 hat103 (g := (mkF m 57 #[.val (.ref a1), .val (.ref c1), .val (.int s1), .val (.int e1), .val (.ref b1), .val (.int x5), .val (.int (0 : Int32)), .val (.int (0 : Int32)), w8] [(.int (0 : Int32)), (.ref c1)])) rfl rfl (hb hby dc21_57) _ ?_
        show Steps p.tables e below (T0.setTop (mkF m 58 #[.val (.ref a1), .val (.ref c1), .val (.int s1), .val (.int e1), .val (.ref b1), .val (.int x5), .val (.int (0 : Int32)), .val (.int (0 : Int32)), w8] [(.int (49 : Int32))])) _
        refine XS.istore X0.here hx rfl (hb hby dc21_58) rfl (l' := #[.val (.ref a1), .val (.ref c1), .val (.int s1), .val (.int e1), .val (.ref b1), .val (.int x5), .val (.int (0 : Int32)), .val (.int (0 : Int32)), .val (.int (49 : Int32))]) (os_0 hw8) ?_
        show Steps p.tables e below (T0.setTop (mkF m 60 #[.val (.ref a1), .val (.ref c1), .val (.int s1), .val (.int e1), .val (.ref b1), .val (.int x5), .val (.int (0 : Int32)), .val (.int (0 : Int32)), .val (.int (49 : Int32))] [])) _
        refine XS.iload X0.here hx rfl (hb hby dc21_60) rfl ?_
        show Steps p.tables e below (T0.setTop (mkF m 62 #[.val (.ref a1), .val (.ref c1), .val (.int s1), .val (.int e1), .val (.ref b1), .val (.int x5), .val (.int (0 : Int32)), .val (.int (0 : Int32)), .val (.int (49 : Int32))] [(.int (0 : Int32))])) _
        refine XS.ifYes X0.here hx rfl (pc0 := 62) (pc' := 103) rfl (hb hby dc21_62) rfl (by decide) (by decide) (by decide) ?_
        show Steps p.tables e below (T0.setTop (mkF m 103 #[.val (.ref a1), .val (.ref c1), .val (.int s1), .val (.int e1), .val (.ref b1), .val (.int x5), .val (.int (0 : Int32)), .val (.int (0 : Int32)), .val (.int (49 : Int32))] [])) _
        refine XS.iload X0.here hx rfl (hb hby dc21_103) rfl ?_
        show Steps p.tables e below (T0.setTop (mkF m 105 #[.val (.ref a1), .val (.ref c1), .val (.int s1), .val (.int e1), .val (.ref b1), .val (.int x5), .val (.int (0 : Int32)), .val (.int (0 : Int32)), .val (.int (49 : Int32))] [(.int (49 : Int32))])) _
        refine XS.bipush X0.here hx rfl (hb hby dc21_105) ?_
        show Steps p.tables e below (T0.setTop (mkF m 107 #[.val (.ref a1), .val (.ref c1), .val (.int s1), .val (.int e1), .val (.ref b1), .val (.int x5), .val (.int (0 : Int32)), .val (.int (0 : Int32)), .val (.int (49 : Int32))] [(.int (34 : Int32)), (.int (49 : Int32))])) _
        refine XS.icmpYes X0.here hx rfl (pc0 := 107) (pc' := 116) rfl (hb hby dc21_107) rfl (by decide) (by decide) (by decide) ?_
        show Steps p.tables e below (T0.setTop (mkF m 116 #[.val (.ref a1), .val (.ref c1), .val (.int s1), .val (.int e1), .val (.ref b1), .val (.int x5), .val (.int (0 : Int32)), .val (.int (0 : Int32)), .val (.int (49 : Int32))] [])) _
        refine XS.iload X0.here hx rfl (hb hby dc21_116) rfl ?_
        show Steps p.tables e below (T0.setTop (mkF m 118 #[.val (.ref a1), .val (.ref c1), .val (.int s1), .val (.int e1), .val (.ref b1), .val (.int x5), .val (.int (0 : Int32)), .val (.int (0 : Int32)), .val (.int (49 : Int32))] [(.int (49 : Int32))])) _
        refine st104 _ ?_
        show Steps p.tables e below (T104.setTop (mkF m 121 #[.val (.ref a1), .val (.ref c1), .val (.int s1), .val (.int e1), .val (.ref b1), .val (.int x5), .val (.int (0 : Int32)), .val (.int (0 : Int32)), .val (.int (49 : Int32))] [(.int (0 : Int32))])) _
        refine XS.ifYes X104.here hx rfl (pc0 := 121) (pc' := 127) rfl (hb hby dc21_121) rfl (by decide) (by decide) (by decide) ?_
        show Steps p.tables e below (T104.setTop (mkF m 127 #[.val (.ref a1), .val (.ref c1), .val (.int s1), .val (.int e1), .val (.ref b1), .val (.int x5), .val (.int (0 : Int32)), .val (.int (0 : Int32)), .val (.int (49 : Int32))] [])) _
        refine XS.aload X104.here hx rfl (hb hby dc21_127) rfl rfl ?_
        show Steps p.tables e below (T104.setTop (mkF m 129 #[.val (.ref a1), .val (.ref c1), .val (.int s1), .val (.int e1), .val (.ref b1), .val (.int x5), .val (.int (0 : Int32)), .val (.int (0 : Int32)), .val (.int (49 : Int32))] [(.ref b1)])) _
        refine XS.iload X104.here hx rfl (hb hby dc21_129) rfl ?_
        show Steps p.tables e below (T104.setTop (mkF m 131 #[.val (.ref a1), .val (.ref c1), .val (.int s1), .val (.int e1), .val (.ref b1), .val (.int x5), .val (.int (0 : Int32)), .val (.int (0 : Int32)), .val (.int (49 : Int32))] [(.int x5), (.ref b1)])) _
        refine XS.iinc X104.here hx rfl (hb hby dc21_131) rfl (l' := #[.val (.ref a1), .val (.ref c1), .val (.int s1), .val (.int e1), .val (.ref b1), .val (.int (x5 + (1 : Int32))), .val (.int (0 : Int32)), .val (.int (0 : Int32)), .val (.int (49 : Int32))]) rfl ?_
        show Steps p.tables e below (T104.setTop (mkF m 134 #[.val (.ref a1), .val (.ref c1), .val (.int s1), .val (.int e1), .val (.ref b1), .val (.int (x5 + (1 : Int32))), .val (.int (0 : Int32)), .val (.int (0 : Int32)), .val (.int (49 : Int32))] [(.int x5), (.ref b1)])) _
        refine XS.aloadN X104.here hx rfl (hb hby dc21_134) rfl rfl ?_
        show Steps p.tables e below (T104.setTop (mkF m 135 #[.val (.ref a1), .val (.ref c1), .val (.int s1), .val (.int e1), .val (.ref b1), .val (.int (x5 + (1 : Int32))), .val (.int (0 : Int32)), .val (.int (0 : Int32)), .val (.int (49 : Int32))] [(.ref c1), (.int x5), (.ref b1)])) _
        refine XS.iload X104.here hx rfl (hb hby dc21_135) rfl ?_
        show Steps p.tables e below (T104.setTop (mkF m 137 #[.val (.ref a1), .val (.ref c1), .val (.int s1), .val (.int e1), .val (.ref b1), .val (.int (x5 + (1 : Int32))), .val (.int (0 : Int32)), .val (.int (0 : Int32)), .val (.int (49 : Int32))] [(.int (0 : Int32)), (.ref c1), (.int x5), (.ref b1)])) _
        refine X104.baloadBytes hx (j := (0 : Int32)) (v := (.int (49 : Int32))) (by rw [hh104]; exact Ar105.1) (State.isArrayOf_alike hZ.alike Ar105.2.1) Ar105.2.2 hin105 hat105 (g := (mkF m 137 #[.val (.ref a1), .val (.ref c1), .val (.int s1), .val (.int e1), .val (.ref b1), .val (.int (x5 + (1 : Int32))), .val (.int (0 : Int32)), .val (.int (0 : Int32)), .val (.int (49 : Int32))] [(.int (0 : Int32)), (.ref c1), (.int x5), (.ref b1)])) rfl rfl (hb hby dc21_137) _ ?_
        show Steps p.tables e below (T104.setTop (mkF m 138 #[.val (.ref a1), .val (.ref c1), .val (.int s1), .val (.int e1), .val (.ref b1), .val (.int (x5 + (1 : Int32))), .val (.int (0 : Int32)), .val (.int (0 : Int32)), .val (.int (49 : Int32))] [(.int (49 : Int32)), (.int x5), (.ref b1)])) _
        refine st107 _ ?_
        show Steps p.tables e below (T107.setTop (mkF m 139 #[.val (.ref a1), .val (.ref c1), .val (.int s1), .val (.int e1), .val (.ref b1), .val (.int (x5 + (1 : Int32))), .val (.int (0 : Int32)), .val (.int (0 : Int32)), .val (.int (49 : Int32))] [])) _
        refine XS.iinc X107.here hx rfl (hb hby dc21_139) rfl (l' := #[.val (.ref a1), .val (.ref c1), .val (.int s1), .val (.int e1), .val (.ref b1), .val (.int (x5 + (1 : Int32))), .val (.int (0 : Int32)), .val (.int (1 : Int32)), .val (.int (49 : Int32))]) rfl ?_
        show Steps p.tables e below (T107.setTop (mkF m 142 #[.val (.ref a1), .val (.ref c1), .val (.int s1), .val (.int e1), .val (.ref b1), .val (.int (x5 + (1 : Int32))), .val (.int (0 : Int32)), .val (.int (1 : Int32)), .val (.int (49 : Int32))] [])) _
        refine XS.goto X107.here hx rfl (pc0 := 142) (pc' := 48) rfl (hb hby dc21_142) (by decide) (by decide) ?_
        exact kt)
    have O109 : Old Z n0 h107 := (O0.wr W107 gb)
    have f110 := (Vc.other W107 nebc)
    obtain ⟨T', h', L', x7', w8', X', e', N', K', V', o8', st'⟩ := lp1 a1 c1 b1 k1 s1 e1 (x5 + (1 : Int32)) (.val (.int (49 : Int32))) X107 hx hZ hw hby hml hown e107 N107 O109 (One.val rfl) hs0 hse he8 (own_up2 hsk (by decide)) (own_up hc102 (by decide)) (by rw [h5]; exact own_st0 (own_se hs0 hse he8).1) f110 V107 nebc gb
    have K111 : Keep h0 h' [b1] := (Keep.trans (Keep.wr (Keep.refl h0 [b1]) W107 (Or.inl (List.mem_of_getElem? (i := 0) rfl))) K' (allS (P := fun x => x ∈ [b1] ∨ h0.size ≤ x) (Or.inl (List.mem_of_getElem? (i := 0) rfl)) all0))
    exact ⟨T', h', L', x7', w8', X', e', N', K111, V', o8', fun t kt => pre108 t (st' t kt)⟩
  · skip
    have pre112 : ∀ t, Steps p.tables e below (T0.setTop (mkF m 145 #[.val (.ref a1), .val (.ref c1), .val (.int s1), .val (.int e1), .val (.ref b1), .val (.int x5), .val (.int (0 : Int32)), .val (.int (0 : Int32)), w8] [])) t → Steps p.tables e below (T0.setTop (mkF m 48 #[.val (.ref a1), .val (.ref c1), .val (.int s1), .val (.int e1), .val (.ref b1), .val (.int x5), .val (.int (0 : Int32)), .val (.int (0 : Int32)), w8] [])) t := fun t kt => pre101 t (by
        show Steps p.tables e below (T0.setTop (mkF m 51 #[.val (.ref a1), .val (.ref c1), .val (.int s1), .val (.int e1), .val (.ref b1), .val (.int x5), .val (.int (0 : Int32)), .val (.int (0 : Int32)), w8] [(.int e1), (.int (0 : Int32))])) _
        refine XS.icmpYes X0.here hx rfl (pc0 := 51) (pc' := 145) rfl (hb hby dc21_51) rfl (flt hc102).2.1 (by decide) (by decide) ?_
        exact kt)
    have he : e1 = (0 : Int32) := own_anti hke hc102
    have h5e : x5 = own_len s1 e1 := by rw [he]; exact h5
    exact ⟨_, _, _, (0 : Int32), w8, X0, e0, N0, (Keep.refl h0 [b1]), Vb, hw8, fun t kt => by rw [← h5e] at kt; exact pre112 t kt⟩
theorem dc21_32 : decode prog_47_method_10_code 32 = .ok (.iload_n 3, 1) := by decide +kernel
theorem dc21_33 : decode prog_47_method_10_code 33 = .ok (.iload_n 2, 1) := by decide +kernel
theorem dc21_34 : decode prog_47_method_10_code 34 = .ok (.isub, 1) := by decide +kernel
theorem dc21_35 : decode prog_47_method_10_code 35 = .ok (.newarray .byte, 2) := by decide +kernel
theorem dc21_37 : decode prog_47_method_10_code 37 = .ok (.astore 4, 2) := by decide +kernel
theorem dc21_39 : decode prog_47_method_10_code 39 = .ok (.iconst 0, 1) := by decide +kernel
theorem dc21_40 : decode prog_47_method_10_code 40 = .ok (.istore 5, 2) := by decide +kernel
theorem dc21_42 : decode prog_47_method_10_code 42 = .ok (.iconst 0, 1) := by decide +kernel
theorem dc21_43 : decode prog_47_method_10_code 43 = .ok (.istore 6, 2) := by decide +kernel
theorem dc21_45 : decode prog_47_method_10_code 45 = .ok (.iload_n 2, 1) := by decide +kernel
theorem dc21_46 : decode prog_47_method_10_code 46 = .ok (.istore 7, 2) := by decide +kernel
theorem dc21_145 : decode prog_47_method_10_code 145 = .ok (.aload 4, 2) := by decide +kernel
theorem dc21_147 : decode prog_47_method_10_code 147 = .ok (.iload 5, 2) := by decide +kernel
theorem dc21_149 : decode prog_47_method_10_code 149 = .ok (.invokestatic 135, 3) := by decide +kernel
theorem pd_9 : parseMethodDescriptor "([BI)[B" = some ⟨[(.array .byte), .int], some (.array .byte)⟩ := by decide +kernel
theorem dc21_152 : decode prog_47_method_10_code 152 = .ok (.areturn, 1) := by decide +kernel
set_option maxRecDepth 65536 in
set_option maxHeartbeats 40000000 in
theorem rmCo1 (l : Launch) (Z : State) (a0 : Array Value) (hw : ∀ d ∈ tables_1, d.before a0 Z = true) (ws : List Jvm.Cond) (aK a_OBJECT a_ARRAY a_STRING a_NUMBER a_TRUE a_FALSE a_NULL : Addr) (a1 t1 br c1 : Addr) (k1 : ClassId) (xs : List Int32) (r0 s1 e1 r3 : Int32) (h0 : Heap) (n0 : Nat) (O0 : Old Z n0 h0) (En : OwnEnv Z aK a_OBJECT a_ARRAY a_STRING a_NUMBER a_TRUE a_FALSE a_NULL) (Ev : Exa Z h0 a1 "com/example/keyfold/keyfold/JsonValue") (Ft : Fld Z h0 a1 "com/example/keyfold/keyfold/JsonValue" "tape" "Lcom/example/keyfold/keyfold/JsonValue$Tape;" (.ref t1)) (Fi : Fld Z h0 a1 "com/example/keyfold/keyfold/JsonValue" "index" "I" (.int (0 : Int32))) (Fq : Fld Z h0 t1 "com/example/keyfold/keyfold/JsonValue$Tape" "records" "[I" (.ref br)) (Lq : La Z h0 br .int (64 : Int32) xs) (Fs : Fld Z h0 t1 "com/example/keyfold/keyfold/JsonValue$Tape" "source" "[B" (.ref c1)) (Ec : Exa Z h0 c1 "[B") (Vc : Arv Z h0 c1 k1 .byte (8 : Int32) [(.int (49 : Int32)), (.int (32 : Int32)), (.int (50 : Int32)), (.int (32 : Int32)), (.int (51 : Int32)), (.int (32 : Int32)), (.int (52 : Int32)), (.int (32 : Int32))] (.int (0 : Int32))) (Rc : Rec xs r0 s1 e1 r3) (hs0 : ¬ s1 < (0 : Int32)) (hse : ¬ e1 < s1) (he8 : ¬ (8 : Int32) < e1) (hsp : ¬ ((r0 &&& (8 : Int32)) = (0 : Int32))) :
    MetFree l (⟨"com/example/keyfold/keyfold/JsonValue", "compact", "()[B"⟩ : MethodName) (head1 (Jvm.Cond.code (⟨"com/example/keyfold/keyfold/JsonValue", "compact", "()[B"⟩ : MethodName) prog_47_method_10_code 9 (some (.array .byte)) :: ws) ({ frames := 3, cells := 2, slots := 16, locals := 37 } : Room)) (fun a U => a = #[(.ref a1)] ∧ Z.Warmed39 U.vm ∧ U.heap = h0) (fun _ _ _ _ _ => True) (fun _ U o U' => ∃ v L, o = .returned v ∧ Q_nb Z (own_len s1 e1) h0 n0 v U'.heap L ∧ FrameEnd U o U' L ({ frames := 3, cells := 2, slots := 16, locals := 37 } : Room).cells ({ frames := 3, cells := 2, slots := 16, locals := 37 } : Room).slots) := by
  refine MetFree.of_bodySF (plainFor_of_name pn_3) hisR ?_
  intro p e s m args below meth c s₁ Bd hml0 hP hK
  obtain ⟨rfl, hZ, hh⟩ := hP
  have hx := Bd.exec
  have hby := Bd.bytes
  have hml : c.maxLocals = 9 := hml0
  have hown : s.vm.findClass "com/example/keyfold/keyfold/JsonValue" = some m.cls := findClass_of_methodNamed Bd.named
  have hnm := (name_of_methodNamed Bd.named Bd.method).1
  have X0 : Stand p l e ({ frames := 3, cells := 2, slots := 16, locals := 37 } : Room) s m #[(.ref a1)] below meth c s₁ [] 0 0 := Stand.of_body Bd
  have e0 : s₁.heap = h0 := by rw [← hh, Bd.state]; rfl
  have N0 := Fr.nil n0
  have pre0 : ∀ t, Steps p.tables e below (s₁.setTop (mkF m 0 #[.val (.ref a1), .unset, .unset, .unset, .unset, .unset, .unset, .unset, .unset] [])) t → Steps p.tables e below (s₁.setTop (entryFrame m #[(.ref a1)] 9)) t := fun t k => castTop (ef_12 m a1) k
  obtain ⟨S_K, S_D, S_OBJECT, K_OBJECT, S_ARRAY, K_ARRAY, S_STRING, K_STRING, S_NUMBER, K_NUMBER, S_TRUE, K_TRUE, S_FALSE, K_FALSE, S_NULL, K_NULL⟩ := id En
  have ok := own_oks hs0 hse he8
  obtain ⟨T101, X101, e101, st101⟩ := getF X0 hx hZ hown (host := "") (Or.inl (hw _ (List.mem_of_getElem? (i := 67) rfl))) Via.refl e0 Ft (g := (mkF m 1 #[.val (.ref a1), .unset, .unset, .unset, .unset, .unset, .unset, .unset, .unset] [(.ref a1)])) rfl rfl (hb hby dc21_1)
  obtain ⟨T102, X102, e102, st102⟩ := getRef X101 hx hZ hown (hw _ (List.mem_of_getElem? (i := 112) rfl)) e101 Fs (g := (mkF m 4 #[.val (.ref a1), .unset, .unset, .unset, .unset, .unset, .unset, .unset, .unset] [(.ref t1)])) rfl rfl (hb hby dc21_4)
  obtain ⟨cq103, kq103, q103a, q103b, q103c⟩ := isOf hZ e102 Ev
  obtain ⟨_, _, ⟨T103, L103, k103, n103⟩, -, X103, ⟨Lc103, hQ103, l103, y103, z103⟩, st103⟩ := X102.virtualBack hx (y := (⟨"com/example/keyfold/keyfold/JsonValue", "start", "()I"⟩ : MethodName)) (z := (⟨"com/example/keyfold/keyfold/JsonValue", "start", "()I"⟩ : MethodName)) hown (mvT hZ (hw _ (List.mem_of_getElem? (i := 113) rfl))) (mvT hZ (hw _ (List.mem_of_getElem? (i := 93) rfl))) (notFace_of_selects (args := #[]) (mvT hZ (hw _ (List.mem_of_getElem? (i := 95) rfl)))) (mvT hZ (hw _ (List.mem_of_getElem? (i := 95) rfl))) (mvT hZ (hw _ (List.mem_of_getElem? (i := 94) rfl))) (by decide) (backOf (W := 0) (rm_st l Z a0 hw [] aK a_OBJECT a_ARRAY a_STRING a_NUMBER a_TRUE a_FALSE a_NULL a1 t1 br xs r0 s1 e1 r3 h0 n0 O0 En Ev Ft Fi Fq Lq Rc) hZ (hw _ (List.mem_of_getElem? (i := 96) rfl)) (hw _ (List.mem_of_getElem? (i := 62) rfl)) (by decide) (by decide)) q103a q103c (g := (mkF m 9 #[.val (.ref a1), .val (.ref c1), .unset, .unset, .unset, .unset, .unset, .unset, .unset] [(.ref a1)])) rfl (by rw [hml]; rfl) (Steps.refl _) (argsL := []) (rest := []) (lenOf pd_0 rfl) rfl (by show 2 * 0 + _ ≤ _; exact Nat.le_of_eq rfl) (hb hby dc21_9) (fun _ _ => ⟨rfl, e102, (by decide : 0 + 0 ≤ _), (by decide : 0 + 0 ≤ _)⟩)
  dsimp only [Pt.U, Pt.locs, Pt.cells, Pt.slots] at X103 l103 y103 z103 st103 hQ103
  subst l103 y103 z103
  obtain ⟨rfl, N103q, hh103⟩ := hQ103
  have N103 := Fr.app N0 N103q
  obtain ⟨cq104, kq104, q104a, q104b, q104c⟩ := isOf hZ hh103 Ev
  obtain ⟨_, _, ⟨T104, L104, k104, n104⟩, -, X104, ⟨Lc104, hQ104, l104, y104, z104⟩, st104⟩ := X103.virtualBack hx (y := (⟨"com/example/keyfold/keyfold/JsonValue", "end", "()I"⟩ : MethodName)) (z := (⟨"com/example/keyfold/keyfold/JsonValue", "end", "()I"⟩ : MethodName)) hown (mvT hZ (hw _ (List.mem_of_getElem? (i := 114) rfl))) (mvT hZ (hw _ (List.mem_of_getElem? (i := 98) rfl))) (notFace_of_selects (args := #[]) (mvT hZ (hw _ (List.mem_of_getElem? (i := 100) rfl)))) (mvT hZ (hw _ (List.mem_of_getElem? (i := 100) rfl))) (mvT hZ (hw _ (List.mem_of_getElem? (i := 99) rfl))) (by decide) (backOf (W := 0) (rm_en l Z a0 hw [] aK a_OBJECT a_ARRAY a_STRING a_NUMBER a_TRUE a_FALSE a_NULL a1 t1 br xs r0 s1 e1 r3 h0 n0 O0 En Ev Ft Fi Fq Lq Rc) hZ (hw _ (List.mem_of_getElem? (i := 101) rfl)) (hw _ (List.mem_of_getElem? (i := 62) rfl)) (by decide) (by decide)) q104a q104c (g := (mkF m 14 #[.val (.ref a1), .val (.ref c1), .val (.int s1), .unset, .unset, .unset, .unset, .unset, .unset] [(.ref a1)])) rfl (by rw [hml]; rfl) (Steps.refl _) (argsL := []) (rest := []) (lenOf pd_0 rfl) rfl (by show 2 * 0 + _ ≤ _; exact Nat.le_of_eq rfl) (hb hby dc21_14) (fun _ _ => ⟨rfl, hh103, (by decide : 0 + 0 ≤ _), (by decide : 0 + 0 ≤ _)⟩)
  dsimp only [Pt.U, Pt.locs, Pt.cells, Pt.slots] at X104 l104 y104 z104 st104 hQ104
  subst l104 y104 z104
  obtain ⟨rfl, N104q, hh104⟩ := hQ104
  have N104 := Fr.app N103 N104q
  obtain ⟨cq105, q105, q105'⟩ := Exa.cell Ev
  obtain ⟨_, _, ⟨T105, L105, k105, n105⟩, -, X105, ⟨Lc105, hQ105, l105, y105, z105⟩, st105⟩ := X104.privateBack hx (y := (⟨"com/example/keyfold/keyfold/JsonValue", "isSpaced", "()Z"⟩ : MethodName)) hown (mvT hZ (hw _ (List.mem_of_getElem? (i := 115) rfl))) (mvT hZ (hw _ (List.mem_of_getElem? (i := 116) rfl))) (mvT hZ (own_sel (y := (⟨"com/example/keyfold/keyfold/JsonValue", "isSpaced", "()Z"⟩ : MethodName)) (hw _ (List.mem_of_getElem? (i := 61) rfl)) (hw _ (List.mem_of_getElem? (i := 117) rfl)) (hw _ (List.mem_of_getElem? (i := 116) rfl)) (by decide))) (Cond.privateMethod_at (mvP hZ (hw _ (List.mem_of_getElem? (i := 117) rfl)) (args := #[]))) (mvT hZ (hw _ (List.mem_of_getElem? (i := 118) rfl))) (by decide) (backOf (W := 0) (rm_sp1 l Z a0 hw [] aK a_OBJECT a_ARRAY a_STRING a_NUMBER a_TRUE a_FALSE a_NULL a1 t1 br xs r0 s1 e1 r3 h0 n0 O0 En Ev Ft Fi Fq Lq Rc hsp) hZ (hw _ (List.mem_of_getElem? (i := 118) rfl)) (hw _ (List.mem_of_getElem? (i := 62) rfl)) (by decide) (by decide)) (g := (mkF m 19 #[.val (.ref a1), .val (.ref c1), .val (.int s1), .val (.int e1), .unset, .unset, .unset, .unset, .unset] [(.ref a1)])) rfl (by rw [hml]; rfl) (Steps.refl _) (a := a1) (by rw [hh104]; exact q105) q105' (argsL := []) (rest := []) (lenOf pd_7 rfl) rfl (by show 2 * 0 + _ ≤ _; exact Nat.le_of_eq rfl) (hb hby dc21_19) (fun _ _ => ⟨rfl, hh104, (by decide : 0 + 0 ≤ _), (by decide : 0 + 0 ≤ _)⟩)
  dsimp only [Pt.U, Pt.locs, Pt.cells, Pt.slots] at X105 l105 y105 z105 st105 hQ105
  subst l105 y105 z105
  obtain ⟨rfl, N105q, hh105⟩ := hQ105
  have N105 := Fr.app N104 N105q
  obtain ⟨T106, h106, k106, X106, e106, E106, A106, Q106, st106⟩ := newPE X105 hx hZ (hw _ (List.mem_of_getElem? (i := 8) rfl)) hh105 (g := (mkF m 35 #[.val (.ref a1), .val (.ref c1), .val (.int s1), .val (.int e1), .unset, .unset, .unset, .unset, .unset] [(.int (e1 - s1))])) rfl (hb hby dc21_35) rfl ok.1 (cap := 8) ok.2.1 (by decide) (by decide) (by decide) (ad := "[B") rfl
  obtain ⟨b106, g106⟩ : ∃ z, z = h0.size := ⟨_, rfl⟩
  rw [← g106] at A106 Q106 st106
  have gb106 : n0 ≤ b106 := by rw [g106, ← O0.1]; exact O0.2.1
  have ne106_a1 : a1 ≠ b106 := by rw [g106]; exact Nat.ne_of_lt (Ev).lt
  have ne106_br : br ≠ b106 := by rw [g106]; exact Nat.ne_of_lt (Lq).lt
  have ne106_c1 : c1 ≠ b106 := by rw [g106]; exact Nat.ne_of_lt (Ec).lt
  have ne106_t1 : t1 ≠ b106 := by rw [g106]; exact Nat.ne_of_lt (Fq).lt
  have sz106 : h0.size ≤ b106 := by rw [g106]; exact ((Keep.refl h0 [])).1
  have V106 : By Z h106 b106 (e1 - s1) := By.new A106 ok.1
  have pre107 : ∀ t, Steps p.tables e below (T106.setTop (mkF m 48 #[.val (.ref a1), .val (.ref c1), .val (.int s1), .val (.int e1), .val (.ref b106), .val (.int (0 : Int32)), .val (.int (0 : Int32)), .val (.int s1), .unset] [])) t → Steps p.tables e below (s₁.setTop (entryFrame m #[(.ref a1)] 9)) t := fun t kt => pre0 t (by
      show Steps p.tables e below (s₁.setTop (mkF m 0 #[.val (.ref a1), .unset, .unset, .unset, .unset, .unset, .unset, .unset, .unset] [])) _
      refine XS.aloadN X0.here hx rfl (hb hby dc21_0) rfl rfl ?_
      show Steps p.tables e below (s₁.setTop (mkF m 1 #[.val (.ref a1), .unset, .unset, .unset, .unset, .unset, .unset, .unset, .unset] [(.ref a1)])) _
      refine st101 _ ?_
      show Steps p.tables e below (T101.setTop (mkF m 4 #[.val (.ref a1), .unset, .unset, .unset, .unset, .unset, .unset, .unset, .unset] [(.ref t1)])) _
      refine st102 _ ?_
      show Steps p.tables e below (T102.setTop (mkF m 7 #[.val (.ref a1), .unset, .unset, .unset, .unset, .unset, .unset, .unset, .unset] [(.ref c1)])) _
      refine XS.astoreN X102.here hx rfl (hb hby dc21_7) rfl rfl (l' := #[.val (.ref a1), .val (.ref c1), .unset, .unset, .unset, .unset, .unset, .unset, .unset]) rfl ?_
      show Steps p.tables e below (T102.setTop (mkF m 8 #[.val (.ref a1), .val (.ref c1), .unset, .unset, .unset, .unset, .unset, .unset, .unset] [])) _
      refine XS.aloadN X102.here hx rfl (hb hby dc21_8) rfl rfl ?_
      show Steps p.tables e below (T102.setTop (mkF m 9 #[.val (.ref a1), .val (.ref c1), .unset, .unset, .unset, .unset, .unset, .unset, .unset] [(.ref a1)])) _
      refine st103.trans ?_
      show Steps p.tables e below (T103.setTop (mkF m 12 #[.val (.ref a1), .val (.ref c1), .unset, .unset, .unset, .unset, .unset, .unset, .unset] [(.int s1)])) _
      refine XS.istoreN X103.here hx rfl (hb hby dc21_12) rfl (l' := #[.val (.ref a1), .val (.ref c1), .val (.int s1), .unset, .unset, .unset, .unset, .unset, .unset]) rfl ?_
      show Steps p.tables e below (T103.setTop (mkF m 13 #[.val (.ref a1), .val (.ref c1), .val (.int s1), .unset, .unset, .unset, .unset, .unset, .unset] [])) _
      refine XS.aloadN X103.here hx rfl (hb hby dc21_13) rfl rfl ?_
      show Steps p.tables e below (T103.setTop (mkF m 14 #[.val (.ref a1), .val (.ref c1), .val (.int s1), .unset, .unset, .unset, .unset, .unset, .unset] [(.ref a1)])) _
      refine st104.trans ?_
      show Steps p.tables e below (T104.setTop (mkF m 17 #[.val (.ref a1), .val (.ref c1), .val (.int s1), .unset, .unset, .unset, .unset, .unset, .unset] [(.int e1)])) _
      refine XS.istoreN X104.here hx rfl (hb hby dc21_17) rfl (l' := #[.val (.ref a1), .val (.ref c1), .val (.int s1), .val (.int e1), .unset, .unset, .unset, .unset, .unset]) rfl ?_
      show Steps p.tables e below (T104.setTop (mkF m 18 #[.val (.ref a1), .val (.ref c1), .val (.int s1), .val (.int e1), .unset, .unset, .unset, .unset, .unset] [])) _
      refine XS.aloadN X104.here hx rfl (hb hby dc21_18) rfl rfl ?_
      show Steps p.tables e below (T104.setTop (mkF m 19 #[.val (.ref a1), .val (.ref c1), .val (.int s1), .val (.int e1), .unset, .unset, .unset, .unset, .unset] [(.ref a1)])) _
      refine st105.trans ?_
      show Steps p.tables e below (T105.setTop (mkF m 22 #[.val (.ref a1), .val (.ref c1), .val (.int s1), .val (.int e1), .unset, .unset, .unset, .unset, .unset] [(.int (1 : Int32))])) _
      refine XS.ifYes X105.here hx rfl (pc0 := 22) (pc' := 32) rfl (hb hby dc21_22) rfl (by decide) (by decide) (by decide) ?_
      show Steps p.tables e below (T105.setTop (mkF m 32 #[.val (.ref a1), .val (.ref c1), .val (.int s1), .val (.int e1), .unset, .unset, .unset, .unset, .unset] [])) _
      refine XS.iloadN X105.here hx rfl (hb hby dc21_32) rfl ?_
      show Steps p.tables e below (T105.setTop (mkF m 33 #[.val (.ref a1), .val (.ref c1), .val (.int s1), .val (.int e1), .unset, .unset, .unset, .unset, .unset] [(.int e1)])) _
      refine XS.iloadN X105.here hx rfl (hb hby dc21_33) rfl ?_
      show Steps p.tables e below (T105.setTop (mkF m 34 #[.val (.ref a1), .val (.ref c1), .val (.int s1), .val (.int e1), .unset, .unset, .unset, .unset, .unset] [(.int s1), (.int e1)])) _
      refine XS.isub X105.here hx rfl (hb hby dc21_34) rfl ?_
      show Steps p.tables e below (T105.setTop (mkF m 35 #[.val (.ref a1), .val (.ref c1), .val (.int s1), .val (.int e1), .unset, .unset, .unset, .unset, .unset] [(.int (e1 - s1))])) _
      refine st106 _ ?_
      show Steps p.tables e below (T106.setTop (mkF m 37 #[.val (.ref a1), .val (.ref c1), .val (.int s1), .val (.int e1), .unset, .unset, .unset, .unset, .unset] [(.ref b106)])) _
      refine XS.astore X106.here hx rfl (hb hby dc21_37) rfl rfl (l' := #[.val (.ref a1), .val (.ref c1), .val (.int s1), .val (.int e1), .val (.ref b106), .unset, .unset, .unset, .unset]) rfl ?_
      show Steps p.tables e below (T106.setTop (mkF m 39 #[.val (.ref a1), .val (.ref c1), .val (.int s1), .val (.int e1), .val (.ref b106), .unset, .unset, .unset, .unset] [])) _
      refine XS.iconst X106.here hx rfl (hb hby dc21_39) ?_
      show Steps p.tables e below (T106.setTop (mkF m 40 #[.val (.ref a1), .val (.ref c1), .val (.int s1), .val (.int e1), .val (.ref b106), .unset, .unset, .unset, .unset] [(.int (0 : Int32))])) _
      refine XS.istore X106.here hx rfl (hb hby dc21_40) rfl (l' := #[.val (.ref a1), .val (.ref c1), .val (.int s1), .val (.int e1), .val (.ref b106), .val (.int (0 : Int32)), .unset, .unset, .unset]) rfl ?_
      show Steps p.tables e below (T106.setTop (mkF m 42 #[.val (.ref a1), .val (.ref c1), .val (.int s1), .val (.int e1), .val (.ref b106), .val (.int (0 : Int32)), .unset, .unset, .unset] [])) _
      refine XS.iconst X106.here hx rfl (hb hby dc21_42) ?_
      show Steps p.tables e below (T106.setTop (mkF m 43 #[.val (.ref a1), .val (.ref c1), .val (.int s1), .val (.int e1), .val (.ref b106), .val (.int (0 : Int32)), .unset, .unset, .unset] [(.int (0 : Int32))])) _
      refine XS.istore X106.here hx rfl (hb hby dc21_43) rfl (l' := #[.val (.ref a1), .val (.ref c1), .val (.int s1), .val (.int e1), .val (.ref b106), .val (.int (0 : Int32)), .val (.int (0 : Int32)), .unset, .unset]) rfl ?_
      show Steps p.tables e below (T106.setTop (mkF m 45 #[.val (.ref a1), .val (.ref c1), .val (.int s1), .val (.int e1), .val (.ref b106), .val (.int (0 : Int32)), .val (.int (0 : Int32)), .unset, .unset] [])) _
      refine XS.iloadN X106.here hx rfl (hb hby dc21_45) rfl ?_
      show Steps p.tables e below (T106.setTop (mkF m 46 #[.val (.ref a1), .val (.ref c1), .val (.int s1), .val (.int e1), .val (.ref b106), .val (.int (0 : Int32)), .val (.int (0 : Int32)), .unset, .unset] [(.int s1)])) _
      refine XS.istore X106.here hx rfl (hb hby dc21_46) rfl (l' := #[.val (.ref a1), .val (.ref c1), .val (.int s1), .val (.int e1), .val (.ref b106), .val (.int (0 : Int32)), .val (.int (0 : Int32)), .val (.int s1), .unset]) rfl ?_
      exact kt)
  have O109 : Old Z n0 h106 := (O0.ext E106)
  have f110 := (Vc.ext E106)
  have big108 : ∃ (T' : State) (h' : Heap) (L' : List Loc) (x7 : Int32) (w8' : Slot), Stand p l e ({ frames := 3, cells := 2, slots := 16, locals := 37 } : Room) s m #[(.ref a1)] below meth c T' L' 1 8 ∧ T'.heap = h' ∧ Fr n0 L' ∧ Keep h106 h' [b106] ∧ By Z h' b106 (e1 - s1) ∧ One w8' ∧ ∀ t, Steps p.tables e below (T'.setTop (mkF m 145 #[.val (.ref a1), .val (.ref c1), .val (.int s1), .val (.int e1), .val (.ref b106), .val (.int (own_len s1 e1)), .val (.int (0 : Int32)), .val (.int x7), w8'] [])) t → Steps p.tables e below (T106.setTop (mkF m 48 #[.val (.ref a1), .val (.ref c1), .val (.int s1), .val (.int e1), .val (.ref b106), .val (.int (0 : Int32)), .val (.int (0 : Int32)), .val (.int s1), .unset] [])) t := by
    rcases (own_se hs0 hse he8).1 with hk | hk | hk | hk | hk | hk | hk | hk | hk
    · have q := lp0 a1 c1 b106 k1 s1 e1 (0 : Int32) .unset X106 hx hZ hw hby hml hown e106 N105 O109 (Or.inl rfl) hs0 hse he8 (by rw [hk]; decide) (by rw [← hk]; exact hse) (by rw [hk]; decide) f110 V106 ne106_c1 gb106
      rw [show (mkF m 48 #[.val (.ref a1), .val (.ref c1), .val (.int s1), .val (.int e1), .val (.ref b106), .val (.int (0 : Int32)), .val (.int (0 : Int32)), .val (.int s1), .unset] []) = (mkF m 48 #[.val (.ref a1), .val (.ref c1), .val (.int s1), .val (.int e1), .val (.ref b106), .val (.int (0 : Int32)), .val (.int (0 : Int32)), .val (.int (0 : Int32)), .unset] []) from by rw [hk]]
      exact q
    · have q := lp1 a1 c1 b106 k1 s1 e1 (0 : Int32) .unset X106 hx hZ hw hby hml hown e106 N105 O109 (Or.inl rfl) hs0 hse he8 (by rw [hk]; decide) (by rw [← hk]; exact hse) (by rw [hk]; decide) f110 V106 ne106_c1 gb106
      rw [show (mkF m 48 #[.val (.ref a1), .val (.ref c1), .val (.int s1), .val (.int e1), .val (.ref b106), .val (.int (0 : Int32)), .val (.int (0 : Int32)), .val (.int s1), .unset] []) = (mkF m 48 #[.val (.ref a1), .val (.ref c1), .val (.int s1), .val (.int e1), .val (.ref b106), .val (.int (0 : Int32)), .val (.int (0 : Int32)), .val (.int (1 : Int32)), .unset] []) from by rw [hk]]
      exact q
    · have q := lp2 a1 c1 b106 k1 s1 e1 (0 : Int32) .unset X106 hx hZ hw hby hml hown e106 N105 O109 (Or.inl rfl) hs0 hse he8 (by rw [hk]; decide) (by rw [← hk]; exact hse) (by rw [hk]; decide) f110 V106 ne106_c1 gb106
      rw [show (mkF m 48 #[.val (.ref a1), .val (.ref c1), .val (.int s1), .val (.int e1), .val (.ref b106), .val (.int (0 : Int32)), .val (.int (0 : Int32)), .val (.int s1), .unset] []) = (mkF m 48 #[.val (.ref a1), .val (.ref c1), .val (.int s1), .val (.int e1), .val (.ref b106), .val (.int (0 : Int32)), .val (.int (0 : Int32)), .val (.int (2 : Int32)), .unset] []) from by rw [hk]]
      exact q
    · have q := lp3 a1 c1 b106 k1 s1 e1 (0 : Int32) .unset X106 hx hZ hw hby hml hown e106 N105 O109 (Or.inl rfl) hs0 hse he8 (by rw [hk]; decide) (by rw [← hk]; exact hse) (by rw [hk]; decide) f110 V106 ne106_c1 gb106
      rw [show (mkF m 48 #[.val (.ref a1), .val (.ref c1), .val (.int s1), .val (.int e1), .val (.ref b106), .val (.int (0 : Int32)), .val (.int (0 : Int32)), .val (.int s1), .unset] []) = (mkF m 48 #[.val (.ref a1), .val (.ref c1), .val (.int s1), .val (.int e1), .val (.ref b106), .val (.int (0 : Int32)), .val (.int (0 : Int32)), .val (.int (3 : Int32)), .unset] []) from by rw [hk]]
      exact q
    · have q := lp4 a1 c1 b106 k1 s1 e1 (0 : Int32) .unset X106 hx hZ hw hby hml hown e106 N105 O109 (Or.inl rfl) hs0 hse he8 (by rw [hk]; decide) (by rw [← hk]; exact hse) (by rw [hk]; decide) f110 V106 ne106_c1 gb106
      rw [show (mkF m 48 #[.val (.ref a1), .val (.ref c1), .val (.int s1), .val (.int e1), .val (.ref b106), .val (.int (0 : Int32)), .val (.int (0 : Int32)), .val (.int s1), .unset] []) = (mkF m 48 #[.val (.ref a1), .val (.ref c1), .val (.int s1), .val (.int e1), .val (.ref b106), .val (.int (0 : Int32)), .val (.int (0 : Int32)), .val (.int (4 : Int32)), .unset] []) from by rw [hk]]
      exact q
    · have q := lp5 a1 c1 b106 k1 s1 e1 (0 : Int32) .unset X106 hx hZ hw hby hml hown e106 N105 O109 (Or.inl rfl) hs0 hse he8 (by rw [hk]; decide) (by rw [← hk]; exact hse) (by rw [hk]; decide) f110 V106 ne106_c1 gb106
      rw [show (mkF m 48 #[.val (.ref a1), .val (.ref c1), .val (.int s1), .val (.int e1), .val (.ref b106), .val (.int (0 : Int32)), .val (.int (0 : Int32)), .val (.int s1), .unset] []) = (mkF m 48 #[.val (.ref a1), .val (.ref c1), .val (.int s1), .val (.int e1), .val (.ref b106), .val (.int (0 : Int32)), .val (.int (0 : Int32)), .val (.int (5 : Int32)), .unset] []) from by rw [hk]]
      exact q
    · have q := lp6 a1 c1 b106 k1 s1 e1 (0 : Int32) .unset X106 hx hZ hw hby hml hown e106 N105 O109 (Or.inl rfl) hs0 hse he8 (by rw [hk]; decide) (by rw [← hk]; exact hse) (by rw [hk]; decide) f110 V106 ne106_c1 gb106
      rw [show (mkF m 48 #[.val (.ref a1), .val (.ref c1), .val (.int s1), .val (.int e1), .val (.ref b106), .val (.int (0 : Int32)), .val (.int (0 : Int32)), .val (.int s1), .unset] []) = (mkF m 48 #[.val (.ref a1), .val (.ref c1), .val (.int s1), .val (.int e1), .val (.ref b106), .val (.int (0 : Int32)), .val (.int (0 : Int32)), .val (.int (6 : Int32)), .unset] []) from by rw [hk]]
      exact q
    · have q := lp7 a1 c1 b106 k1 s1 e1 (0 : Int32) .unset X106 hx hZ hw hby hml hown e106 N105 O109 (Or.inl rfl) hs0 hse he8 (by rw [hk]; decide) (by rw [← hk]; exact hse) (by rw [hk]; decide) f110 V106 ne106_c1 gb106
      rw [show (mkF m 48 #[.val (.ref a1), .val (.ref c1), .val (.int s1), .val (.int e1), .val (.ref b106), .val (.int (0 : Int32)), .val (.int (0 : Int32)), .val (.int s1), .unset] []) = (mkF m 48 #[.val (.ref a1), .val (.ref c1), .val (.int s1), .val (.int e1), .val (.ref b106), .val (.int (0 : Int32)), .val (.int (0 : Int32)), .val (.int (7 : Int32)), .unset] []) from by rw [hk]]
      exact q
    · have q := lp8 a1 c1 b106 k1 s1 e1 (0 : Int32) .unset X106 hx hZ hw hby hml hown e106 N105 O109 (Or.inl rfl) hs0 hse he8 (by rw [hk]; decide) (by rw [← hk]; exact hse) (by rw [hk]; decide) f110 V106 ne106_c1 gb106
      rw [show (mkF m 48 #[.val (.ref a1), .val (.ref c1), .val (.int s1), .val (.int e1), .val (.ref b106), .val (.int (0 : Int32)), .val (.int (0 : Int32)), .val (.int s1), .unset] []) = (mkF m 48 #[.val (.ref a1), .val (.ref c1), .val (.int s1), .val (.int e1), .val (.ref b106), .val (.int (0 : Int32)), .val (.int (0 : Int32)), .val (.int (8 : Int32)), .unset] []) from by rw [hk]]
      exact q
  obtain ⟨T108, h108, L108, x7108, w8108, X108, e108, N108, K108, V108, hw8108, st108⟩ := big108
  have pre108 : ∀ t, Steps p.tables e below (T108.setTop (mkF m 145 #[.val (.ref a1), .val (.ref c1), .val (.int s1), .val (.int e1), .val (.ref b106), .val (.int (own_len s1 e1)), .val (.int (0 : Int32)), .val (.int x7108), w8108] [])) t → Steps p.tables e below (s₁.setTop (entryFrame m #[(.ref a1)] 9)) t := fun t kt => pre107 t (st108 t kt)
  have O111 : Old Z n0 h108 := (O109.keep K108 (allS gb106 all0))
  have f112 := (Q106.keep K108)
  have K113 : Keep h0 h108 [] := (Keep.trans (Keep.ext (Keep.refl h0 []) E106) K108 (allS (P := fun x => x ∈ [] ∨ h0.size ≤ x) (Or.inr sz106) all0))
  obtain ⟨_, _, ⟨T114, L114, k114, n114⟩, -, X114, ⟨Lc114, hQ114, l114, y114, z114⟩, st114⟩ := Jvm.LawKit.callS X108 hx (y := (⟨"java/util/Arrays", "copyOf", "([BI)[B"⟩ : MethodName)) hown (mvT hZ (hw _ (List.mem_of_getElem? (i := 145) rfl))) (mvT hZ (hw _ (List.mem_of_getElem? (i := 146) rfl))) (mvT hZ (hw _ (List.mem_of_getElem? (i := 121) rfl))) (mvT hZ (hw _ (List.mem_of_getElem? (i := 147) rfl))) (by decide) (backOf (W := 0) (rmCp l Z a0 hw [] b106 (e1 - s1) (own_len s1 e1) h108 n0 O111 f112 V108 ok.2.2.2.2.1 ok.2.2.2.2.2.1 ok.2.1 ok.2.2.2.2.2.2.1 ok.2.2.2.2.2.2.2) hZ (hw _ (List.mem_of_getElem? (i := 147) rfl)) (hw _ (List.mem_of_getElem? (i := 121) rfl)) (by decide) (by decide)) (g := (mkF m 149 #[.val (.ref a1), .val (.ref c1), .val (.int s1), .val (.int e1), .val (.ref b106), .val (.int (own_len s1 e1)), .val (.int (0 : Int32)), .val (.int x7108), w8108] [(.int (own_len s1 e1)), (.ref b106)])) rfl (by rw [hml]; rfl) (argsL := [(.ref b106), (.int (own_len s1 e1))]) (rest := []) (lenOf pd_9 rfl) rfl (by show 2 * 0 + _ ≤ _; exact Nat.le_of_eq rfl) (hb hby dc21_149) (fun _ _ => ⟨rfl, e108, (by decide : 1 + 1 ≤ _), (by decide : 8 + 8 ≤ _)⟩)
  dsimp only [Pt.U, Pt.locs, Pt.cells, Pt.slots] at X114 l114 y114 z114 st114 hQ114
  subst l114 y114 z114
  obtain ⟨b114, rfl, N114q, gb114, sz114, K114, Ex114, V114⟩ := hQ114
  have N114 := Fr.app N108 N114q
  have f115 := ((Ev.ext E106).keep K108)
  have ne114_a1 : a1 ≠ b114 := Nat.ne_of_lt (Nat.lt_of_lt_of_le (f115).lt sz114)
  have ne114_b106 : b106 ≠ b114 := Nat.ne_of_lt (Nat.lt_of_lt_of_le (f112).lt sz114)
  have f116 := ((Lq.ext E106).keep K108 (ninS ne106_br nin0))
  have ne114_br : br ≠ b114 := Nat.ne_of_lt (Nat.lt_of_lt_of_le (f116).lt sz114)
  have f117 := ((Ec.ext E106).keep K108)
  have ne114_c1 : c1 ≠ b114 := Nat.ne_of_lt (Nat.lt_of_lt_of_le (f117).lt sz114)
  have f118 := ((Fq.ext E106).keep K108 (ninS ne106_t1 nin0))
  have ne114_t1 : t1 ≠ b114 := Nat.ne_of_lt (Nat.lt_of_lt_of_le (f118).lt sz114)
  have sz0114 : h0.size ≤ b114 := Nat.le_trans (K113).1 sz114
  obtain ⟨fs, hr, hrun, hended, hW, hsame⟩ := X114.leave (v := some (.ref b114)) (fun h => by rw [Bd.returns] at h; cases h)
  have K119 : Keep h0 T114.heap [] := (Keep.trans K113 K114 all0)
  refine ⟨_, _, pre108 _ ?_, hrun, hended, _, _, rfl, ?_, ⟨_, rfl⟩, hW, hsame.mono (by decide) (by decide)⟩
  · skip
    show Steps p.tables e below (T108.setTop (mkF m 145 #[.val (.ref a1), .val (.ref c1), .val (.int s1), .val (.int e1), .val (.ref b106), .val (.int (own_len s1 e1)), .val (.int (0 : Int32)), .val (.int x7108), w8108] [])) _
    refine XS.aload X108.here hx rfl (hb hby dc21_145) rfl rfl ?_
    show Steps p.tables e below (T108.setTop (mkF m 147 #[.val (.ref a1), .val (.ref c1), .val (.int s1), .val (.int e1), .val (.ref b106), .val (.int (own_len s1 e1)), .val (.int (0 : Int32)), .val (.int x7108), w8108] [(.ref b106)])) _
    refine XS.iload X108.here hx rfl (hb hby dc21_147) rfl ?_
    show Steps p.tables e below (T108.setTop (mkF m 149 #[.val (.ref a1), .val (.ref c1), .val (.int s1), .val (.int e1), .val (.ref b106), .val (.int (own_len s1 e1)), .val (.int (0 : Int32)), .val (.int x7108), w8108] [(.int (own_len s1 e1)), (.ref b106)])) _
    refine st114 _ ?_
    show Steps p.tables e below (T114.setTop (mkF m 152 #[.val (.ref a1), .val (.ref c1), .val (.int s1), .val (.int e1), .val (.ref b106), .val (.int (own_len s1 e1)), .val (.int (0 : Int32)), .val (.int x7108), w8108] [(.ref b114)])) _
    exact retOut X114 hx (t := (.array .byte)) Bd.returns rfl (Or.inr (Or.inr (Or.inr (Or.inr ⟨rfl, rfl, rfl⟩)))) (hb hby dc21_152) hr
  · show Q_nb Z (own_len s1 e1) h0 n0 _ T114.heap _
    exact ⟨_, rfl, N114, gb114, sz0114, K119, Ex114, V114⟩
def QL (n0 : Nat) (v : Option Value) (h : Heap) (L : List Loc) : Prop := v = some (.int 1) ∧ Fr n0 L
theorem own_r7 (x : Int32) : ¬ ((x &&& (2147483647 : Int32)) % (7 : Int32)) < (0 : Int32) ∧ ((x &&& (2147483647 : Int32)) % (7 : Int32)) < (7 : Int32) := by
  have h1 := c_mask x 2147483647 31 (by decide) (by decide)
  have h2 := (c_irem (x &&& 2147483647) 7 7 (by decide)).1 (by omega)
  rw [Int32.lt_iff_toInt_lt, Int32.lt_iff_toInt_lt]
  have e0 : (0 : Int32).toInt = 0 := rfl
  have e7 : (7 : Int32).toInt = 7 := rfl
  omega
theorem own_nz9 {z6 zs x : Int32} (h : z6 = (0 : Int32) ∧ zs = (x &&& (7 : Int32)) ∨ ¬ (z6 = (0 : Int32)) ∧ zs = x) (hz : z6 = (0 : Int32)) : ¬ ((9 : Int32) - zs) = 0 := by
  rcases h with ⟨-, rfl⟩ | ⟨q, -⟩
  · intro q
    have h1 := c_mask x 7 3 (by decide) (by decide)
    have e : (9 : Int32) = (x &&& 7) := by
      have := congrArg (· + (x &&& (7 : Int32))) q
      simpa using this
    have e9 : (9 : Int32).toInt = 9 := rfl
    rw [← e] at h1; omega
  · exact absurd hz q
theorem own_j7 {j : Int32} (h : ¬ j < 0 ∧ j < 7) : j = 0 ∨ j = 1 ∨ j = 2 ∨ j = 3 ∨ j = 4 ∨ j = 5 ∨ j = 6 := by
  by_cases h0 : j = 0
  · exact Or.inl h0
  by_cases h1 : j = 1
  · exact Or.inr (Or.inl h1)
  by_cases h2 : j = 2
  · exact Or.inr (Or.inr (Or.inl h2))
  by_cases h3 : j = 3
  · exact Or.inr (Or.inr (Or.inr (Or.inl h3)))
  by_cases h4 : j = 4
  · exact Or.inr (Or.inr (Or.inr (Or.inr (Or.inl h4))))
  by_cases h5 : j = 5
  · exact Or.inr (Or.inr (Or.inr (Or.inr (Or.inr (Or.inl h5)))))
  exact Or.inr (Or.inr (Or.inr (Or.inr (Or.inr (Or.inr (own_six h h0 h1 h2 h3 h4 h5))))))
theorem own_k7 {j z1 r0 : Int32} (h : ¬ j < 0 ∧ j < 7) (hr : z1 = (0 : Int32) ∧ r0 = j ∨ ¬ z1 = (0 : Int32) ∧ r0 = (j ||| 8)) : (r0 &&& (7 : Int32)) = j := by
  rcases hr with ⟨-, rfl⟩ | ⟨-, rfl⟩ <;> rcases own_j7 h with q | q | q | q | q | q | q <;> rw [q] <;> decide
theorem own_p0 {j z1 r0 : Int32} (h : ¬ j < 0 ∧ j < 7) (hr : z1 = (0 : Int32) ∧ r0 = j ∨ ¬ z1 = (0 : Int32) ∧ r0 = (j ||| 8)) (hz : z1 = (0 : Int32)) : (r0 &&& (8 : Int32)) = (0 : Int32) := by
  rcases hr with ⟨-, rfl⟩ | ⟨q, -⟩
  · rcases own_j7 h with q | q | q | q | q | q | q <;> rw [q] <;> decide
  · exact absurd hz q
theorem own_p1 {j z1 r0 : Int32} (h : ¬ j < 0 ∧ j < 7) (hr : z1 = (0 : Int32) ∧ r0 = j ∨ ¬ z1 = (0 : Int32) ∧ r0 = (j ||| 8)) (hz : ¬ z1 = (0 : Int32)) : ¬ ((r0 &&& (8 : Int32)) = (0 : Int32)) := by
  rcases hr with ⟨q, -⟩ | ⟨-, rfl⟩
  · exact absurd q hz
  · rcases own_j7 h with q | q | q | q | q | q | q <;> rw [q] <;> decide
theorem ef_13 (m : MethodId) (x0 : Int32) (x1 : Int32) (x2 : Int32) (x3 : Int32) : entryFrame m #[(.int x0), (.int x1), (.int x2), (.int x3)] maxLocals = mkF m 0 #[.val (.int x0), .val (.int x1), .val (.int x2), .val (.int x3), .unset, .unset, .unset, .unset, .unset, .unset, .unset, .unset, .unset, .unset, .unset, .unset] [] := by first | (simp [entryFrame, mkF, argsToLocals, Value.category, maxLocals]; done) | rfl
theorem pd_10 : parseMethodDescriptor "(I)Lcom/example/keyfold/keyfold/JsonValue$Kind;" = some ⟨[.int], some (.object "com/example/keyfold/keyfold/JsonValue$Kind")⟩ := by decide +kernel
theorem pd_11 : parseMethodDescriptor "([B)V" = some ⟨[(.array .byte)], none⟩ := by decide +kernel
theorem pd_12 : parseMethodDescriptor "(Lcom/example/keyfold/keyfold/JsonValue$Kind;ILjava/lang/String;)I" = some ⟨[(.object "com/example/keyfold/keyfold/JsonValue$Kind"), .int, (.object "java/lang/String")], some .int⟩ := by decide +kernel
theorem pd_13 : parseMethodDescriptor "(IIZ)V" = some ⟨[.int, .int, .boolean], none⟩ := by decide +kernel
theorem pd_14 : parseMethodDescriptor "()Lcom/example/keyfold/keyfold/JsonValue;" = some ⟨[], some (.object "com/example/keyfold/keyfold/JsonValue")⟩ := by decide +kernel
theorem pd_15 : parseMethodDescriptor "()Lcom/example/keyfold/keyfold/JsonValue$Kind;" = some ⟨[], some (.object "com/example/keyfold/keyfold/JsonValue$Kind")⟩ := by decide +kernel
theorem pd_16 : parseMethodDescriptor "()[B" = some ⟨[], some (.array .byte)⟩ := by decide +kernel
set_option maxRecDepth 65536 in
set_option maxHeartbeats 40000000 in
theorem rm0 (l : Launch) (Z : State) (a0 : Array Value) (hw : ∀ d ∈ tables_1, d.before a0 Z = true) (ws : List Jvm.Cond) (aK a_OBJECT a_ARRAY a_STRING a_NUMBER a_TRUE a_FALSE a_NULL : Addr) (i0 i1 i2 i3 : Int32) (h0 : Heap) (n0 : Nat) (O0 : Old Z n0 h0) (En : OwnEnv Z aK a_OBJECT a_ARRAY a_STRING a_NUMBER a_TRUE a_FALSE a_NULL) :
    MetFree l x (head1 (Jvm.Cond.code x code maxLocals ret :: ws) room_1) (fun a U => a = #[(.int i0), (.int i1), (.int i2), (.int i3)] ∧ Z.Warmed39 U.vm ∧ U.heap = h0) (fun _ _ _ _ _ => True) (fun _ U o U' => ∃ v L, o = .returned v ∧ QL n0 v U'.heap L ∧ FrameEnd U o U' L room_1.cells room_1.slots) := by
  refine MetFree.of_bodySF (plainFor_of_name pn_0) hisR ?_
  intro p e s m args below meth c s₁ Bd hml0 hP hK
  obtain ⟨rfl, hZ, hh⟩ := hP
  have hx := Bd.exec
  have hby := Bd.bytes
  have hml : c.maxLocals = 16 := hml0
  have hown : s.vm.findClass "com/example/keyfold/keyfold/TapeEndPinLaw" = some m.cls := findClass_of_methodNamed Bd.named
  have hnm := (name_of_methodNamed Bd.named Bd.method).1
  have X0 : Stand p l e room_1 s m #[(.int i0), (.int i1), (.int i2), (.int i3)] below meth c s₁ [] 0 0 := Stand.of_body Bd
  have e0 : s₁.heap = h0 := by rw [← hh, Bd.state]; rfl
  have N0 := Fr.nil n0
  have pre0 : ∀ t, Steps p.tables e below (s₁.setTop (mkF m 0 #[.val (.int i0), .val (.int i1), .val (.int i2), .val (.int i3), .unset, .unset, .unset, .unset, .unset, .unset, .unset, .unset, .unset, .unset, .unset, .unset] [])) t → Steps p.tables e below (s₁.setTop (entryFrame m #[(.int i0), (.int i1), (.int i2), (.int i3)] maxLocals)) t := fun t k => castTop (ef_13 m i0 i1 i2 i3) k
  obtain ⟨S_K, S_D, S_OBJECT, K_OBJECT, S_ARRAY, K_ARRAY, S_STRING, K_STRING, S_NUMBER, K_NUMBER, S_TRUE, K_TRUE, S_FALSE, K_FALSE, S_NULL, K_NULL⟩ := id En
  have jn101 : ∃ z101 : Int32, (((i0 &&& (1 : Int32)) = (0 : Int32)) ∧ z101 = (0 : Int32) ∨ ¬ ((i0 &&& (1 : Int32)) = (0 : Int32)) ∧ z101 = (1 : Int32)) ∧ ∀ t, Steps p.tables e below (s₁.setTop (mkF m 11 #[.val (.int i0), .val (.int i1), .val (.int i2), .val (.int i3), .unset, .unset, .unset, .unset, .unset, .unset, .unset, .unset, .unset, .unset, .unset, .unset] [(.int z101)])) t → Steps p.tables e below (s₁.setTop (entryFrame m #[(.int i0), (.int i1), (.int i2), (.int i3)] maxLocals)) t := by
    by_cases hc101 : (i0 &&& (1 : Int32)) = (0 : Int32)
    · refine ⟨(0 : Int32), Or.inl ⟨hc101, rfl⟩, fun t kt => pre0 t ?_⟩
      show Steps p.tables e below (s₁.setTop (mkF m 0 #[.val (.int i0), .val (.int i1), .val (.int i2), .val (.int i3), .unset, .unset, .unset, .unset, .unset, .unset, .unset, .unset, .unset, .unset, .unset, .unset] [])) _
      refine XS.iloadN X0.here hx rfl (hb hby at_0) rfl ?_
      show Steps p.tables e below (s₁.setTop (mkF m 1 #[.val (.int i0), .val (.int i1), .val (.int i2), .val (.int i3), .unset, .unset, .unset, .unset, .unset, .unset, .unset, .unset, .unset, .unset, .unset, .unset] [(.int i0)])) _
      refine XS.iconst X0.here hx rfl (hb hby at_1) ?_
      show Steps p.tables e below (s₁.setTop (mkF m 2 #[.val (.int i0), .val (.int i1), .val (.int i2), .val (.int i3), .unset, .unset, .unset, .unset, .unset, .unset, .unset, .unset, .unset, .unset, .unset, .unset] [(.int (1 : Int32)), (.int i0)])) _
      refine XS.iand X0.here hx rfl (hb hby at_2) rfl ?_
      show Steps p.tables e below (s₁.setTop (mkF m 3 #[.val (.int i0), .val (.int i1), .val (.int i2), .val (.int i3), .unset, .unset, .unset, .unset, .unset, .unset, .unset, .unset, .unset, .unset, .unset, .unset] [(.int (i0 &&& (1 : Int32)))])) _
      refine XS.ifYes X0.here hx rfl (pc0 := 3) (pc' := 10) rfl (hb hby at_3) rfl ((if0 _ _).trans (teq hc101).1) (by decide) (by decide) ?_
      show Steps p.tables e below (s₁.setTop (mkF m 10 #[.val (.int i0), .val (.int i1), .val (.int i2), .val (.int i3), .unset, .unset, .unset, .unset, .unset, .unset, .unset, .unset, .unset, .unset, .unset, .unset] [])) _
      refine XS.iconst X0.here hx rfl (hb hby at_10) ?_
      exact kt
    · refine ⟨(1 : Int32), Or.inr ⟨hc101, rfl⟩, fun t kt => pre0 t ?_⟩
      show Steps p.tables e below (s₁.setTop (mkF m 0 #[.val (.int i0), .val (.int i1), .val (.int i2), .val (.int i3), .unset, .unset, .unset, .unset, .unset, .unset, .unset, .unset, .unset, .unset, .unset, .unset] [])) _
      refine XS.iloadN X0.here hx rfl (hb hby at_0) rfl ?_
      show Steps p.tables e below (s₁.setTop (mkF m 1 #[.val (.int i0), .val (.int i1), .val (.int i2), .val (.int i3), .unset, .unset, .unset, .unset, .unset, .unset, .unset, .unset, .unset, .unset, .unset, .unset] [(.int i0)])) _
      refine XS.iconst X0.here hx rfl (hb hby at_1) ?_
      show Steps p.tables e below (s₁.setTop (mkF m 2 #[.val (.int i0), .val (.int i1), .val (.int i2), .val (.int i3), .unset, .unset, .unset, .unset, .unset, .unset, .unset, .unset, .unset, .unset, .unset, .unset] [(.int (1 : Int32)), (.int i0)])) _
      refine XS.iand X0.here hx rfl (hb hby at_2) rfl ?_
      show Steps p.tables e below (s₁.setTop (mkF m 3 #[.val (.int i0), .val (.int i1), .val (.int i2), .val (.int i3), .unset, .unset, .unset, .unset, .unset, .unset, .unset, .unset, .unset, .unset, .unset, .unset] [(.int (i0 &&& (1 : Int32)))])) _
      refine XS.ifNo X0.here hx rfl (hb hby at_3) rfl ((if0 _ _).trans (feq hc101).1) ?_
      show Steps p.tables e below (s₁.setTop (mkF m 6 #[.val (.int i0), .val (.int i1), .val (.int i2), .val (.int i3), .unset, .unset, .unset, .unset, .unset, .unset, .unset, .unset, .unset, .unset, .unset, .unset] [])) _
      refine XS.iconst X0.here hx rfl (hb hby at_6) ?_
      show Steps p.tables e below (s₁.setTop (mkF m 7 #[.val (.int i0), .val (.int i1), .val (.int i2), .val (.int i3), .unset, .unset, .unset, .unset, .unset, .unset, .unset, .unset, .unset, .unset, .unset, .unset] [(.int (1 : Int32))])) _
      refine XS.goto X0.here hx rfl (pc0 := 7) (pc' := 11) rfl (hb hby at_7) (by decide) (by decide) ?_
      exact kt
  obtain ⟨z101, hz101, pre101⟩ := jn101
  have jn102 : ∃ z102 : Int32, (((i0 &&& (2 : Int32)) = (0 : Int32)) ∧ z102 = (0 : Int32) ∨ ¬ ((i0 &&& (2 : Int32)) = (0 : Int32)) ∧ z102 = (1 : Int32)) ∧ ∀ t, Steps p.tables e below (s₁.setTop (mkF m 24 #[.val (.int i0), .val (.int i1), .val (.int i2), .val (.int i3), .val (.int z101), .unset, .unset, .unset, .unset, .unset, .unset, .unset, .unset, .unset, .unset, .unset] [(.int z102)])) t → Steps p.tables e below (s₁.setTop (entryFrame m #[(.int i0), (.int i1), (.int i2), (.int i3)] maxLocals)) t := by
    by_cases hc102 : (i0 &&& (2 : Int32)) = (0 : Int32)
    · refine ⟨(0 : Int32), Or.inl ⟨hc102, rfl⟩, fun t kt => pre101 t ?_⟩
      show Steps p.tables e below (s₁.setTop (mkF m 11 #[.val (.int i0), .val (.int i1), .val (.int i2), .val (.int i3), .unset, .unset, .unset, .unset, .unset, .unset, .unset, .unset, .unset, .unset, .unset, .unset] [(.int z101)])) _
      refine XS.istore X0.here hx rfl (hb hby at_11) rfl (l' := #[.val (.int i0), .val (.int i1), .val (.int i2), .val (.int i3), .val (.int z101), .unset, .unset, .unset, .unset, .unset, .unset, .unset, .unset, .unset, .unset, .unset]) rfl ?_
      show Steps p.tables e below (s₁.setTop (mkF m 13 #[.val (.int i0), .val (.int i1), .val (.int i2), .val (.int i3), .val (.int z101), .unset, .unset, .unset, .unset, .unset, .unset, .unset, .unset, .unset, .unset, .unset] [])) _
      refine XS.iloadN X0.here hx rfl (hb hby at_13) rfl ?_
      show Steps p.tables e below (s₁.setTop (mkF m 14 #[.val (.int i0), .val (.int i1), .val (.int i2), .val (.int i3), .val (.int z101), .unset, .unset, .unset, .unset, .unset, .unset, .unset, .unset, .unset, .unset, .unset] [(.int i0)])) _
      refine XS.iconst X0.here hx rfl (hb hby at_14) ?_
      show Steps p.tables e below (s₁.setTop (mkF m 15 #[.val (.int i0), .val (.int i1), .val (.int i2), .val (.int i3), .val (.int z101), .unset, .unset, .unset, .unset, .unset, .unset, .unset, .unset, .unset, .unset, .unset] [(.int (2 : Int32)), (.int i0)])) _
      refine XS.iand X0.here hx rfl (hb hby at_15) rfl ?_
      show Steps p.tables e below (s₁.setTop (mkF m 16 #[.val (.int i0), .val (.int i1), .val (.int i2), .val (.int i3), .val (.int z101), .unset, .unset, .unset, .unset, .unset, .unset, .unset, .unset, .unset, .unset, .unset] [(.int (i0 &&& (2 : Int32)))])) _
      refine XS.ifYes X0.here hx rfl (pc0 := 16) (pc' := 23) rfl (hb hby at_16) rfl ((if0 _ _).trans (teq hc102).1) (by decide) (by decide) ?_
      show Steps p.tables e below (s₁.setTop (mkF m 23 #[.val (.int i0), .val (.int i1), .val (.int i2), .val (.int i3), .val (.int z101), .unset, .unset, .unset, .unset, .unset, .unset, .unset, .unset, .unset, .unset, .unset] [])) _
      refine XS.iconst X0.here hx rfl (hb hby at_23) ?_
      exact kt
    · refine ⟨(1 : Int32), Or.inr ⟨hc102, rfl⟩, fun t kt => pre101 t ?_⟩
      show Steps p.tables e below (s₁.setTop (mkF m 11 #[.val (.int i0), .val (.int i1), .val (.int i2), .val (.int i3), .unset, .unset, .unset, .unset, .unset, .unset, .unset, .unset, .unset, .unset, .unset, .unset] [(.int z101)])) _
      refine XS.istore X0.here hx rfl (hb hby at_11) rfl (l' := #[.val (.int i0), .val (.int i1), .val (.int i2), .val (.int i3), .val (.int z101), .unset, .unset, .unset, .unset, .unset, .unset, .unset, .unset, .unset, .unset, .unset]) rfl ?_
      show Steps p.tables e below (s₁.setTop (mkF m 13 #[.val (.int i0), .val (.int i1), .val (.int i2), .val (.int i3), .val (.int z101), .unset, .unset, .unset, .unset, .unset, .unset, .unset, .unset, .unset, .unset, .unset] [])) _
      refine XS.iloadN X0.here hx rfl (hb hby at_13) rfl ?_
      show Steps p.tables e below (s₁.setTop (mkF m 14 #[.val (.int i0), .val (.int i1), .val (.int i2), .val (.int i3), .val (.int z101), .unset, .unset, .unset, .unset, .unset, .unset, .unset, .unset, .unset, .unset, .unset] [(.int i0)])) _
      refine XS.iconst X0.here hx rfl (hb hby at_14) ?_
      show Steps p.tables e below (s₁.setTop (mkF m 15 #[.val (.int i0), .val (.int i1), .val (.int i2), .val (.int i3), .val (.int z101), .unset, .unset, .unset, .unset, .unset, .unset, .unset, .unset, .unset, .unset, .unset] [(.int (2 : Int32)), (.int i0)])) _
      refine XS.iand X0.here hx rfl (hb hby at_15) rfl ?_
      show Steps p.tables e below (s₁.setTop (mkF m 16 #[.val (.int i0), .val (.int i1), .val (.int i2), .val (.int i3), .val (.int z101), .unset, .unset, .unset, .unset, .unset, .unset, .unset, .unset, .unset, .unset, .unset] [(.int (i0 &&& (2 : Int32)))])) _
      refine XS.ifNo X0.here hx rfl (hb hby at_16) rfl ((if0 _ _).trans (feq hc102).1) ?_
      show Steps p.tables e below (s₁.setTop (mkF m 19 #[.val (.int i0), .val (.int i1), .val (.int i2), .val (.int i3), .val (.int z101), .unset, .unset, .unset, .unset, .unset, .unset, .unset, .unset, .unset, .unset, .unset] [])) _
      refine XS.iconst X0.here hx rfl (hb hby at_19) ?_
      show Steps p.tables e below (s₁.setTop (mkF m 20 #[.val (.int i0), .val (.int i1), .val (.int i2), .val (.int i3), .val (.int z101), .unset, .unset, .unset, .unset, .unset, .unset, .unset, .unset, .unset, .unset, .unset] [(.int (1 : Int32))])) _
      refine XS.goto X0.here hx rfl (pc0 := 20) (pc' := 24) rfl (hb hby at_20) (by decide) (by decide) ?_
      exact kt
  obtain ⟨z102, hz102, pre102⟩ := jn102
  have jn103 : ∃ z103 : Int32, (((i0 &&& (4 : Int32)) = (0 : Int32)) ∧ z103 = (0 : Int32) ∨ ¬ ((i0 &&& (4 : Int32)) = (0 : Int32)) ∧ z103 = (1 : Int32)) ∧ ∀ t, Steps p.tables e below (s₁.setTop (mkF m 37 #[.val (.int i0), .val (.int i1), .val (.int i2), .val (.int i3), .val (.int z101), .val (.int z102), .unset, .unset, .unset, .unset, .unset, .unset, .unset, .unset, .unset, .unset] [(.int z103)])) t → Steps p.tables e below (s₁.setTop (entryFrame m #[(.int i0), (.int i1), (.int i2), (.int i3)] maxLocals)) t := by
    by_cases hc103 : (i0 &&& (4 : Int32)) = (0 : Int32)
    · refine ⟨(0 : Int32), Or.inl ⟨hc103, rfl⟩, fun t kt => pre102 t ?_⟩
      show Steps p.tables e below (s₁.setTop (mkF m 24 #[.val (.int i0), .val (.int i1), .val (.int i2), .val (.int i3), .val (.int z101), .unset, .unset, .unset, .unset, .unset, .unset, .unset, .unset, .unset, .unset, .unset] [(.int z102)])) _
      refine XS.istore X0.here hx rfl (hb hby at_24) rfl (l' := #[.val (.int i0), .val (.int i1), .val (.int i2), .val (.int i3), .val (.int z101), .val (.int z102), .unset, .unset, .unset, .unset, .unset, .unset, .unset, .unset, .unset, .unset]) rfl ?_
      show Steps p.tables e below (s₁.setTop (mkF m 26 #[.val (.int i0), .val (.int i1), .val (.int i2), .val (.int i3), .val (.int z101), .val (.int z102), .unset, .unset, .unset, .unset, .unset, .unset, .unset, .unset, .unset, .unset] [])) _
      refine XS.iloadN X0.here hx rfl (hb hby at_26) rfl ?_
      show Steps p.tables e below (s₁.setTop (mkF m 27 #[.val (.int i0), .val (.int i1), .val (.int i2), .val (.int i3), .val (.int z101), .val (.int z102), .unset, .unset, .unset, .unset, .unset, .unset, .unset, .unset, .unset, .unset] [(.int i0)])) _
      refine XS.iconst X0.here hx rfl (hb hby at_27) ?_
      show Steps p.tables e below (s₁.setTop (mkF m 28 #[.val (.int i0), .val (.int i1), .val (.int i2), .val (.int i3), .val (.int z101), .val (.int z102), .unset, .unset, .unset, .unset, .unset, .unset, .unset, .unset, .unset, .unset] [(.int (4 : Int32)), (.int i0)])) _
      refine XS.iand X0.here hx rfl (hb hby at_28) rfl ?_
      show Steps p.tables e below (s₁.setTop (mkF m 29 #[.val (.int i0), .val (.int i1), .val (.int i2), .val (.int i3), .val (.int z101), .val (.int z102), .unset, .unset, .unset, .unset, .unset, .unset, .unset, .unset, .unset, .unset] [(.int (i0 &&& (4 : Int32)))])) _
      refine XS.ifYes X0.here hx rfl (pc0 := 29) (pc' := 36) rfl (hb hby at_29) rfl ((if0 _ _).trans (teq hc103).1) (by decide) (by decide) ?_
      show Steps p.tables e below (s₁.setTop (mkF m 36 #[.val (.int i0), .val (.int i1), .val (.int i2), .val (.int i3), .val (.int z101), .val (.int z102), .unset, .unset, .unset, .unset, .unset, .unset, .unset, .unset, .unset, .unset] [])) _
      refine XS.iconst X0.here hx rfl (hb hby at_36) ?_
      exact kt
    · refine ⟨(1 : Int32), Or.inr ⟨hc103, rfl⟩, fun t kt => pre102 t ?_⟩
      show Steps p.tables e below (s₁.setTop (mkF m 24 #[.val (.int i0), .val (.int i1), .val (.int i2), .val (.int i3), .val (.int z101), .unset, .unset, .unset, .unset, .unset, .unset, .unset, .unset, .unset, .unset, .unset] [(.int z102)])) _
      refine XS.istore X0.here hx rfl (hb hby at_24) rfl (l' := #[.val (.int i0), .val (.int i1), .val (.int i2), .val (.int i3), .val (.int z101), .val (.int z102), .unset, .unset, .unset, .unset, .unset, .unset, .unset, .unset, .unset, .unset]) rfl ?_
      show Steps p.tables e below (s₁.setTop (mkF m 26 #[.val (.int i0), .val (.int i1), .val (.int i2), .val (.int i3), .val (.int z101), .val (.int z102), .unset, .unset, .unset, .unset, .unset, .unset, .unset, .unset, .unset, .unset] [])) _
      refine XS.iloadN X0.here hx rfl (hb hby at_26) rfl ?_
      show Steps p.tables e below (s₁.setTop (mkF m 27 #[.val (.int i0), .val (.int i1), .val (.int i2), .val (.int i3), .val (.int z101), .val (.int z102), .unset, .unset, .unset, .unset, .unset, .unset, .unset, .unset, .unset, .unset] [(.int i0)])) _
      refine XS.iconst X0.here hx rfl (hb hby at_27) ?_
      show Steps p.tables e below (s₁.setTop (mkF m 28 #[.val (.int i0), .val (.int i1), .val (.int i2), .val (.int i3), .val (.int z101), .val (.int z102), .unset, .unset, .unset, .unset, .unset, .unset, .unset, .unset, .unset, .unset] [(.int (4 : Int32)), (.int i0)])) _
      refine XS.iand X0.here hx rfl (hb hby at_28) rfl ?_
      show Steps p.tables e below (s₁.setTop (mkF m 29 #[.val (.int i0), .val (.int i1), .val (.int i2), .val (.int i3), .val (.int z101), .val (.int z102), .unset, .unset, .unset, .unset, .unset, .unset, .unset, .unset, .unset, .unset] [(.int (i0 &&& (4 : Int32)))])) _
      refine XS.ifNo X0.here hx rfl (hb hby at_29) rfl ((if0 _ _).trans (feq hc103).1) ?_
      show Steps p.tables e below (s₁.setTop (mkF m 32 #[.val (.int i0), .val (.int i1), .val (.int i2), .val (.int i3), .val (.int z101), .val (.int z102), .unset, .unset, .unset, .unset, .unset, .unset, .unset, .unset, .unset, .unset] [])) _
      refine XS.iconst X0.here hx rfl (hb hby at_32) ?_
      show Steps p.tables e below (s₁.setTop (mkF m 33 #[.val (.int i0), .val (.int i1), .val (.int i2), .val (.int i3), .val (.int z101), .val (.int z102), .unset, .unset, .unset, .unset, .unset, .unset, .unset, .unset, .unset, .unset] [(.int (1 : Int32))])) _
      refine XS.goto X0.here hx rfl (pc0 := 33) (pc' := 37) rfl (hb hby at_33) (by decide) (by decide) ?_
      exact kt
  obtain ⟨z103, hz103, pre103⟩ := jn103
  obtain ⟨_, _, ⟨T104, L104, k104, n104⟩, -, X104, ⟨Lc104, hQ104, l104, y104, z104⟩, st104⟩ := Jvm.LawKit.callS X0 hx (y := (⟨"com/example/keyfold/keyfold/TapeEndPinLaw", "kindOf", "(I)Lcom/example/keyfold/keyfold/JsonValue$Kind;"⟩ : MethodName)) hown (mvT hZ (hw _ (List.mem_of_getElem? (i := 1) rfl))) (mvT hZ (hw _ (List.mem_of_getElem? (i := 2) rfl))) (mvT hZ (hw _ (List.mem_of_getElem? (i := 3) rfl))) (mvT hZ (hw _ (List.mem_of_getElem? (i := 4) rfl))) (by decide) (backOf (W := 0) (rmKo l Z a0 hw [] aK a_OBJECT a_ARRAY a_STRING a_NUMBER a_TRUE a_FALSE a_NULL ((i3 &&& (2147483647 : Int32)) % (7 : Int32)) h0 n0 O0 En (own_r7 i3)) hZ (hw _ (List.mem_of_getElem? (i := 4) rfl)) (hw _ (List.mem_of_getElem? (i := 3) rfl)) (by decide) (by decide)) (g := (mkF m 46 #[.val (.int i0), .val (.int i1), .val (.int i2), .val (.int i3), .val (.int z101), .val (.int z102), .val (.int z103), .unset, .unset, .unset, .unset, .unset, .unset, .unset, .unset, .unset] [(.int ((i3 &&& (2147483647 : Int32)) % (7 : Int32)))])) rfl (by rw [hml]; rfl) (argsL := [(.int ((i3 &&& (2147483647 : Int32)) % (7 : Int32)))]) (rest := []) (lenOf pd_10 rfl) rfl (by show 2 * 0 + _ ≤ _; exact Nat.le_of_eq rfl) (hb hby at_46) (fun _ _ => ⟨rfl, e0, (by decide : 0 + 0 ≤ _), (by decide : 0 + 0 ≤ _)⟩)
  dsimp only [Pt.U, Pt.locs, Pt.cells, Pt.slots] at X104 l104 y104 z104 st104 hQ104
  subst l104 y104 z104
  obtain ⟨ak104, rfl, N104q, hh104, Kn104⟩ := hQ104
  have N104 := Fr.app N0 N104q
  have jn105 : ∃ z105 : Int32, ((z103 = (0 : Int32)) ∧ z105 = (i1 &&& (7 : Int32)) ∨ ¬ (z103 = (0 : Int32)) ∧ z105 = i1) ∧ ∀ t, Steps p.tables e below (T104.setTop (mkF m 64 #[.val (.int i0), .val (.int i1), .val (.int i2), .val (.int i3), .val (.int z101), .val (.int z102), .val (.int z103), .val (.ref ak104), .unset, .unset, .unset, .unset, .unset, .unset, .unset, .unset] [(.int z105)])) t → Steps p.tables e below (s₁.setTop (entryFrame m #[(.int i0), (.int i1), (.int i2), (.int i3)] maxLocals)) t := by
    by_cases hc105 : z103 = (0 : Int32)
    · refine ⟨(i1 &&& (7 : Int32)), Or.inl ⟨hc105, rfl⟩, fun t kt => pre103 t ?_⟩
      show Steps p.tables e below (s₁.setTop (mkF m 37 #[.val (.int i0), .val (.int i1), .val (.int i2), .val (.int i3), .val (.int z101), .val (.int z102), .unset, .unset, .unset, .unset, .unset, .unset, .unset, .unset, .unset, .unset] [(.int z103)])) _
      refine XS.istore X0.here hx rfl (hb hby at_37) rfl (l' := #[.val (.int i0), .val (.int i1), .val (.int i2), .val (.int i3), .val (.int z101), .val (.int z102), .val (.int z103), .unset, .unset, .unset, .unset, .unset, .unset, .unset, .unset, .unset]) rfl ?_
      show Steps p.tables e below (s₁.setTop (mkF m 39 #[.val (.int i0), .val (.int i1), .val (.int i2), .val (.int i3), .val (.int z101), .val (.int z102), .val (.int z103), .unset, .unset, .unset, .unset, .unset, .unset, .unset, .unset, .unset] [])) _
      refine XS.iloadN X0.here hx rfl (hb hby at_39) rfl ?_
      show Steps p.tables e below (s₁.setTop (mkF m 40 #[.val (.int i0), .val (.int i1), .val (.int i2), .val (.int i3), .val (.int z101), .val (.int z102), .val (.int z103), .unset, .unset, .unset, .unset, .unset, .unset, .unset, .unset, .unset] [(.int i3)])) _
      refine X0.ldcInt hx hown (mvT hZ (hw _ (List.mem_of_getElem? (i := 0) rfl))) (g := (mkF m 40 #[.val (.int i0), .val (.int i1), .val (.int i2), .val (.int i3), .val (.int z101), .val (.int z102), .val (.int z103), .unset, .unset, .unset, .unset, .unset, .unset, .unset, .unset, .unset] [(.int i3)])) rfl (hb hby at_40) _ ?_
      show Steps p.tables e below (s₁.setTop (mkF m 42 #[.val (.int i0), .val (.int i1), .val (.int i2), .val (.int i3), .val (.int z101), .val (.int z102), .val (.int z103), .unset, .unset, .unset, .unset, .unset, .unset, .unset, .unset, .unset] [(.int (2147483647 : Int32)), (.int i3)])) _
      refine XS.iand X0.here hx rfl (hb hby at_42) rfl ?_
      show Steps p.tables e below (s₁.setTop (mkF m 43 #[.val (.int i0), .val (.int i1), .val (.int i2), .val (.int i3), .val (.int z101), .val (.int z102), .val (.int z103), .unset, .unset, .unset, .unset, .unset, .unset, .unset, .unset, .unset] [(.int (i3 &&& (2147483647 : Int32)))])) _
      refine XS.bipush X0.here hx rfl (hb hby at_43) ?_
      show Steps p.tables e below (s₁.setTop (mkF m 45 #[.val (.int i0), .val (.int i1), .val (.int i2), .val (.int i3), .val (.int z101), .val (.int z102), .val (.int z103), .unset, .unset, .unset, .unset, .unset, .unset, .unset, .unset, .unset] [(.int (7 : Int32)), (.int (i3 &&& (2147483647 : Int32)))])) _
      refine iremM X0 hx rfl (hb hby at_45) rfl (by decide) ?_
      show Steps p.tables e below (s₁.setTop (mkF m 46 #[.val (.int i0), .val (.int i1), .val (.int i2), .val (.int i3), .val (.int z101), .val (.int z102), .val (.int z103), .unset, .unset, .unset, .unset, .unset, .unset, .unset, .unset, .unset] [(.int ((i3 &&& (2147483647 : Int32)) % (7 : Int32)))])) _
      refine st104 _ ?_
      show Steps p.tables e below (T104.setTop (mkF m 49 #[.val (.int i0), .val (.int i1), .val (.int i2), .val (.int i3), .val (.int z101), .val (.int z102), .val (.int z103), .unset, .unset, .unset, .unset, .unset, .unset, .unset, .unset, .unset] [(.ref ak104)])) _
      refine XS.astore X104.here hx rfl (hb hby at_49) rfl rfl (l' := #[.val (.int i0), .val (.int i1), .val (.int i2), .val (.int i3), .val (.int z101), .val (.int z102), .val (.int z103), .val (.ref ak104), .unset, .unset, .unset, .unset, .unset, .unset, .unset, .unset]) rfl ?_
      show Steps p.tables e below (T104.setTop (mkF m 51 #[.val (.int i0), .val (.int i1), .val (.int i2), .val (.int i3), .val (.int z101), .val (.int z102), .val (.int z103), .val (.ref ak104), .unset, .unset, .unset, .unset, .unset, .unset, .unset, .unset] [])) _
      refine XS.iload X104.here hx rfl (hb hby at_51) rfl ?_
      show Steps p.tables e below (T104.setTop (mkF m 53 #[.val (.int i0), .val (.int i1), .val (.int i2), .val (.int i3), .val (.int z101), .val (.int z102), .val (.int z103), .val (.ref ak104), .unset, .unset, .unset, .unset, .unset, .unset, .unset, .unset] [(.int z103)])) _
      refine XS.ifYes X104.here hx rfl (pc0 := 53) (pc' := 60) rfl (hb hby at_53) rfl ((if0 _ _).trans (teq hc105).1) (by decide) (by decide) ?_
      show Steps p.tables e below (T104.setTop (mkF m 60 #[.val (.int i0), .val (.int i1), .val (.int i2), .val (.int i3), .val (.int z101), .val (.int z102), .val (.int z103), .val (.ref ak104), .unset, .unset, .unset, .unset, .unset, .unset, .unset, .unset] [])) _
      refine XS.iloadN X104.here hx rfl (hb hby at_60) rfl ?_
      show Steps p.tables e below (T104.setTop (mkF m 61 #[.val (.int i0), .val (.int i1), .val (.int i2), .val (.int i3), .val (.int z101), .val (.int z102), .val (.int z103), .val (.ref ak104), .unset, .unset, .unset, .unset, .unset, .unset, .unset, .unset] [(.int i1)])) _
      refine XS.bipush X104.here hx rfl (hb hby at_61) ?_
      show Steps p.tables e below (T104.setTop (mkF m 63 #[.val (.int i0), .val (.int i1), .val (.int i2), .val (.int i3), .val (.int z101), .val (.int z102), .val (.int z103), .val (.ref ak104), .unset, .unset, .unset, .unset, .unset, .unset, .unset, .unset] [(.int (7 : Int32)), (.int i1)])) _
      refine XS.iand X104.here hx rfl (hb hby at_63) rfl ?_
      exact kt
    · refine ⟨i1, Or.inr ⟨hc105, rfl⟩, fun t kt => pre103 t ?_⟩
      show Steps p.tables e below (s₁.setTop (mkF m 37 #[.val (.int i0), .val (.int i1), .val (.int i2), .val (.int i3), .val (.int z101), .val (.int z102), .unset, .unset, .unset, .unset, .unset, .unset, .unset, .unset, .unset, .unset] [(.int z103)])) _
      refine XS.istore X0.here hx rfl (hb hby at_37) rfl (l' := #[.val (.int i0), .val (.int i1), .val (.int i2), .val (.int i3), .val (.int z101), .val (.int z102), .val (.int z103), .unset, .unset, .unset, .unset, .unset, .unset, .unset, .unset, .unset]) rfl ?_
      show Steps p.tables e below (s₁.setTop (mkF m 39 #[.val (.int i0), .val (.int i1), .val (.int i2), .val (.int i3), .val (.int z101), .val (.int z102), .val (.int z103), .unset, .unset, .unset, .unset, .unset, .unset, .unset, .unset, .unset] [])) _
      refine XS.iloadN X0.here hx rfl (hb hby at_39) rfl ?_
      show Steps p.tables e below (s₁.setTop (mkF m 40 #[.val (.int i0), .val (.int i1), .val (.int i2), .val (.int i3), .val (.int z101), .val (.int z102), .val (.int z103), .unset, .unset, .unset, .unset, .unset, .unset, .unset, .unset, .unset] [(.int i3)])) _
      refine X0.ldcInt hx hown (mvT hZ (hw _ (List.mem_of_getElem? (i := 0) rfl))) (g := (mkF m 40 #[.val (.int i0), .val (.int i1), .val (.int i2), .val (.int i3), .val (.int z101), .val (.int z102), .val (.int z103), .unset, .unset, .unset, .unset, .unset, .unset, .unset, .unset, .unset] [(.int i3)])) rfl (hb hby at_40) _ ?_
      show Steps p.tables e below (s₁.setTop (mkF m 42 #[.val (.int i0), .val (.int i1), .val (.int i2), .val (.int i3), .val (.int z101), .val (.int z102), .val (.int z103), .unset, .unset, .unset, .unset, .unset, .unset, .unset, .unset, .unset] [(.int (2147483647 : Int32)), (.int i3)])) _
      refine XS.iand X0.here hx rfl (hb hby at_42) rfl ?_
      show Steps p.tables e below (s₁.setTop (mkF m 43 #[.val (.int i0), .val (.int i1), .val (.int i2), .val (.int i3), .val (.int z101), .val (.int z102), .val (.int z103), .unset, .unset, .unset, .unset, .unset, .unset, .unset, .unset, .unset] [(.int (i3 &&& (2147483647 : Int32)))])) _
      refine XS.bipush X0.here hx rfl (hb hby at_43) ?_
      show Steps p.tables e below (s₁.setTop (mkF m 45 #[.val (.int i0), .val (.int i1), .val (.int i2), .val (.int i3), .val (.int z101), .val (.int z102), .val (.int z103), .unset, .unset, .unset, .unset, .unset, .unset, .unset, .unset, .unset] [(.int (7 : Int32)), (.int (i3 &&& (2147483647 : Int32)))])) _
      refine iremM X0 hx rfl (hb hby at_45) rfl (by decide) ?_
      show Steps p.tables e below (s₁.setTop (mkF m 46 #[.val (.int i0), .val (.int i1), .val (.int i2), .val (.int i3), .val (.int z101), .val (.int z102), .val (.int z103), .unset, .unset, .unset, .unset, .unset, .unset, .unset, .unset, .unset] [(.int ((i3 &&& (2147483647 : Int32)) % (7 : Int32)))])) _
      refine st104 _ ?_
      show Steps p.tables e below (T104.setTop (mkF m 49 #[.val (.int i0), .val (.int i1), .val (.int i2), .val (.int i3), .val (.int z101), .val (.int z102), .val (.int z103), .unset, .unset, .unset, .unset, .unset, .unset, .unset, .unset, .unset] [(.ref ak104)])) _
      refine XS.astore X104.here hx rfl (hb hby at_49) rfl rfl (l' := #[.val (.int i0), .val (.int i1), .val (.int i2), .val (.int i3), .val (.int z101), .val (.int z102), .val (.int z103), .val (.ref ak104), .unset, .unset, .unset, .unset, .unset, .unset, .unset, .unset]) rfl ?_
      show Steps p.tables e below (T104.setTop (mkF m 51 #[.val (.int i0), .val (.int i1), .val (.int i2), .val (.int i3), .val (.int z101), .val (.int z102), .val (.int z103), .val (.ref ak104), .unset, .unset, .unset, .unset, .unset, .unset, .unset, .unset] [])) _
      refine XS.iload X104.here hx rfl (hb hby at_51) rfl ?_
      show Steps p.tables e below (T104.setTop (mkF m 53 #[.val (.int i0), .val (.int i1), .val (.int i2), .val (.int i3), .val (.int z101), .val (.int z102), .val (.int z103), .val (.ref ak104), .unset, .unset, .unset, .unset, .unset, .unset, .unset, .unset] [(.int z103)])) _
      refine XS.ifNo X104.here hx rfl (hb hby at_53) rfl ((if0 _ _).trans (feq hc105).1) ?_
      show Steps p.tables e below (T104.setTop (mkF m 56 #[.val (.int i0), .val (.int i1), .val (.int i2), .val (.int i3), .val (.int z101), .val (.int z102), .val (.int z103), .val (.ref ak104), .unset, .unset, .unset, .unset, .unset, .unset, .unset, .unset] [])) _
      refine XS.iloadN X104.here hx rfl (hb hby at_56) rfl ?_
      show Steps p.tables e below (T104.setTop (mkF m 57 #[.val (.int i0), .val (.int i1), .val (.int i2), .val (.int i3), .val (.int z101), .val (.int z102), .val (.int z103), .val (.ref ak104), .unset, .unset, .unset, .unset, .unset, .unset, .unset, .unset] [(.int i1)])) _
      refine XS.goto X104.here hx rfl (pc0 := 57) (pc' := 64) rfl (hb hby at_57) (by decide) (by decide) ?_
      exact kt
  obtain ⟨z105, hz105, pre105⟩ := jn105
  have jn106 : ∃ z106 : Int32, ((z103 = (0 : Int32)) ∧ z106 = (z105 + ((i2 &&& (2147483647 : Int32)) % ((9 : Int32) - z105))) ∨ ¬ (z103 = (0 : Int32)) ∧ z106 = i2) ∧ ∀ t, Steps p.tables e below (T104.setTop (mkF m 88 #[.val (.int i0), .val (.int i1), .val (.int i2), .val (.int i3), .val (.int z101), .val (.int z102), .val (.int z103), .val (.ref ak104), .val (.int z105), .unset, .unset, .unset, .unset, .unset, .unset, .unset] [(.int z106)])) t → Steps p.tables e below (s₁.setTop (entryFrame m #[(.int i0), (.int i1), (.int i2), (.int i3)] maxLocals)) t := by
    by_cases hc106 : z103 = (0 : Int32)
    · refine ⟨(z105 + ((i2 &&& (2147483647 : Int32)) % ((9 : Int32) - z105))), Or.inl ⟨hc106, rfl⟩, fun t kt => pre105 t ?_⟩
      show Steps p.tables e below (T104.setTop (mkF m 64 #[.val (.int i0), .val (.int i1), .val (.int i2), .val (.int i3), .val (.int z101), .val (.int z102), .val (.int z103), .val (.ref ak104), .unset, .unset, .unset, .unset, .unset, .unset, .unset, .unset] [(.int z105)])) _
      refine XS.istore X104.here hx rfl (hb hby at_64) rfl (l' := #[.val (.int i0), .val (.int i1), .val (.int i2), .val (.int i3), .val (.int z101), .val (.int z102), .val (.int z103), .val (.ref ak104), .val (.int z105), .unset, .unset, .unset, .unset, .unset, .unset, .unset]) rfl ?_
      show Steps p.tables e below (T104.setTop (mkF m 66 #[.val (.int i0), .val (.int i1), .val (.int i2), .val (.int i3), .val (.int z101), .val (.int z102), .val (.int z103), .val (.ref ak104), .val (.int z105), .unset, .unset, .unset, .unset, .unset, .unset, .unset] [])) _
      refine XS.iload X104.here hx rfl (hb hby at_66) rfl ?_
      show Steps p.tables e below (T104.setTop (mkF m 68 #[.val (.int i0), .val (.int i1), .val (.int i2), .val (.int i3), .val (.int z101), .val (.int z102), .val (.int z103), .val (.ref ak104), .val (.int z105), .unset, .unset, .unset, .unset, .unset, .unset, .unset] [(.int z103)])) _
      refine XS.ifYes X104.here hx rfl (pc0 := 68) (pc' := 75) rfl (hb hby at_68) rfl ((if0 _ _).trans (teq hc106).1) (by decide) (by decide) ?_
      show Steps p.tables e below (T104.setTop (mkF m 75 #[.val (.int i0), .val (.int i1), .val (.int i2), .val (.int i3), .val (.int z101), .val (.int z102), .val (.int z103), .val (.ref ak104), .val (.int z105), .unset, .unset, .unset, .unset, .unset, .unset, .unset] [])) _
      refine XS.iload X104.here hx rfl (hb hby at_75) rfl ?_
      show Steps p.tables e below (T104.setTop (mkF m 77 #[.val (.int i0), .val (.int i1), .val (.int i2), .val (.int i3), .val (.int z101), .val (.int z102), .val (.int z103), .val (.ref ak104), .val (.int z105), .unset, .unset, .unset, .unset, .unset, .unset, .unset] [(.int z105)])) _
      refine XS.iloadN X104.here hx rfl (hb hby at_77) rfl ?_
      show Steps p.tables e below (T104.setTop (mkF m 78 #[.val (.int i0), .val (.int i1), .val (.int i2), .val (.int i3), .val (.int z101), .val (.int z102), .val (.int z103), .val (.ref ak104), .val (.int z105), .unset, .unset, .unset, .unset, .unset, .unset, .unset] [(.int i2), (.int z105)])) _
      refine X104.ldcInt hx hown (mvT hZ (hw _ (List.mem_of_getElem? (i := 0) rfl))) (g := (mkF m 78 #[.val (.int i0), .val (.int i1), .val (.int i2), .val (.int i3), .val (.int z101), .val (.int z102), .val (.int z103), .val (.ref ak104), .val (.int z105), .unset, .unset, .unset, .unset, .unset, .unset, .unset] [(.int i2), (.int z105)])) rfl (hb hby at_78) _ ?_
      show Steps p.tables e below (T104.setTop (mkF m 80 #[.val (.int i0), .val (.int i1), .val (.int i2), .val (.int i3), .val (.int z101), .val (.int z102), .val (.int z103), .val (.ref ak104), .val (.int z105), .unset, .unset, .unset, .unset, .unset, .unset, .unset] [(.int (2147483647 : Int32)), (.int i2), (.int z105)])) _
      refine XS.iand X104.here hx rfl (hb hby at_80) rfl ?_
      show Steps p.tables e below (T104.setTop (mkF m 81 #[.val (.int i0), .val (.int i1), .val (.int i2), .val (.int i3), .val (.int z101), .val (.int z102), .val (.int z103), .val (.ref ak104), .val (.int z105), .unset, .unset, .unset, .unset, .unset, .unset, .unset] [(.int (i2 &&& (2147483647 : Int32))), (.int z105)])) _
      refine XS.bipush X104.here hx rfl (hb hby at_81) ?_
      show Steps p.tables e below (T104.setTop (mkF m 83 #[.val (.int i0), .val (.int i1), .val (.int i2), .val (.int i3), .val (.int z101), .val (.int z102), .val (.int z103), .val (.ref ak104), .val (.int z105), .unset, .unset, .unset, .unset, .unset, .unset, .unset] [(.int (9 : Int32)), (.int (i2 &&& (2147483647 : Int32))), (.int z105)])) _
      refine XS.iload X104.here hx rfl (hb hby at_83) rfl ?_
      show Steps p.tables e below (T104.setTop (mkF m 85 #[.val (.int i0), .val (.int i1), .val (.int i2), .val (.int i3), .val (.int z101), .val (.int z102), .val (.int z103), .val (.ref ak104), .val (.int z105), .unset, .unset, .unset, .unset, .unset, .unset, .unset] [(.int z105), (.int (9 : Int32)), (.int (i2 &&& (2147483647 : Int32))), (.int z105)])) _
      refine XS.isub X104.here hx rfl (hb hby at_85) rfl ?_
      show Steps p.tables e below (T104.setTop (mkF m 86 #[.val (.int i0), .val (.int i1), .val (.int i2), .val (.int i3), .val (.int z101), .val (.int z102), .val (.int z103), .val (.ref ak104), .val (.int z105), .unset, .unset, .unset, .unset, .unset, .unset, .unset] [(.int ((9 : Int32) - z105)), (.int (i2 &&& (2147483647 : Int32))), (.int z105)])) _
      refine iremM X104 hx rfl (hb hby at_86) rfl (own_nz9 hz105 hc106) ?_
      show Steps p.tables e below (T104.setTop (mkF m 87 #[.val (.int i0), .val (.int i1), .val (.int i2), .val (.int i3), .val (.int z101), .val (.int z102), .val (.int z103), .val (.ref ak104), .val (.int z105), .unset, .unset, .unset, .unset, .unset, .unset, .unset] [(.int ((i2 &&& (2147483647 : Int32)) % ((9 : Int32) - z105))), (.int z105)])) _
      refine XS.iadd X104.here hx rfl (hb hby at_87) rfl ?_
      exact kt
    · refine ⟨i2, Or.inr ⟨hc106, rfl⟩, fun t kt => pre105 t ?_⟩
      show Steps p.tables e below (T104.setTop (mkF m 64 #[.val (.int i0), .val (.int i1), .val (.int i2), .val (.int i3), .val (.int z101), .val (.int z102), .val (.int z103), .val (.ref ak104), .unset, .unset, .unset, .unset, .unset, .unset, .unset, .unset] [(.int z105)])) _
      refine XS.istore X104.here hx rfl (hb hby at_64) rfl (l' := #[.val (.int i0), .val (.int i1), .val (.int i2), .val (.int i3), .val (.int z101), .val (.int z102), .val (.int z103), .val (.ref ak104), .val (.int z105), .unset, .unset, .unset, .unset, .unset, .unset, .unset]) rfl ?_
      show Steps p.tables e below (T104.setTop (mkF m 66 #[.val (.int i0), .val (.int i1), .val (.int i2), .val (.int i3), .val (.int z101), .val (.int z102), .val (.int z103), .val (.ref ak104), .val (.int z105), .unset, .unset, .unset, .unset, .unset, .unset, .unset] [])) _
      refine XS.iload X104.here hx rfl (hb hby at_66) rfl ?_
      show Steps p.tables e below (T104.setTop (mkF m 68 #[.val (.int i0), .val (.int i1), .val (.int i2), .val (.int i3), .val (.int z101), .val (.int z102), .val (.int z103), .val (.ref ak104), .val (.int z105), .unset, .unset, .unset, .unset, .unset, .unset, .unset] [(.int z103)])) _
      refine XS.ifNo X104.here hx rfl (hb hby at_68) rfl ((if0 _ _).trans (feq hc106).1) ?_
      show Steps p.tables e below (T104.setTop (mkF m 71 #[.val (.int i0), .val (.int i1), .val (.int i2), .val (.int i3), .val (.int z101), .val (.int z102), .val (.int z103), .val (.ref ak104), .val (.int z105), .unset, .unset, .unset, .unset, .unset, .unset, .unset] [])) _
      refine XS.iloadN X104.here hx rfl (hb hby at_71) rfl ?_
      show Steps p.tables e below (T104.setTop (mkF m 72 #[.val (.int i0), .val (.int i1), .val (.int i2), .val (.int i3), .val (.int z101), .val (.int z102), .val (.int z103), .val (.ref ak104), .val (.int z105), .unset, .unset, .unset, .unset, .unset, .unset, .unset] [(.int i2)])) _
      refine XS.goto X104.here hx rfl (pc0 := 72) (pc' := 88) rfl (hb hby at_72) (by decide) (by decide) ?_
      exact kt
  obtain ⟨z106, hz106, pre106⟩ := jn106
  obtain ⟨T107, h107, k107, X107, e107, E107, A107, Q107, st107⟩ := newPE X104 hx hZ (hw _ (List.mem_of_getElem? (i := 8) rfl)) hh104 (g := (mkF m 92 #[.val (.int i0), .val (.int i1), .val (.int i2), .val (.int i3), .val (.int z101), .val (.int z102), .val (.int z103), .val (.ref ak104), .val (.int z105), .val (.int z106), .unset, .unset, .unset, .unset, .unset, .unset] [(.int (8 : Int32))])) rfl (hb hby at_92) rfl (by decide) (cap := 8) (by decide) (by decide) (by decide) (by decide) (ad := "[B") rfl
  obtain ⟨b107, g107⟩ : ∃ z, z = h0.size := ⟨_, rfl⟩
  rw [← g107] at A107 Q107 st107
  have gb107 : n0 ≤ b107 := by rw [g107, ← O0.1]; exact O0.2.1
  have ne107_ak104 : ak104 ≠ b107 := by rw [g107]; exact Nat.ne_of_lt ((Exa.ext O0.2 Kn104.1)).lt
  have V107 : Arv Z h107 b107 k107 .byte (8 : Int32) [(.int (0 : Int32)), (.int (0 : Int32)), (.int (0 : Int32)), (.int (0 : Int32)), (.int (0 : Int32)), (.int (0 : Int32)), (.int (0 : Int32)), (.int (0 : Int32))] (.int (0 : Int32)) := (Arv.new A107 (by decide)).pad (pad_rep [] (.int (0 : Int32)) 8)
  obtain ⟨cl108, Ar108, q108, S108, N108_, H108, G108⟩ := id V107
  have hin108 : ¬ ((0 : Int32) < 0 ∨ cl108.slots.size ≤ ((0 : Int32)).toNatClampNeg) := inb_of S108 ⟨by decide, by decide⟩
  obtain ⟨T109, h109, X109, e109, W109, st109⟩ := stB X107 hx hZ e107 Ar108 (j := (0 : Int32)) hin108 (g := (mkF m 98 #[.val (.int i0), .val (.int i1), .val (.int i2), .val (.int i3), .val (.int z101), .val (.int z102), .val (.int z103), .val (.ref ak104), .val (.int z105), .val (.int z106), .unset, .unset, .unset, .unset, .unset, .unset] [(.int (49 : Int32)), (.int (0 : Int32)), (.ref b107), (.ref b107)])) rfl rfl (hb hby at_98)
  have V109 : Arv Z h109 b107 k107 .byte (8 : Int32) [(.int (49 : Int32)), (.int (0 : Int32)), (.int (0 : Int32)), (.int (0 : Int32)), (.int (0 : Int32)), (.int (0 : Int32)), (.int (0 : Int32)), (.int (0 : Int32))] (.int (0 : Int32)) := Arv.set Ar108 q108 S108 N108_ H108 G108 (fits_nar_byte _) W109 0 rfl (Nat.le_of_ble_eq_true rfl)
  have N109 := Fr.snoc X109 N104 gb107
  obtain ⟨cl110, Ar110, q110, S110, N110_, H110, G110⟩ := id V109
  have hin110 : ¬ ((1 : Int32) < 0 ∨ cl110.slots.size ≤ ((1 : Int32)).toNatClampNeg) := inb_of S110 ⟨by decide, by decide⟩
  obtain ⟨T111, h111, X111, e111, W111, st111⟩ := stB X109 hx hZ e109 Ar110 (j := (1 : Int32)) hin110 (g := (mkF m 103 #[.val (.int i0), .val (.int i1), .val (.int i2), .val (.int i3), .val (.int z101), .val (.int z102), .val (.int z103), .val (.ref ak104), .val (.int z105), .val (.int z106), .unset, .unset, .unset, .unset, .unset, .unset] [(.int (32 : Int32)), (.int (1 : Int32)), (.ref b107), (.ref b107)])) rfl rfl (hb hby at_103)
  have V111 : Arv Z h111 b107 k107 .byte (8 : Int32) [(.int (49 : Int32)), (.int (32 : Int32)), (.int (0 : Int32)), (.int (0 : Int32)), (.int (0 : Int32)), (.int (0 : Int32)), (.int (0 : Int32)), (.int (0 : Int32))] (.int (0 : Int32)) := Arv.set Ar110 q110 S110 N110_ H110 G110 (fits_nar_byte _) W111 1 rfl (Nat.le_of_ble_eq_true rfl)
  have N111 := Fr.snoc X111 N109 gb107
  obtain ⟨cl112, Ar112, q112, S112, N112_, H112, G112⟩ := id V111
  have hin112 : ¬ ((2 : Int32) < 0 ∨ cl112.slots.size ≤ ((2 : Int32)).toNatClampNeg) := inb_of S112 ⟨by decide, by decide⟩
  obtain ⟨T113, h113, X113, e113, W113, st113⟩ := stB X111 hx hZ e111 Ar112 (j := (2 : Int32)) hin112 (g := (mkF m 108 #[.val (.int i0), .val (.int i1), .val (.int i2), .val (.int i3), .val (.int z101), .val (.int z102), .val (.int z103), .val (.ref ak104), .val (.int z105), .val (.int z106), .unset, .unset, .unset, .unset, .unset, .unset] [(.int (50 : Int32)), (.int (2 : Int32)), (.ref b107), (.ref b107)])) rfl rfl (hb hby at_108)
  have V113 : Arv Z h113 b107 k107 .byte (8 : Int32) [(.int (49 : Int32)), (.int (32 : Int32)), (.int (50 : Int32)), (.int (0 : Int32)), (.int (0 : Int32)), (.int (0 : Int32)), (.int (0 : Int32)), (.int (0 : Int32))] (.int (0 : Int32)) := Arv.set Ar112 q112 S112 N112_ H112 G112 (fits_nar_byte _) W113 2 rfl (Nat.le_of_ble_eq_true rfl)
  have N113 := Fr.snoc X113 N111 gb107
  obtain ⟨cl114, Ar114, q114, S114, N114_, H114, G114⟩ := id V113
  have hin114 : ¬ ((3 : Int32) < 0 ∨ cl114.slots.size ≤ ((3 : Int32)).toNatClampNeg) := inb_of S114 ⟨by decide, by decide⟩
  obtain ⟨T115, h115, X115, e115, W115, st115⟩ := stB X113 hx hZ e113 Ar114 (j := (3 : Int32)) hin114 (g := (mkF m 113 #[.val (.int i0), .val (.int i1), .val (.int i2), .val (.int i3), .val (.int z101), .val (.int z102), .val (.int z103), .val (.ref ak104), .val (.int z105), .val (.int z106), .unset, .unset, .unset, .unset, .unset, .unset] [(.int (32 : Int32)), (.int (3 : Int32)), (.ref b107), (.ref b107)])) rfl rfl (hb hby at_113)
  have V115 : Arv Z h115 b107 k107 .byte (8 : Int32) [(.int (49 : Int32)), (.int (32 : Int32)), (.int (50 : Int32)), (.int (32 : Int32)), (.int (0 : Int32)), (.int (0 : Int32)), (.int (0 : Int32)), (.int (0 : Int32))] (.int (0 : Int32)) := Arv.set Ar114 q114 S114 N114_ H114 G114 (fits_nar_byte _) W115 3 rfl (Nat.le_of_ble_eq_true rfl)
  have N115 := Fr.snoc X115 N113 gb107
  obtain ⟨cl116, Ar116, q116, S116, N116_, H116, G116⟩ := id V115
  have hin116 : ¬ ((4 : Int32) < 0 ∨ cl116.slots.size ≤ ((4 : Int32)).toNatClampNeg) := inb_of S116 ⟨by decide, by decide⟩
  obtain ⟨T117, h117, X117, e117, W117, st117⟩ := stB X115 hx hZ e115 Ar116 (j := (4 : Int32)) hin116 (g := (mkF m 118 #[.val (.int i0), .val (.int i1), .val (.int i2), .val (.int i3), .val (.int z101), .val (.int z102), .val (.int z103), .val (.ref ak104), .val (.int z105), .val (.int z106), .unset, .unset, .unset, .unset, .unset, .unset] [(.int (51 : Int32)), (.int (4 : Int32)), (.ref b107), (.ref b107)])) rfl rfl (hb hby at_118)
  have V117 : Arv Z h117 b107 k107 .byte (8 : Int32) [(.int (49 : Int32)), (.int (32 : Int32)), (.int (50 : Int32)), (.int (32 : Int32)), (.int (51 : Int32)), (.int (0 : Int32)), (.int (0 : Int32)), (.int (0 : Int32))] (.int (0 : Int32)) := Arv.set Ar116 q116 S116 N116_ H116 G116 (fits_nar_byte _) W117 4 rfl (Nat.le_of_ble_eq_true rfl)
  have N117 := Fr.snoc X117 N115 gb107
  obtain ⟨cl118, Ar118, q118, S118, N118_, H118, G118⟩ := id V117
  have hin118 : ¬ ((5 : Int32) < 0 ∨ cl118.slots.size ≤ ((5 : Int32)).toNatClampNeg) := inb_of S118 ⟨by decide, by decide⟩
  obtain ⟨T119, h119, X119, e119, W119, st119⟩ := stB X117 hx hZ e117 Ar118 (j := (5 : Int32)) hin118 (g := (mkF m 123 #[.val (.int i0), .val (.int i1), .val (.int i2), .val (.int i3), .val (.int z101), .val (.int z102), .val (.int z103), .val (.ref ak104), .val (.int z105), .val (.int z106), .unset, .unset, .unset, .unset, .unset, .unset] [(.int (32 : Int32)), (.int (5 : Int32)), (.ref b107), (.ref b107)])) rfl rfl (hb hby at_123)
  have V119 : Arv Z h119 b107 k107 .byte (8 : Int32) [(.int (49 : Int32)), (.int (32 : Int32)), (.int (50 : Int32)), (.int (32 : Int32)), (.int (51 : Int32)), (.int (32 : Int32)), (.int (0 : Int32)), (.int (0 : Int32))] (.int (0 : Int32)) := Arv.set Ar118 q118 S118 N118_ H118 G118 (fits_nar_byte _) W119 5 rfl (Nat.le_of_ble_eq_true rfl)
  have N119 := Fr.snoc X119 N117 gb107
  obtain ⟨cl120, Ar120, q120, S120, N120_, H120, G120⟩ := id V119
  have hin120 : ¬ ((6 : Int32) < 0 ∨ cl120.slots.size ≤ ((6 : Int32)).toNatClampNeg) := inb_of S120 ⟨by decide, by decide⟩
  obtain ⟨T121, h121, X121, e121, W121, st121⟩ := stB X119 hx hZ e119 Ar120 (j := (6 : Int32)) hin120 (g := (mkF m 129 #[.val (.int i0), .val (.int i1), .val (.int i2), .val (.int i3), .val (.int z101), .val (.int z102), .val (.int z103), .val (.ref ak104), .val (.int z105), .val (.int z106), .unset, .unset, .unset, .unset, .unset, .unset] [(.int (52 : Int32)), (.int (6 : Int32)), (.ref b107), (.ref b107)])) rfl rfl (hb hby at_129)
  have V121 : Arv Z h121 b107 k107 .byte (8 : Int32) [(.int (49 : Int32)), (.int (32 : Int32)), (.int (50 : Int32)), (.int (32 : Int32)), (.int (51 : Int32)), (.int (32 : Int32)), (.int (52 : Int32)), (.int (0 : Int32))] (.int (0 : Int32)) := Arv.set Ar120 q120 S120 N120_ H120 G120 (fits_nar_byte _) W121 6 rfl (Nat.le_of_ble_eq_true rfl)
  have N121 := Fr.snoc X121 N119 gb107
  obtain ⟨cl122, Ar122, q122, S122, N122_, H122, G122⟩ := id V121
  have hin122 : ¬ ((7 : Int32) < 0 ∨ cl122.slots.size ≤ ((7 : Int32)).toNatClampNeg) := inb_of S122 ⟨by decide, by decide⟩
  obtain ⟨T123, h123, X123, e123, W123, st123⟩ := stB X121 hx hZ e121 Ar122 (j := (7 : Int32)) hin122 (g := (mkF m 135 #[.val (.int i0), .val (.int i1), .val (.int i2), .val (.int i3), .val (.int z101), .val (.int z102), .val (.int z103), .val (.ref ak104), .val (.int z105), .val (.int z106), .unset, .unset, .unset, .unset, .unset, .unset] [(.int (32 : Int32)), (.int (7 : Int32)), (.ref b107), (.ref b107)])) rfl rfl (hb hby at_135)
  have V123 : Arv Z h123 b107 k107 .byte (8 : Int32) [(.int (49 : Int32)), (.int (32 : Int32)), (.int (50 : Int32)), (.int (32 : Int32)), (.int (51 : Int32)), (.int (32 : Int32)), (.int (52 : Int32)), (.int (32 : Int32))] (.int (0 : Int32)) := Arv.set Ar122 q122 S122 N122_ H122 G122 (fits_nar_byte _) W123 7 rfl (Nat.le_of_ble_eq_true rfl)
  have N123 := Fr.snoc X123 N121 gb107
  have O124 : Old Z n0 h123 := (((((((((O0.ext E107).wr W109 gb107).wr W111 gb107).wr W113 gb107).wr W115 gb107).wr W117 gb107).wr W119 gb107).wr W121 gb107).wr W123 gb107)
  obtain ⟨T125, h125, X125, e125, E125, A125, D125, -, st125⟩ := newO X123 hx hZ hown (hw _ (List.mem_of_getElem? (i := 9) rfl)) (hw _ (List.mem_of_getElem? (i := 10) rfl)) (hw _ (List.mem_of_getElem? (i := 11) rfl)) e123 (g := (mkF m 138 #[.val (.int i0), .val (.int i1), .val (.int i2), .val (.int i3), .val (.int z101), .val (.int z102), .val (.int z103), .val (.ref ak104), .val (.int z105), .val (.int z106), .val (.ref b107), .unset, .unset, .unset, .unset, .unset] [])) rfl (hb hby at_138) (by decide) (by decide)
  obtain ⟨b125, g125⟩ : ∃ z, z = h123.size := ⟨_, rfl⟩
  rw [← g125] at A125 D125 st125
  have gb125 : n0 ≤ b125 := by rw [g125, ← O124.1]; exact O124.2.1
  have f126 := ((((((((((Exa.ext O0.2 Kn104.1).ext E107).wr W109).wr W111).wr W113).wr W115).wr W117).wr W119).wr W121).wr W123)
  have ne125_ak104 : ak104 ≠ b125 := by rw [g125]; exact Nat.ne_of_lt (f126).lt
  have f127 := ((((((((Q107.wr W109).wr W111).wr W113).wr W115).wr W117).wr W119).wr W121).wr W123)
  have ne125_b107 : b107 ≠ b125 := by rw [g125]; exact Nat.ne_of_lt (f127).lt
  have F125_records : Fld Z h125 b125 "com/example/keyfold/keyfold/JsonValue$Tape" "records" "[I" .null := D125 (Or.inl (hw _ (List.mem_of_getElem? (i := 20) rfl))) (ty := (.array .int)) (by decide)
  have F125_names : Fld Z h125 b125 "com/example/keyfold/keyfold/JsonValue$Tape" "names" "[Ljava/lang/String;" .null := D125 (Or.inl (hw _ (List.mem_of_getElem? (i := 24) rfl))) (ty := (.array (.object "java/lang/String"))) (by decide)
  have F125_source : Fld Z h125 b125 "com/example/keyfold/keyfold/JsonValue$Tape" "source" "[B" .null := D125 (Or.inl (hw _ (List.mem_of_getElem? (i := 31) rfl))) (ty := (.array .byte)) (by decide)
  have F125_count : Fld Z h125 b125 "com/example/keyfold/keyfold/JsonValue$Tape" "count" "I" (.int (0 : Int32)) := D125 (Or.inl (hw _ (List.mem_of_getElem? (i := 33) rfl))) (ty := .int) (by decide)
  have F125_generation : Fld Z h125 b125 "com/example/keyfold/keyfold/JsonValue$Tape" "generation" "I" (.int (0 : Int32)) := D125 (Or.inl (hw _ (List.mem_of_getElem? (i := 35) rfl))) (ty := .int) (by decide)
  have O128 : Old Z n0 h125 := (O124.ext E125)
  obtain ⟨_, _, ⟨T129, L129, k129, n129⟩, -, X129, ⟨Lc129, hQ129, l129, y129, z129⟩, st129⟩ := X125.specialBack hx (y := (⟨"com/example/keyfold/keyfold/JsonValue$Tape", "<init>", "()V"⟩ : MethodName)) rfl hown (mvT hZ (hw _ (List.mem_of_getElem? (i := 12) rfl))) (mvT hZ (hw _ (List.mem_of_getElem? (i := 13) rfl))) (mvT hZ (hw _ (List.mem_of_getElem? (i := 14) rfl))) (by decide) (backOf (W := 1) (rmTi l Z a0 hw [] b125 h125 n0 O128 A125 F125_source F125_records F125_names F125_count F125_generation gb125) hZ (hw _ (List.mem_of_getElem? (i := 14) rfl)) (hw _ (List.mem_of_getElem? (i := 11) rfl)) (by decide) (by decide)) (g := (mkF m 142 #[.val (.int i0), .val (.int i1), .val (.int i2), .val (.int i3), .val (.int z101), .val (.int z102), .val (.int z103), .val (.ref ak104), .val (.int z105), .val (.int z106), .val (.ref b107), .unset, .unset, .unset, .unset, .unset] [(.ref b125), (.ref b125)])) rfl (by rw [hml]; rfl) (Steps.refl _) (a := b125) (argsL := []) (rest := [(.ref b125)]) (lenOf pd_2 rfl) rfl (by show 2 * 0 + _ ≤ _; exact Nat.le_of_eq rfl) (hb hby at_142) (fun _ _ => ⟨rfl, e125, (by decide : 2 + 2 ≤ _), (by decide : 13 + 80 ≤ _)⟩)
  dsimp only [Pt.U, Pt.locs, Pt.cells, Pt.slots] at X129 l129 y129 z129 st129 hQ129
  subst l129 y129 z129
  obtain ⟨rfl, N129q, K129, br129, bn129, gr129, gn129, sr129, sn129, n1129, n2129, n3129, tp129⟩ := hQ129
  have N129 := Fr.app N123 N129q
  have f130 := (f126.ext E125)
  have nebr129_ak104 : ak104 ≠ br129 := Nat.ne_of_lt (Nat.lt_of_lt_of_le (f130).lt sr129)
  have f131 := (f127.ext E125)
  have nebr129_b107 : b107 ≠ br129 := Nat.ne_of_lt (Nat.lt_of_lt_of_le (f131).lt sr129)
  have nebn129_ak104 : ak104 ≠ bn129 := Nat.ne_of_lt (Nat.lt_of_lt_of_le (f130).lt sn129)
  have nebn129_b107 : b107 ≠ bn129 := Nat.ne_of_lt (Nat.lt_of_lt_of_le (f131).lt sn129)
  have O132 : Old Z n0 T129.heap := (O128.keep K129 (allS gb125 all0))
  obtain ⟨cq133, kq133, q133a, q133b, q133c⟩ := isOf hZ rfl tp129.1
  obtain ⟨_, _, ⟨T133, L133, k133, n133⟩, -, X133, ⟨Lc133, hQ133, l133, y133, z133⟩, st133⟩ := X129.virtualBack hx (y := (⟨"com/example/keyfold/keyfold/JsonValue$Tape", "reset", "([B)V"⟩ : MethodName)) (z := (⟨"com/example/keyfold/keyfold/JsonValue$Tape", "reset", "([B)V"⟩ : MethodName)) hown (mvT hZ (hw _ (List.mem_of_getElem? (i := 25) rfl))) (mvT hZ (hw _ (List.mem_of_getElem? (i := 26) rfl))) (notFace_of_selects (args := #[]) (mvT hZ (hw _ (List.mem_of_getElem? (i := 28) rfl)))) (mvT hZ (hw _ (List.mem_of_getElem? (i := 28) rfl))) (mvT hZ (hw _ (List.mem_of_getElem? (i := 27) rfl))) (by decide) (backOf (W := 0) (rmRs l Z a0 hw [] b125 br129 bn129 b107 (List.replicate 64 0) T129.heap n0 O132 ⟨tp129.1, tp129.2.1, tp129.2.2.1, tp129.2.2.2.1, tp129.2.2.2.2.1, tp129.2.2.2.2.2.1, tp129.2.2.2.2.2.2.1, tp129.2.2.2.2.2.2.2⟩ n1129 n2129 gb125) hZ (hw _ (List.mem_of_getElem? (i := 29) rfl)) (hw _ (List.mem_of_getElem? (i := 11) rfl)) (by decide) (by decide)) q133a q133c (g := (mkF m 151 #[.val (.int i0), .val (.int i1), .val (.int i2), .val (.int i3), .val (.int z101), .val (.int z102), .val (.int z103), .val (.ref ak104), .val (.int z105), .val (.int z106), .val (.ref b107), .val (.ref b125), .unset, .unset, .unset, .unset] [(.ref b107), (.ref b125)])) rfl (by rw [hml]; rfl) (Steps.refl _) (argsL := [(.ref b107)]) (rest := []) (lenOf pd_11 rfl) rfl (by show 2 * 0 + _ ≤ _; exact Nat.le_of_eq rfl) (hb hby at_151) (fun _ _ => ⟨rfl, rfl, (by decide : 4 + 0 ≤ _), (by decide : 93 + 0 ≤ _)⟩)
  dsimp only [Pt.U, Pt.locs, Pt.cells, Pt.slots] at X133 l133 y133 z133 st133 hQ133
  subst l133 y133 z133
  obtain ⟨rfl, N133q, K133, tp133⟩ := hQ133
  have N133 := Fr.app N129 N133q
  have O134 : Old Z n0 T133.heap := (O132.keep K133 (allS gb125 all0))
  obtain ⟨cq135, kq135, q135a, q135b, q135c⟩ := isOf hZ rfl tp133.1
  obtain ⟨_, _, ⟨T135, L135, k135, n135⟩, -, X135, ⟨Lc135, hQ135, l135, y135, z135⟩, st135⟩ := X133.virtualBack hx (y := (⟨"com/example/keyfold/keyfold/JsonValue$Tape", "add", "(Lcom/example/keyfold/keyfold/JsonValue$Kind;ILjava/lang/String;)I"⟩ : MethodName)) (z := (⟨"com/example/keyfold/keyfold/JsonValue$Tape", "add", "(Lcom/example/keyfold/keyfold/JsonValue$Kind;ILjava/lang/String;)I"⟩ : MethodName)) hown (mvT hZ (hw _ (List.mem_of_getElem? (i := 36) rfl))) (mvT hZ (hw _ (List.mem_of_getElem? (i := 37) rfl))) (notFace_of_selects (args := #[]) (mvT hZ (hw _ (List.mem_of_getElem? (i := 39) rfl)))) (mvT hZ (hw _ (List.mem_of_getElem? (i := 39) rfl))) (mvT hZ (hw _ (List.mem_of_getElem? (i := 38) rfl))) (by decide) (backOf (W := 0) (rmAd0 l Z a0 hw [] aK ak104 b125 br129 bn129 (.ref b107) (1 : Int32) ((i3 &&& (2147483647 : Int32)) % (7 : Int32)) z105 (List.replicate 64 0) T133.heap n0 O134 Kn104 ⟨tp133.1, tp133.2.1, tp133.2.2.1, tp133.2.2.2.1, tp133.2.2.2.2.1, tp133.2.2.2.2.2.1, tp133.2.2.2.2.2.2.1, tp133.2.2.2.2.2.2.2⟩ n1129 n2129 n3129 gb125 gr129 gn129) hZ (hw _ (List.mem_of_getElem? (i := 40) rfl)) (hw _ (List.mem_of_getElem? (i := 11) rfl)) (by decide) (by decide)) q135a q135c (g := (mkF m 161 #[.val (.int i0), .val (.int i1), .val (.int i2), .val (.int i3), .val (.int z101), .val (.int z102), .val (.int z103), .val (.ref ak104), .val (.int z105), .val (.int z106), .val (.ref b107), .val (.ref b125), .unset, .unset, .unset, .unset] [.null, (.int z105), (.ref ak104), (.ref b125)])) rfl (by rw [hml]; rfl) (Steps.refl _) (argsL := [(.ref ak104), (.int z105), .null]) (rest := []) (lenOf pd_12 rfl) rfl (by show 2 * 0 + _ ≤ _; exact Nat.le_of_eq rfl) (hb hby at_161) (fun _ _ => ⟨rfl, rfl, (by decide : 4 + 0 ≤ _), (by decide : 93 + 0 ≤ _)⟩)
  dsimp only [Pt.U, Pt.locs, Pt.cells, Pt.slots] at X135 l135 y135 z135 st135 hQ135
  subst l135 y135 z135
  obtain ⟨rfl, N135q, K135, tp135⟩ := hQ135
  have N135 := Fr.app N133 N135q
  obtain ⟨xs135, hxs135, tq135⟩ : ∃ z, z = (((List.replicate 64 0).set ((0 : Int32)).toNatClampNeg ((i3 &&& (2147483647 : Int32)) % (7 : Int32))).set ((1 : Int32)).toNatClampNeg z105) ∧ Tp Z T135.heap b125 br129 bn129 (.ref b107) (1 : Int32) (1 : Int32) z := ⟨_, rfl, tp135⟩
  have hg135 : xs135.getD 0 0 = ((i3 &&& (2147483647 : Int32)) % (7 : Int32)) ∧ xs135.getD 1 0 = z105 := by rw [hxs135]; exact own_add0
  have pre136 : ∀ t, Steps p.tables e below (T135.setTop (mkF m 168 #[.val (.int i0), .val (.int i1), .val (.int i2), .val (.int i3), .val (.int z101), .val (.int z102), .val (.int z103), .val (.ref ak104), .val (.int z105), .val (.int z106), .val (.ref b107), .val (.ref b125), .val (.int (0 : Int32)), .unset, .unset, .unset] [(.int z102)])) t → Steps p.tables e below (s₁.setTop (entryFrame m #[(.int i0), (.int i1), (.int i2), (.int i3)] maxLocals)) t := fun t kt => pre106 t (by
      show Steps p.tables e below (T104.setTop (mkF m 88 #[.val (.int i0), .val (.int i1), .val (.int i2), .val (.int i3), .val (.int z101), .val (.int z102), .val (.int z103), .val (.ref ak104), .val (.int z105), .unset, .unset, .unset, .unset, .unset, .unset, .unset] [(.int z106)])) _
      refine XS.istore X104.here hx rfl (hb hby at_88) rfl (l' := #[.val (.int i0), .val (.int i1), .val (.int i2), .val (.int i3), .val (.int z101), .val (.int z102), .val (.int z103), .val (.ref ak104), .val (.int z105), .val (.int z106), .unset, .unset, .unset, .unset, .unset, .unset]) rfl ?_
      show Steps p.tables e below (T104.setTop (mkF m 90 #[.val (.int i0), .val (.int i1), .val (.int i2), .val (.int i3), .val (.int z101), .val (.int z102), .val (.int z103), .val (.ref ak104), .val (.int z105), .val (.int z106), .unset, .unset, .unset, .unset, .unset, .unset] [])) _
      refine XS.bipush X104.here hx rfl (hb hby at_90) ?_
      show Steps p.tables e below (T104.setTop (mkF m 92 #[.val (.int i0), .val (.int i1), .val (.int i2), .val (.int i3), .val (.int z101), .val (.int z102), .val (.int z103), .val (.ref ak104), .val (.int z105), .val (.int z106), .unset, .unset, .unset, .unset, .unset, .unset] [(.int (8 : Int32))])) _
      refine st107 _ ?_
      show Steps p.tables e below (T107.setTop (mkF m 94 #[.val (.int i0), .val (.int i1), .val (.int i2), .val (.int i3), .val (.int z101), .val (.int z102), .val (.int z103), .val (.ref ak104), .val (.int z105), .val (.int z106), .unset, .unset, .unset, .unset, .unset, .unset] [(.ref b107)])) _
      refine XS.dup X107.here hx rfl (hb hby at_94) rfl rfl ?_
      show Steps p.tables e below (T107.setTop (mkF m 95 #[.val (.int i0), .val (.int i1), .val (.int i2), .val (.int i3), .val (.int z101), .val (.int z102), .val (.int z103), .val (.ref ak104), .val (.int z105), .val (.int z106), .unset, .unset, .unset, .unset, .unset, .unset] [(.ref b107), (.ref b107)])) _
      refine XS.iconst X107.here hx rfl (hb hby at_95) ?_
      show Steps p.tables e below (T107.setTop (mkF m 96 #[.val (.int i0), .val (.int i1), .val (.int i2), .val (.int i3), .val (.int z101), .val (.int z102), .val (.int z103), .val (.ref ak104), .val (.int z105), .val (.int z106), .unset, .unset, .unset, .unset, .unset, .unset] [(.int (0 : Int32)), (.ref b107), (.ref b107)])) _
      refine XS.bipush X107.here hx rfl (hb hby at_96) ?_
      show Steps p.tables e below (T107.setTop (mkF m 98 #[.val (.int i0), .val (.int i1), .val (.int i2), .val (.int i3), .val (.int z101), .val (.int z102), .val (.int z103), .val (.ref ak104), .val (.int z105), .val (.int z106), .unset, .unset, .unset, .unset, .unset, .unset] [(.int (49 : Int32)), (.int (0 : Int32)), (.ref b107), (.ref b107)])) _
      refine st109 _ ?_
      show Steps p.tables e below (T109.setTop (mkF m 99 #[.val (.int i0), .val (.int i1), .val (.int i2), .val (.int i3), .val (.int z101), .val (.int z102), .val (.int z103), .val (.ref ak104), .val (.int z105), .val (.int z106), .unset, .unset, .unset, .unset, .unset, .unset] [(.ref b107)])) _
      refine XS.dup X109.here hx rfl (hb hby at_99) rfl rfl ?_
      show Steps p.tables e below (T109.setTop (mkF m 100 #[.val (.int i0), .val (.int i1), .val (.int i2), .val (.int i3), .val (.int z101), .val (.int z102), .val (.int z103), .val (.ref ak104), .val (.int z105), .val (.int z106), .unset, .unset, .unset, .unset, .unset, .unset] [(.ref b107), (.ref b107)])) _
      refine XS.iconst X109.here hx rfl (hb hby at_100) ?_
      show Steps p.tables e below (T109.setTop (mkF m 101 #[.val (.int i0), .val (.int i1), .val (.int i2), .val (.int i3), .val (.int z101), .val (.int z102), .val (.int z103), .val (.ref ak104), .val (.int z105), .val (.int z106), .unset, .unset, .unset, .unset, .unset, .unset] [(.int (1 : Int32)), (.ref b107), (.ref b107)])) _
      refine XS.bipush X109.here hx rfl (hb hby at_101) ?_
      show Steps p.tables e below (T109.setTop (mkF m 103 #[.val (.int i0), .val (.int i1), .val (.int i2), .val (.int i3), .val (.int z101), .val (.int z102), .val (.int z103), .val (.ref ak104), .val (.int z105), .val (.int z106), .unset, .unset, .unset, .unset, .unset, .unset] [(.int (32 : Int32)), (.int (1 : Int32)), (.ref b107), (.ref b107)])) _
      refine st111 _ ?_
      show Steps p.tables e below (T111.setTop (mkF m 104 #[.val (.int i0), .val (.int i1), .val (.int i2), .val (.int i3), .val (.int z101), .val (.int z102), .val (.int z103), .val (.ref ak104), .val (.int z105), .val (.int z106), .unset, .unset, .unset, .unset, .unset, .unset] [(.ref b107)])) _
      refine XS.dup X111.here hx rfl (hb hby at_104) rfl rfl ?_
      show Steps p.tables e below (T111.setTop (mkF m 105 #[.val (.int i0), .val (.int i1), .val (.int i2), .val (.int i3), .val (.int z101), .val (.int z102), .val (.int z103), .val (.ref ak104), .val (.int z105), .val (.int z106), .unset, .unset, .unset, .unset, .unset, .unset] [(.ref b107), (.ref b107)])) _
      refine XS.iconst X111.here hx rfl (hb hby at_105) ?_
      show Steps p.tables e below (T111.setTop (mkF m 106 #[.val (.int i0), .val (.int i1), .val (.int i2), .val (.int i3), .val (.int z101), .val (.int z102), .val (.int z103), .val (.ref ak104), .val (.int z105), .val (.int z106), .unset, .unset, .unset, .unset, .unset, .unset] [(.int (2 : Int32)), (.ref b107), (.ref b107)])) _
      refine XS.bipush X111.here hx rfl (hb hby at_106) ?_
      show Steps p.tables e below (T111.setTop (mkF m 108 #[.val (.int i0), .val (.int i1), .val (.int i2), .val (.int i3), .val (.int z101), .val (.int z102), .val (.int z103), .val (.ref ak104), .val (.int z105), .val (.int z106), .unset, .unset, .unset, .unset, .unset, .unset] [(.int (50 : Int32)), (.int (2 : Int32)), (.ref b107), (.ref b107)])) _
      refine st113 _ ?_
      show Steps p.tables e below (T113.setTop (mkF m 109 #[.val (.int i0), .val (.int i1), .val (.int i2), .val (.int i3), .val (.int z101), .val (.int z102), .val (.int z103), .val (.ref ak104), .val (.int z105), .val (.int z106), .unset, .unset, .unset, .unset, .unset, .unset] [(.ref b107)])) _
      refine XS.dup X113.here hx rfl (hb hby at_109) rfl rfl ?_
      show Steps p.tables e below (T113.setTop (mkF m 110 #[.val (.int i0), .val (.int i1), .val (.int i2), .val (.int i3), .val (.int z101), .val (.int z102), .val (.int z103), .val (.ref ak104), .val (.int z105), .val (.int z106), .unset, .unset, .unset, .unset, .unset, .unset] [(.ref b107), (.ref b107)])) _
      refine XS.iconst X113.here hx rfl (hb hby at_110) ?_
      show Steps p.tables e below (T113.setTop (mkF m 111 #[.val (.int i0), .val (.int i1), .val (.int i2), .val (.int i3), .val (.int z101), .val (.int z102), .val (.int z103), .val (.ref ak104), .val (.int z105), .val (.int z106), .unset, .unset, .unset, .unset, .unset, .unset] [(.int (3 : Int32)), (.ref b107), (.ref b107)])) _
      refine XS.bipush X113.here hx rfl (hb hby at_111) ?_
      show Steps p.tables e below (T113.setTop (mkF m 113 #[.val (.int i0), .val (.int i1), .val (.int i2), .val (.int i3), .val (.int z101), .val (.int z102), .val (.int z103), .val (.ref ak104), .val (.int z105), .val (.int z106), .unset, .unset, .unset, .unset, .unset, .unset] [(.int (32 : Int32)), (.int (3 : Int32)), (.ref b107), (.ref b107)])) _
      refine st115 _ ?_
      show Steps p.tables e below (T115.setTop (mkF m 114 #[.val (.int i0), .val (.int i1), .val (.int i2), .val (.int i3), .val (.int z101), .val (.int z102), .val (.int z103), .val (.ref ak104), .val (.int z105), .val (.int z106), .unset, .unset, .unset, .unset, .unset, .unset] [(.ref b107)])) _
      refine XS.dup X115.here hx rfl (hb hby at_114) rfl rfl ?_
      show Steps p.tables e below (T115.setTop (mkF m 115 #[.val (.int i0), .val (.int i1), .val (.int i2), .val (.int i3), .val (.int z101), .val (.int z102), .val (.int z103), .val (.ref ak104), .val (.int z105), .val (.int z106), .unset, .unset, .unset, .unset, .unset, .unset] [(.ref b107), (.ref b107)])) _
      refine XS.iconst X115.here hx rfl (hb hby at_115) ?_
      show Steps p.tables e below (T115.setTop (mkF m 116 #[.val (.int i0), .val (.int i1), .val (.int i2), .val (.int i3), .val (.int z101), .val (.int z102), .val (.int z103), .val (.ref ak104), .val (.int z105), .val (.int z106), .unset, .unset, .unset, .unset, .unset, .unset] [(.int (4 : Int32)), (.ref b107), (.ref b107)])) _
      refine XS.bipush X115.here hx rfl (hb hby at_116) ?_
      show Steps p.tables e below (T115.setTop (mkF m 118 #[.val (.int i0), .val (.int i1), .val (.int i2), .val (.int i3), .val (.int z101), .val (.int z102), .val (.int z103), .val (.ref ak104), .val (.int z105), .val (.int z106), .unset, .unset, .unset, .unset, .unset, .unset] [(.int (51 : Int32)), (.int (4 : Int32)), (.ref b107), (.ref b107)])) _
      refine st117 _ ?_
      show Steps p.tables e below (T117.setTop (mkF m 119 #[.val (.int i0), .val (.int i1), .val (.int i2), .val (.int i3), .val (.int z101), .val (.int z102), .val (.int z103), .val (.ref ak104), .val (.int z105), .val (.int z106), .unset, .unset, .unset, .unset, .unset, .unset] [(.ref b107)])) _
      refine XS.dup X117.here hx rfl (hb hby at_119) rfl rfl ?_
      show Steps p.tables e below (T117.setTop (mkF m 120 #[.val (.int i0), .val (.int i1), .val (.int i2), .val (.int i3), .val (.int z101), .val (.int z102), .val (.int z103), .val (.ref ak104), .val (.int z105), .val (.int z106), .unset, .unset, .unset, .unset, .unset, .unset] [(.ref b107), (.ref b107)])) _
      refine XS.iconst X117.here hx rfl (hb hby at_120) ?_
      show Steps p.tables e below (T117.setTop (mkF m 121 #[.val (.int i0), .val (.int i1), .val (.int i2), .val (.int i3), .val (.int z101), .val (.int z102), .val (.int z103), .val (.ref ak104), .val (.int z105), .val (.int z106), .unset, .unset, .unset, .unset, .unset, .unset] [(.int (5 : Int32)), (.ref b107), (.ref b107)])) _
      refine XS.bipush X117.here hx rfl (hb hby at_121) ?_
      show Steps p.tables e below (T117.setTop (mkF m 123 #[.val (.int i0), .val (.int i1), .val (.int i2), .val (.int i3), .val (.int z101), .val (.int z102), .val (.int z103), .val (.ref ak104), .val (.int z105), .val (.int z106), .unset, .unset, .unset, .unset, .unset, .unset] [(.int (32 : Int32)), (.int (5 : Int32)), (.ref b107), (.ref b107)])) _
      refine st119 _ ?_
      show Steps p.tables e below (T119.setTop (mkF m 124 #[.val (.int i0), .val (.int i1), .val (.int i2), .val (.int i3), .val (.int z101), .val (.int z102), .val (.int z103), .val (.ref ak104), .val (.int z105), .val (.int z106), .unset, .unset, .unset, .unset, .unset, .unset] [(.ref b107)])) _
      refine XS.dup X119.here hx rfl (hb hby at_124) rfl rfl ?_
      show Steps p.tables e below (T119.setTop (mkF m 125 #[.val (.int i0), .val (.int i1), .val (.int i2), .val (.int i3), .val (.int z101), .val (.int z102), .val (.int z103), .val (.ref ak104), .val (.int z105), .val (.int z106), .unset, .unset, .unset, .unset, .unset, .unset] [(.ref b107), (.ref b107)])) _
      refine XS.bipush X119.here hx rfl (hb hby at_125) ?_
      show Steps p.tables e below (T119.setTop (mkF m 127 #[.val (.int i0), .val (.int i1), .val (.int i2), .val (.int i3), .val (.int z101), .val (.int z102), .val (.int z103), .val (.ref ak104), .val (.int z105), .val (.int z106), .unset, .unset, .unset, .unset, .unset, .unset] [(.int (6 : Int32)), (.ref b107), (.ref b107)])) _
      refine XS.bipush X119.here hx rfl (hb hby at_127) ?_
      show Steps p.tables e below (T119.setTop (mkF m 129 #[.val (.int i0), .val (.int i1), .val (.int i2), .val (.int i3), .val (.int z101), .val (.int z102), .val (.int z103), .val (.ref ak104), .val (.int z105), .val (.int z106), .unset, .unset, .unset, .unset, .unset, .unset] [(.int (52 : Int32)), (.int (6 : Int32)), (.ref b107), (.ref b107)])) _
      refine st121 _ ?_
      show Steps p.tables e below (T121.setTop (mkF m 130 #[.val (.int i0), .val (.int i1), .val (.int i2), .val (.int i3), .val (.int z101), .val (.int z102), .val (.int z103), .val (.ref ak104), .val (.int z105), .val (.int z106), .unset, .unset, .unset, .unset, .unset, .unset] [(.ref b107)])) _
      refine XS.dup X121.here hx rfl (hb hby at_130) rfl rfl ?_
      show Steps p.tables e below (T121.setTop (mkF m 131 #[.val (.int i0), .val (.int i1), .val (.int i2), .val (.int i3), .val (.int z101), .val (.int z102), .val (.int z103), .val (.ref ak104), .val (.int z105), .val (.int z106), .unset, .unset, .unset, .unset, .unset, .unset] [(.ref b107), (.ref b107)])) _
      refine XS.bipush X121.here hx rfl (hb hby at_131) ?_
      show Steps p.tables e below (T121.setTop (mkF m 133 #[.val (.int i0), .val (.int i1), .val (.int i2), .val (.int i3), .val (.int z101), .val (.int z102), .val (.int z103), .val (.ref ak104), .val (.int z105), .val (.int z106), .unset, .unset, .unset, .unset, .unset, .unset] [(.int (7 : Int32)), (.ref b107), (.ref b107)])) _
      refine XS.bipush X121.here hx rfl (hb hby at_133) ?_
      show Steps p.tables e below (T121.setTop (mkF m 135 #[.val (.int i0), .val (.int i1), .val (.int i2), .val (.int i3), .val (.int z101), .val (.int z102), .val (.int z103), .val (.ref ak104), .val (.int z105), .val (.int z106), .unset, .unset, .unset, .unset, .unset, .unset] [(.int (32 : Int32)), (.int (7 : Int32)), (.ref b107), (.ref b107)])) _
      refine st123 _ ?_
      show Steps p.tables e below (T123.setTop (mkF m 136 #[.val (.int i0), .val (.int i1), .val (.int i2), .val (.int i3), .val (.int z101), .val (.int z102), .val (.int z103), .val (.ref ak104), .val (.int z105), .val (.int z106), .unset, .unset, .unset, .unset, .unset, .unset] [(.ref b107)])) _
      refine XS.astore X123.here hx rfl (hb hby at_136) rfl rfl (l' := #[.val (.int i0), .val (.int i1), .val (.int i2), .val (.int i3), .val (.int z101), .val (.int z102), .val (.int z103), .val (.ref ak104), .val (.int z105), .val (.int z106), .val (.ref b107), .unset, .unset, .unset, .unset, .unset]) rfl ?_
      show Steps p.tables e below (T123.setTop (mkF m 138 #[.val (.int i0), .val (.int i1), .val (.int i2), .val (.int i3), .val (.int z101), .val (.int z102), .val (.int z103), .val (.ref ak104), .val (.int z105), .val (.int z106), .val (.ref b107), .unset, .unset, .unset, .unset, .unset] [])) _
      refine st125 _ ?_
      show Steps p.tables e below (T125.setTop (mkF m 141 #[.val (.int i0), .val (.int i1), .val (.int i2), .val (.int i3), .val (.int z101), .val (.int z102), .val (.int z103), .val (.ref ak104), .val (.int z105), .val (.int z106), .val (.ref b107), .unset, .unset, .unset, .unset, .unset] [(.ref b125)])) _
      refine XS.dup X125.here hx rfl (hb hby at_141) rfl rfl ?_
      show Steps p.tables e below (T125.setTop (mkF m 142 #[.val (.int i0), .val (.int i1), .val (.int i2), .val (.int i3), .val (.int z101), .val (.int z102), .val (.int z103), .val (.ref ak104), .val (.int z105), .val (.int z106), .val (.ref b107), .unset, .unset, .unset, .unset, .unset] [(.ref b125), (.ref b125)])) _
      refine st129.trans ?_
      show Steps p.tables e below (T129.setTop (mkF m 145 #[.val (.int i0), .val (.int i1), .val (.int i2), .val (.int i3), .val (.int z101), .val (.int z102), .val (.int z103), .val (.ref ak104), .val (.int z105), .val (.int z106), .val (.ref b107), .unset, .unset, .unset, .unset, .unset] [(.ref b125)])) _
      refine XS.astore X129.here hx rfl (hb hby at_145) rfl rfl (l' := #[.val (.int i0), .val (.int i1), .val (.int i2), .val (.int i3), .val (.int z101), .val (.int z102), .val (.int z103), .val (.ref ak104), .val (.int z105), .val (.int z106), .val (.ref b107), .val (.ref b125), .unset, .unset, .unset, .unset]) rfl ?_
      show Steps p.tables e below (T129.setTop (mkF m 147 #[.val (.int i0), .val (.int i1), .val (.int i2), .val (.int i3), .val (.int z101), .val (.int z102), .val (.int z103), .val (.ref ak104), .val (.int z105), .val (.int z106), .val (.ref b107), .val (.ref b125), .unset, .unset, .unset, .unset] [])) _
      refine XS.aload X129.here hx rfl (hb hby at_147) rfl rfl ?_
      show Steps p.tables e below (T129.setTop (mkF m 149 #[.val (.int i0), .val (.int i1), .val (.int i2), .val (.int i3), .val (.int z101), .val (.int z102), .val (.int z103), .val (.ref ak104), .val (.int z105), .val (.int z106), .val (.ref b107), .val (.ref b125), .unset, .unset, .unset, .unset] [(.ref b125)])) _
      refine XS.aload X129.here hx rfl (hb hby at_149) rfl rfl ?_
      show Steps p.tables e below (T129.setTop (mkF m 151 #[.val (.int i0), .val (.int i1), .val (.int i2), .val (.int i3), .val (.int z101), .val (.int z102), .val (.int z103), .val (.ref ak104), .val (.int z105), .val (.int z106), .val (.ref b107), .val (.ref b125), .unset, .unset, .unset, .unset] [(.ref b107), (.ref b125)])) _
      refine st133.trans ?_
      show Steps p.tables e below (T133.setTop (mkF m 154 #[.val (.int i0), .val (.int i1), .val (.int i2), .val (.int i3), .val (.int z101), .val (.int z102), .val (.int z103), .val (.ref ak104), .val (.int z105), .val (.int z106), .val (.ref b107), .val (.ref b125), .unset, .unset, .unset, .unset] [])) _
      refine XS.aload X133.here hx rfl (hb hby at_154) rfl rfl ?_
      show Steps p.tables e below (T133.setTop (mkF m 156 #[.val (.int i0), .val (.int i1), .val (.int i2), .val (.int i3), .val (.int z101), .val (.int z102), .val (.int z103), .val (.ref ak104), .val (.int z105), .val (.int z106), .val (.ref b107), .val (.ref b125), .unset, .unset, .unset, .unset] [(.ref b125)])) _
      refine XS.aload X133.here hx rfl (hb hby at_156) rfl rfl ?_
      show Steps p.tables e below (T133.setTop (mkF m 158 #[.val (.int i0), .val (.int i1), .val (.int i2), .val (.int i3), .val (.int z101), .val (.int z102), .val (.int z103), .val (.ref ak104), .val (.int z105), .val (.int z106), .val (.ref b107), .val (.ref b125), .unset, .unset, .unset, .unset] [(.ref ak104), (.ref b125)])) _
      refine XS.iload X133.here hx rfl (hb hby at_158) rfl ?_
      show Steps p.tables e below (T133.setTop (mkF m 160 #[.val (.int i0), .val (.int i1), .val (.int i2), .val (.int i3), .val (.int z101), .val (.int z102), .val (.int z103), .val (.ref ak104), .val (.int z105), .val (.int z106), .val (.ref b107), .val (.ref b125), .unset, .unset, .unset, .unset] [(.int z105), (.ref ak104), (.ref b125)])) _
      refine XS.aconstNull X133.here hx rfl (hb hby at_160) ?_
      show Steps p.tables e below (T133.setTop (mkF m 161 #[.val (.int i0), .val (.int i1), .val (.int i2), .val (.int i3), .val (.int z101), .val (.int z102), .val (.int z103), .val (.ref ak104), .val (.int z105), .val (.int z106), .val (.ref b107), .val (.ref b125), .unset, .unset, .unset, .unset] [.null, (.int z105), (.ref ak104), (.ref b125)])) _
      refine st135.trans ?_
      show Steps p.tables e below (T135.setTop (mkF m 164 #[.val (.int i0), .val (.int i1), .val (.int i2), .val (.int i3), .val (.int z101), .val (.int z102), .val (.int z103), .val (.ref ak104), .val (.int z105), .val (.int z106), .val (.ref b107), .val (.ref b125), .unset, .unset, .unset, .unset] [(.int (0 : Int32))])) _
      refine XS.istore X135.here hx rfl (hb hby at_164) rfl (l' := #[.val (.int i0), .val (.int i1), .val (.int i2), .val (.int i3), .val (.int z101), .val (.int z102), .val (.int z103), .val (.ref ak104), .val (.int z105), .val (.int z106), .val (.ref b107), .val (.ref b125), .val (.int (0 : Int32)), .unset, .unset, .unset]) rfl ?_
      show Steps p.tables e below (T135.setTop (mkF m 166 #[.val (.int i0), .val (.int i1), .val (.int i2), .val (.int i3), .val (.int z101), .val (.int z102), .val (.int z103), .val (.ref ak104), .val (.int z105), .val (.int z106), .val (.ref b107), .val (.ref b125), .val (.int (0 : Int32)), .unset, .unset, .unset] [])) _
      refine XS.iload X135.here hx rfl (hb hby at_166) rfl ?_
      exact kt)
  by_cases hc137 : z102 = (0 : Int32)
  · skip
    have O138 : Old Z n0 T135.heap := (O134.keep K135 (allS gb125 (allS gr129 (allS gn129 all0))))
    obtain ⟨cq139, kq139, q139a, q139b, q139c⟩ := isOf hZ rfl tq135.1
    obtain ⟨_, _, ⟨T139, L139, k139, n139⟩, -, X139, ⟨Lc139, hQ139, l139, y139, z139⟩, st139⟩ := X135.virtualBack hx (y := (⟨"com/example/keyfold/keyfold/JsonValue$Tape", "end", "(IIZ)V"⟩ : MethodName)) (z := (⟨"com/example/keyfold/keyfold/JsonValue$Tape", "end", "(IIZ)V"⟩ : MethodName)) hown (mvT hZ (hw _ (List.mem_of_getElem? (i := 50) rfl))) (mvT hZ (hw _ (List.mem_of_getElem? (i := 51) rfl))) (notFace_of_selects (args := #[]) (mvT hZ (hw _ (List.mem_of_getElem? (i := 53) rfl)))) (mvT hZ (hw _ (List.mem_of_getElem? (i := 53) rfl))) (mvT hZ (hw _ (List.mem_of_getElem? (i := 52) rfl))) (by decide) (backOf (W := 0) (rmTe l Z a0 hw [] b125 br129 bn129 (.ref b107) (1 : Int32) (1 : Int32) ((i3 &&& (2147483647 : Int32)) % (7 : Int32)) z105 z106 z101 xs135 T135.heap n0 O138 ⟨tq135.1, tq135.2.1, tq135.2.2.1, tq135.2.2.2.1, tq135.2.2.2.2.1, tq135.2.2.2.2.2.1, tq135.2.2.2.2.2.2.1, tq135.2.2.2.2.2.2.2⟩ hg135 n1129 n2129 n3129 gb125 gr129 gn129) hZ (hw _ (List.mem_of_getElem? (i := 54) rfl)) (hw _ (List.mem_of_getElem? (i := 11) rfl)) (by decide) (by decide)) q139a q139c (g := (mkF m 190 #[.val (.int i0), .val (.int i1), .val (.int i2), .val (.int i3), .val (.int z101), .val (.int z102), .val (.int z103), .val (.ref ak104), .val (.int z105), .val (.int z106), .val (.ref b107), .val (.ref b125), .val (.int (0 : Int32)), .unset, .unset, .unset] [(.int z101), (.int z106), (.int (0 : Int32)), (.ref b125)])) rfl (by rw [hml]; rfl) (Steps.refl _) (argsL := [(.int (0 : Int32)), (.int z106), (.int z101)]) (rest := []) (lenOf pd_13 rfl) rfl (by show 2 * 0 + _ ≤ _; exact Nat.le_of_eq rfl) (hb hby at_190) (fun _ _ => ⟨rfl, rfl, (by decide : 4 + 0 ≤ _), (by decide : 93 + 0 ≤ _)⟩)
    dsimp only [Pt.U, Pt.locs, Pt.cells, Pt.slots] at X139 l139 y139 z139 st139 hQ139
    subst l139 y139 z139
    obtain ⟨rfl, N139q, K139, xs139, r0139, tp139, Rc139, hr0139⟩ := hQ139
    have N139 := Fr.app N135 N139q
    have O140 : Old Z n0 T139.heap := (O138.keep K139 (allS gr129 all0))
    obtain ⟨cq141, kq141, q141a, q141b, q141c⟩ := isOf hZ rfl tp139.1
    obtain ⟨_, _, ⟨T141, L141, k141, n141⟩, -, X141, ⟨Lc141, hQ141, l141, y141, z141⟩, st141⟩ := X139.virtualBack hx (y := (⟨"com/example/keyfold/keyfold/JsonValue$Tape", "first", "()Lcom/example/keyfold/keyfold/JsonValue;"⟩ : MethodName)) (z := (⟨"com/example/keyfold/keyfold/JsonValue$Tape", "first", "()Lcom/example/keyfold/keyfold/JsonValue;"⟩ : MethodName)) hown (mvT hZ (hw _ (List.mem_of_getElem? (i := 55) rfl))) (mvT hZ (hw _ (List.mem_of_getElem? (i := 56) rfl))) (notFace_of_selects (args := #[]) (mvT hZ (hw _ (List.mem_of_getElem? (i := 58) rfl)))) (mvT hZ (hw _ (List.mem_of_getElem? (i := 58) rfl))) (mvT hZ (hw _ (List.mem_of_getElem? (i := 57) rfl))) (by decide) (backOf (W := 0) (rmFi l Z a0 hw [] b125 (1 : Int32) T139.heap n0 O140 tp139.2.2.2.2.2.1) hZ (hw _ (List.mem_of_getElem? (i := 59) rfl)) (hw _ (List.mem_of_getElem? (i := 11) rfl)) (by decide) (by decide)) q141a q141c (g := (mkF m 195 #[.val (.int i0), .val (.int i1), .val (.int i2), .val (.int i3), .val (.int z101), .val (.int z102), .val (.int z103), .val (.ref ak104), .val (.int z105), .val (.int z106), .val (.ref b107), .val (.ref b125), .val (.int (0 : Int32)), .unset, .unset, .unset] [(.ref b125)])) rfl (by rw [hml]; rfl) (Steps.refl _) (argsL := []) (rest := []) (lenOf pd_14 rfl) rfl (by show 2 * 0 + _ ≤ _; exact Nat.le_of_eq rfl) (hb hby at_195) (fun _ _ => ⟨rfl, rfl, (by decide : 4 + 1 ≤ _), (by decide : 93 + 3 ≤ _)⟩)
    dsimp only [Pt.U, Pt.locs, Pt.cells, Pt.slots] at X141 l141 y141 z141 st141 hQ141
    subst l141 y141 z141
    obtain ⟨b141, rfl, N141q, gb141, sz141, K141, Ex141, F141_tape, F141_index, F141_generation⟩ := hQ141
    have N141 := Fr.app N139 N141q
    have f142 := ((((f130.keep K129).keep K133).keep K135).keep K139)
    have ne141_ak104 : ak104 ≠ b141 := Nat.ne_of_lt (Nat.lt_of_lt_of_le (f142).lt sz141)
    have f143 := ((((f131.keep K129).keep K133).keep K135).keep K139)
    have ne141_b107 : b107 ≠ b141 := Nat.ne_of_lt (Nat.lt_of_lt_of_le (f143).lt sz141)
    have ne141_b125 : b125 ≠ b141 := Nat.ne_of_lt (Nat.lt_of_lt_of_le (tp139.1).lt sz141)
    have ne141_bn129 : bn129 ≠ b141 := Nat.ne_of_lt (Nat.lt_of_lt_of_le (tp139.2.2.2.2.2.2.2).lt sz141)
    have ne141_br129 : br129 ≠ b141 := Nat.ne_of_lt (Nat.lt_of_lt_of_le (tp139.2.2.2.2.2.2.1).lt sz141)
    have f144 := (tp139.2.2.1.keep K141 nin0)
    have f145 := (tp139.2.2.2.2.2.2.1.keep K141 nin0)
    have O146 : Old Z n0 T141.heap := (O140.keep K141 all0)
    obtain ⟨cq147, kq147, q147a, q147b, q147c⟩ := isOf hZ rfl Ex141
    obtain ⟨_, _, ⟨T147, L147, k147, n147⟩, -, X147, ⟨Lc147, hQ147, l147, y147, z147⟩, st147⟩ := X141.virtualBack hx (y := (⟨"com/example/keyfold/keyfold/JsonValue", "kind", "()Lcom/example/keyfold/keyfold/JsonValue$Kind;"⟩ : MethodName)) (z := (⟨"com/example/keyfold/keyfold/JsonValue", "kind", "()Lcom/example/keyfold/keyfold/JsonValue$Kind;"⟩ : MethodName)) hown (mvT hZ (hw _ (List.mem_of_getElem? (i := 74) rfl))) (mvT hZ (hw _ (List.mem_of_getElem? (i := 75) rfl))) (notFace_of_selects (args := #[]) (mvT hZ (hw _ (List.mem_of_getElem? (i := 77) rfl)))) (mvT hZ (hw _ (List.mem_of_getElem? (i := 77) rfl))) (mvT hZ (hw _ (List.mem_of_getElem? (i := 76) rfl))) (by decide) (backOf (W := 0) (rmKd l Z a0 hw [] aK a_OBJECT a_ARRAY a_STRING a_NUMBER a_TRUE a_FALSE a_NULL b141 b125 br129 xs139 r0139 z105 z106 (1 : Int32) ak104 ((i3 &&& (2147483647 : Int32)) % (7 : Int32)) T141.heap n0 O146 En Ex141 F141_tape F141_index f144 f145 Rc139 Kn104 (own_k7 (own_r7 i3) hr0139)) hZ (hw _ (List.mem_of_getElem? (i := 78) rfl)) (hw _ (List.mem_of_getElem? (i := 62) rfl)) (by decide) (by decide)) q147a q147c (g := (mkF m 207 #[.val (.int i0), .val (.int i1), .val (.int i2), .val (.int i3), .val (.int z101), .val (.int z102), .val (.int z103), .val (.ref ak104), .val (.int z105), .val (.int z106), .val (.ref b107), .val (.ref b125), .val (.int (0 : Int32)), .val (.ref b141), .unset, .unset] [(.ref b141)])) rfl (by rw [hml]; rfl) (Steps.refl _) (argsL := []) (rest := []) (lenOf pd_15 rfl) rfl (by show 2 * 0 + _ ≤ _; exact Nat.le_of_eq rfl) (hb hby at_207) (fun _ _ => ⟨rfl, rfl, (by decide : 5 + 0 ≤ _), (by decide : 96 + 0 ≤ _)⟩)
    dsimp only [Pt.U, Pt.locs, Pt.cells, Pt.slots] at X147 l147 y147 z147 st147 hQ147
    subst l147 y147 z147
    obtain ⟨rfl, N147q, hh147⟩ := hQ147
    have N147 := Fr.app N141 N147q
    obtain ⟨cq148, kq148, q148a, q148b, q148c⟩ := isOf hZ hh147 Ex141
    obtain ⟨_, _, ⟨T148, L148, k148, n148⟩, -, X148, ⟨Lc148, hQ148, l148, y148, z148⟩, st148⟩ := X147.virtualBack hx (y := (⟨"com/example/keyfold/keyfold/JsonValue", "start", "()I"⟩ : MethodName)) (z := (⟨"com/example/keyfold/keyfold/JsonValue", "start", "()I"⟩ : MethodName)) hown (mvT hZ (hw _ (List.mem_of_getElem? (i := 92) rfl))) (mvT hZ (hw _ (List.mem_of_getElem? (i := 93) rfl))) (notFace_of_selects (args := #[]) (mvT hZ (hw _ (List.mem_of_getElem? (i := 95) rfl)))) (mvT hZ (hw _ (List.mem_of_getElem? (i := 95) rfl))) (mvT hZ (hw _ (List.mem_of_getElem? (i := 94) rfl))) (by decide) (backOf (W := 0) (rm_st l Z a0 hw [] aK a_OBJECT a_ARRAY a_STRING a_NUMBER a_TRUE a_FALSE a_NULL b141 b125 br129 xs139 r0139 z105 z106 (1 : Int32) T141.heap n0 O146 En Ex141 F141_tape F141_index f144 f145 Rc139) hZ (hw _ (List.mem_of_getElem? (i := 96) rfl)) (hw _ (List.mem_of_getElem? (i := 62) rfl)) (by decide) (by decide)) q148a q148c (g := (mkF m 217 #[.val (.int i0), .val (.int i1), .val (.int i2), .val (.int i3), .val (.int z101), .val (.int z102), .val (.int z103), .val (.ref ak104), .val (.int z105), .val (.int z106), .val (.ref b107), .val (.ref b125), .val (.int (0 : Int32)), .val (.ref b141), .unset, .unset] [(.ref b141)])) rfl (by rw [hml]; rfl) (Steps.refl _) (argsL := []) (rest := []) (lenOf pd_0 rfl) rfl (by show 2 * 0 + _ ≤ _; exact Nat.le_of_eq rfl) (hb hby at_217) (fun _ _ => ⟨rfl, hh147, (by decide : 5 + 0 ≤ _), (by decide : 96 + 0 ≤ _)⟩)
    dsimp only [Pt.U, Pt.locs, Pt.cells, Pt.slots] at X148 l148 y148 z148 st148 hQ148
    subst l148 y148 z148
    obtain ⟨rfl, N148q, hh148⟩ := hQ148
    have N148 := Fr.app N147 N148q
    obtain ⟨cq149, kq149, q149a, q149b, q149c⟩ := isOf hZ hh148 Ex141
    obtain ⟨_, _, ⟨T149, L149, k149, n149⟩, -, X149, ⟨Lc149, hQ149, l149, y149, z149⟩, st149⟩ := X148.virtualBack hx (y := (⟨"com/example/keyfold/keyfold/JsonValue", "end", "()I"⟩ : MethodName)) (z := (⟨"com/example/keyfold/keyfold/JsonValue", "end", "()I"⟩ : MethodName)) hown (mvT hZ (hw _ (List.mem_of_getElem? (i := 97) rfl))) (mvT hZ (hw _ (List.mem_of_getElem? (i := 98) rfl))) (notFace_of_selects (args := #[]) (mvT hZ (hw _ (List.mem_of_getElem? (i := 100) rfl)))) (mvT hZ (hw _ (List.mem_of_getElem? (i := 100) rfl))) (mvT hZ (hw _ (List.mem_of_getElem? (i := 99) rfl))) (by decide) (backOf (W := 0) (rm_en l Z a0 hw [] aK a_OBJECT a_ARRAY a_STRING a_NUMBER a_TRUE a_FALSE a_NULL b141 b125 br129 xs139 r0139 z105 z106 (1 : Int32) T141.heap n0 O146 En Ex141 F141_tape F141_index f144 f145 Rc139) hZ (hw _ (List.mem_of_getElem? (i := 101) rfl)) (hw _ (List.mem_of_getElem? (i := 62) rfl)) (by decide) (by decide)) q149a q149c (g := (mkF m 227 #[.val (.int i0), .val (.int i1), .val (.int i2), .val (.int i3), .val (.int z101), .val (.int z102), .val (.int z103), .val (.ref ak104), .val (.int z105), .val (.int z106), .val (.ref b107), .val (.ref b125), .val (.int (0 : Int32)), .val (.ref b141), .unset, .unset] [(.ref b141)])) rfl (by rw [hml]; rfl) (Steps.refl _) (argsL := []) (rest := []) (lenOf pd_0 rfl) rfl (by show 2 * 0 + _ ≤ _; exact Nat.le_of_eq rfl) (hb hby at_227) (fun _ _ => ⟨rfl, hh148, (by decide : 5 + 0 ≤ _), (by decide : 96 + 0 ≤ _)⟩)
    dsimp only [Pt.U, Pt.locs, Pt.cells, Pt.slots] at X149 l149 y149 z149 st149 hQ149
    subst l149 y149 z149
    obtain ⟨rfl, N149q, hh149⟩ := hQ149
    have N149 := Fr.app N148 N149q
    obtain ⟨cq150, kq150, q150a, q150b, q150c⟩ := isOf hZ hh149 Ex141
    obtain ⟨_, _, ⟨T150, L150, k150, n150⟩, -, X150, ⟨Lc150, hQ150, l150, y150, z150⟩, st150⟩ := X149.virtualBack hx (y := (⟨"com/example/keyfold/keyfold/JsonValue", "firstMember", "()I"⟩ : MethodName)) (z := (⟨"com/example/keyfold/keyfold/JsonValue", "firstMember", "()I"⟩ : MethodName)) hown (mvT hZ (hw _ (List.mem_of_getElem? (i := 102) rfl))) (mvT hZ (hw _ (List.mem_of_getElem? (i := 103) rfl))) (notFace_of_selects (args := #[]) (mvT hZ (hw _ (List.mem_of_getElem? (i := 105) rfl)))) (mvT hZ (hw _ (List.mem_of_getElem? (i := 105) rfl))) (mvT hZ (hw _ (List.mem_of_getElem? (i := 104) rfl))) (by decide) (backOf (W := 0) (rm_fm1 l Z a0 hw [] aK a_OBJECT a_ARRAY a_STRING a_NUMBER a_TRUE a_FALSE a_NULL b141 b125 br129 xs139 r0139 z105 z106 T141.heap n0 O146 En Ex141 F141_tape F141_index f144 f145 Rc139) hZ (hw _ (List.mem_of_getElem? (i := 106) rfl)) (hw _ (List.mem_of_getElem? (i := 62) rfl)) (by decide) (by decide)) q150a q150c (g := (mkF m 237 #[.val (.int i0), .val (.int i1), .val (.int i2), .val (.int i3), .val (.int z101), .val (.int z102), .val (.int z103), .val (.ref ak104), .val (.int z105), .val (.int z106), .val (.ref b107), .val (.ref b125), .val (.int (0 : Int32)), .val (.ref b141), .unset, .unset] [(.ref b141)])) rfl (by rw [hml]; rfl) (Steps.refl _) (argsL := []) (rest := []) (lenOf pd_0 rfl) rfl (by show 2 * 0 + _ ≤ _; exact Nat.le_of_eq rfl) (hb hby at_237) (fun _ _ => ⟨rfl, hh149, (by decide : 5 + 0 ≤ _), (by decide : 96 + 0 ≤ _)⟩)
    dsimp only [Pt.U, Pt.locs, Pt.cells, Pt.slots] at X150 l150 y150 z150 st150 hQ150
    subst l150 y150 z150
    obtain ⟨rfl, N150q, hh150⟩ := hQ150
    have N150 := Fr.app N149 N150q
    have pre151 : ∀ t, Steps p.tables e below (T150.setTop (mkF m 268 #[.val (.int i0), .val (.int i1), .val (.int i2), .val (.int i3), .val (.int z101), .val (.int z102), .val (.int z103), .val (.ref ak104), .val (.int z105), .val (.int z106), .val (.ref b107), .val (.ref b125), .val (.int (0 : Int32)), .val (.ref b141), .val (.int (1 : Int32)), .unset] [(.int z105), (.int (0 : Int32))])) t → Steps p.tables e below (s₁.setTop (entryFrame m #[(.int i0), (.int i1), (.int i2), (.int i3)] maxLocals)) t := fun t kt => pre136 t (by
        show Steps p.tables e below (T135.setTop (mkF m 168 #[.val (.int i0), .val (.int i1), .val (.int i2), .val (.int i3), .val (.int z101), .val (.int z102), .val (.int z103), .val (.ref ak104), .val (.int z105), .val (.int z106), .val (.ref b107), .val (.ref b125), .val (.int (0 : Int32)), .unset, .unset, .unset] [(.int z102)])) _
        refine XS.ifYes X135.here hx rfl (pc0 := 168) (pc' := 182) rfl (hb hby at_168) rfl ((if0 _ _).trans (teq hc137).1) (by decide) (by decide) ?_
        show Steps p.tables e below (T135.setTop (mkF m 182 #[.val (.int i0), .val (.int i1), .val (.int i2), .val (.int i3), .val (.int z101), .val (.int z102), .val (.int z103), .val (.ref ak104), .val (.int z105), .val (.int z106), .val (.ref b107), .val (.ref b125), .val (.int (0 : Int32)), .unset, .unset, .unset] [])) _
        refine XS.aload X135.here hx rfl (hb hby at_182) rfl rfl ?_
        show Steps p.tables e below (T135.setTop (mkF m 184 #[.val (.int i0), .val (.int i1), .val (.int i2), .val (.int i3), .val (.int z101), .val (.int z102), .val (.int z103), .val (.ref ak104), .val (.int z105), .val (.int z106), .val (.ref b107), .val (.ref b125), .val (.int (0 : Int32)), .unset, .unset, .unset] [(.ref b125)])) _
        refine XS.iload X135.here hx rfl (hb hby at_184) rfl ?_
        show Steps p.tables e below (T135.setTop (mkF m 186 #[.val (.int i0), .val (.int i1), .val (.int i2), .val (.int i3), .val (.int z101), .val (.int z102), .val (.int z103), .val (.ref ak104), .val (.int z105), .val (.int z106), .val (.ref b107), .val (.ref b125), .val (.int (0 : Int32)), .unset, .unset, .unset] [(.int (0 : Int32)), (.ref b125)])) _
        refine XS.iload X135.here hx rfl (hb hby at_186) rfl ?_
        show Steps p.tables e below (T135.setTop (mkF m 188 #[.val (.int i0), .val (.int i1), .val (.int i2), .val (.int i3), .val (.int z101), .val (.int z102), .val (.int z103), .val (.ref ak104), .val (.int z105), .val (.int z106), .val (.ref b107), .val (.ref b125), .val (.int (0 : Int32)), .unset, .unset, .unset] [(.int z106), (.int (0 : Int32)), (.ref b125)])) _
        refine XS.iload X135.here hx rfl (hb hby at_188) rfl ?_
        show Steps p.tables e below (T135.setTop (mkF m 190 #[.val (.int i0), .val (.int i1), .val (.int i2), .val (.int i3), .val (.int z101), .val (.int z102), .val (.int z103), .val (.ref ak104), .val (.int z105), .val (.int z106), .val (.ref b107), .val (.ref b125), .val (.int (0 : Int32)), .unset, .unset, .unset] [(.int z101), (.int z106), (.int (0 : Int32)), (.ref b125)])) _
        refine st139.trans ?_
        show Steps p.tables e below (T139.setTop (mkF m 193 #[.val (.int i0), .val (.int i1), .val (.int i2), .val (.int i3), .val (.int z101), .val (.int z102), .val (.int z103), .val (.ref ak104), .val (.int z105), .val (.int z106), .val (.ref b107), .val (.ref b125), .val (.int (0 : Int32)), .unset, .unset, .unset] [])) _
        refine XS.aload X139.here hx rfl (hb hby at_193) rfl rfl ?_
        show Steps p.tables e below (T139.setTop (mkF m 195 #[.val (.int i0), .val (.int i1), .val (.int i2), .val (.int i3), .val (.int z101), .val (.int z102), .val (.int z103), .val (.ref ak104), .val (.int z105), .val (.int z106), .val (.ref b107), .val (.ref b125), .val (.int (0 : Int32)), .unset, .unset, .unset] [(.ref b125)])) _
        refine st141.trans ?_
        show Steps p.tables e below (T141.setTop (mkF m 198 #[.val (.int i0), .val (.int i1), .val (.int i2), .val (.int i3), .val (.int z101), .val (.int z102), .val (.int z103), .val (.ref ak104), .val (.int z105), .val (.int z106), .val (.ref b107), .val (.ref b125), .val (.int (0 : Int32)), .unset, .unset, .unset] [(.ref b141)])) _
        refine XS.astore X141.here hx rfl (hb hby at_198) rfl rfl (l' := #[.val (.int i0), .val (.int i1), .val (.int i2), .val (.int i3), .val (.int z101), .val (.int z102), .val (.int z103), .val (.ref ak104), .val (.int z105), .val (.int z106), .val (.ref b107), .val (.ref b125), .val (.int (0 : Int32)), .val (.ref b141), .unset, .unset]) rfl ?_
        show Steps p.tables e below (T141.setTop (mkF m 200 #[.val (.int i0), .val (.int i1), .val (.int i2), .val (.int i3), .val (.int z101), .val (.int z102), .val (.int z103), .val (.ref ak104), .val (.int z105), .val (.int z106), .val (.ref b107), .val (.ref b125), .val (.int (0 : Int32)), .val (.ref b141), .unset, .unset] [])) _
        refine XS.iload X141.here hx rfl (hb hby at_200) rfl ?_
        show Steps p.tables e below (T141.setTop (mkF m 202 #[.val (.int i0), .val (.int i1), .val (.int i2), .val (.int i3), .val (.int z101), .val (.int z102), .val (.int z103), .val (.ref ak104), .val (.int z105), .val (.int z106), .val (.ref b107), .val (.ref b125), .val (.int (0 : Int32)), .val (.ref b141), .unset, .unset] [(.int (0 : Int32))])) _
        refine XS.ifNo X141.here hx rfl (hb hby at_202) rfl (by decide) ?_
        show Steps p.tables e below (T141.setTop (mkF m 205 #[.val (.int i0), .val (.int i1), .val (.int i2), .val (.int i3), .val (.int z101), .val (.int z102), .val (.int z103), .val (.ref ak104), .val (.int z105), .val (.int z106), .val (.ref b107), .val (.ref b125), .val (.int (0 : Int32)), .val (.ref b141), .unset, .unset] [])) _
        refine XS.aload X141.here hx rfl (hb hby at_205) rfl rfl ?_
        show Steps p.tables e below (T141.setTop (mkF m 207 #[.val (.int i0), .val (.int i1), .val (.int i2), .val (.int i3), .val (.int z101), .val (.int z102), .val (.int z103), .val (.ref ak104), .val (.int z105), .val (.int z106), .val (.ref b107), .val (.ref b125), .val (.int (0 : Int32)), .val (.ref b141), .unset, .unset] [(.ref b141)])) _
        refine st147.trans ?_
        show Steps p.tables e below (T147.setTop (mkF m 210 #[.val (.int i0), .val (.int i1), .val (.int i2), .val (.int i3), .val (.int z101), .val (.int z102), .val (.int z103), .val (.ref ak104), .val (.int z105), .val (.int z106), .val (.ref b107), .val (.ref b125), .val (.int (0 : Int32)), .val (.ref b141), .unset, .unset] [(.ref ak104)])) _
        refine XS.aload X147.here hx rfl (hb hby at_210) rfl rfl ?_
        show Steps p.tables e below (T147.setTop (mkF m 212 #[.val (.int i0), .val (.int i1), .val (.int i2), .val (.int i3), .val (.int z101), .val (.int z102), .val (.int z103), .val (.ref ak104), .val (.int z105), .val (.int z106), .val (.ref b107), .val (.ref b125), .val (.int (0 : Int32)), .val (.ref b141), .unset, .unset] [(.ref ak104), (.ref ak104)])) _
        refine Jvm.RoadKit.acmp (g := (mkF m 212 #[.val (.int i0), .val (.int i1), .val (.int i2), .val (.int i3), .val (.int z101), .val (.int z102), .val (.int z103), .val (.ref ak104), .val (.int z105), .val (.int z106), .val (.ref b107), .val (.ref b125), .val (.int (0 : Int32)), .val (.ref b141), .unset, .unset] [(.ref ak104), (.ref ak104)])) X147 hx rfl rfl rfl (pc0 := 212) (pc' := 215) (same := true) rfl (hb hby at_212) rfl (decide_eq_true rfl) (by decide) (by decide) ?_
        show Steps p.tables e below (T147.setTop (mkF m 215 #[.val (.int i0), .val (.int i1), .val (.int i2), .val (.int i3), .val (.int z101), .val (.int z102), .val (.int z103), .val (.ref ak104), .val (.int z105), .val (.int z106), .val (.ref b107), .val (.ref b125), .val (.int (0 : Int32)), .val (.ref b141), .unset, .unset] [])) _
        refine XS.aload X147.here hx rfl (hb hby at_215) rfl rfl ?_
        show Steps p.tables e below (T147.setTop (mkF m 217 #[.val (.int i0), .val (.int i1), .val (.int i2), .val (.int i3), .val (.int z101), .val (.int z102), .val (.int z103), .val (.ref ak104), .val (.int z105), .val (.int z106), .val (.ref b107), .val (.ref b125), .val (.int (0 : Int32)), .val (.ref b141), .unset, .unset] [(.ref b141)])) _
        refine st148.trans ?_
        show Steps p.tables e below (T148.setTop (mkF m 220 #[.val (.int i0), .val (.int i1), .val (.int i2), .val (.int i3), .val (.int z101), .val (.int z102), .val (.int z103), .val (.ref ak104), .val (.int z105), .val (.int z106), .val (.ref b107), .val (.ref b125), .val (.int (0 : Int32)), .val (.ref b141), .unset, .unset] [(.int z105)])) _
        refine XS.iload X148.here hx rfl (hb hby at_220) rfl ?_
        show Steps p.tables e below (T148.setTop (mkF m 222 #[.val (.int i0), .val (.int i1), .val (.int i2), .val (.int i3), .val (.int z101), .val (.int z102), .val (.int z103), .val (.ref ak104), .val (.int z105), .val (.int z106), .val (.ref b107), .val (.ref b125), .val (.int (0 : Int32)), .val (.ref b141), .unset, .unset] [(.int z105), (.int z105)])) _
        refine XS.icmpNo X148.here hx rfl (hb hby at_222) rfl (teq rfl).2 ?_
        show Steps p.tables e below (T148.setTop (mkF m 225 #[.val (.int i0), .val (.int i1), .val (.int i2), .val (.int i3), .val (.int z101), .val (.int z102), .val (.int z103), .val (.ref ak104), .val (.int z105), .val (.int z106), .val (.ref b107), .val (.ref b125), .val (.int (0 : Int32)), .val (.ref b141), .unset, .unset] [])) _
        refine XS.aload X148.here hx rfl (hb hby at_225) rfl rfl ?_
        show Steps p.tables e below (T148.setTop (mkF m 227 #[.val (.int i0), .val (.int i1), .val (.int i2), .val (.int i3), .val (.int z101), .val (.int z102), .val (.int z103), .val (.ref ak104), .val (.int z105), .val (.int z106), .val (.ref b107), .val (.ref b125), .val (.int (0 : Int32)), .val (.ref b141), .unset, .unset] [(.ref b141)])) _
        refine st149.trans ?_
        show Steps p.tables e below (T149.setTop (mkF m 230 #[.val (.int i0), .val (.int i1), .val (.int i2), .val (.int i3), .val (.int z101), .val (.int z102), .val (.int z103), .val (.ref ak104), .val (.int z105), .val (.int z106), .val (.ref b107), .val (.ref b125), .val (.int (0 : Int32)), .val (.ref b141), .unset, .unset] [(.int z106)])) _
        refine XS.iload X149.here hx rfl (hb hby at_230) rfl ?_
        show Steps p.tables e below (T149.setTop (mkF m 232 #[.val (.int i0), .val (.int i1), .val (.int i2), .val (.int i3), .val (.int z101), .val (.int z102), .val (.int z103), .val (.ref ak104), .val (.int z105), .val (.int z106), .val (.ref b107), .val (.ref b125), .val (.int (0 : Int32)), .val (.ref b141), .unset, .unset] [(.int z106), (.int z106)])) _
        refine XS.icmpNo X149.here hx rfl (hb hby at_232) rfl (teq rfl).2 ?_
        show Steps p.tables e below (T149.setTop (mkF m 235 #[.val (.int i0), .val (.int i1), .val (.int i2), .val (.int i3), .val (.int z101), .val (.int z102), .val (.int z103), .val (.ref ak104), .val (.int z105), .val (.int z106), .val (.ref b107), .val (.ref b125), .val (.int (0 : Int32)), .val (.ref b141), .unset, .unset] [])) _
        refine XS.aload X149.here hx rfl (hb hby at_235) rfl rfl ?_
        show Steps p.tables e below (T149.setTop (mkF m 237 #[.val (.int i0), .val (.int i1), .val (.int i2), .val (.int i3), .val (.int z101), .val (.int z102), .val (.int z103), .val (.ref ak104), .val (.int z105), .val (.int z106), .val (.ref b107), .val (.ref b125), .val (.int (0 : Int32)), .val (.ref b141), .unset, .unset] [(.ref b141)])) _
        refine st150.trans ?_
        show Steps p.tables e below (T150.setTop (mkF m 240 #[.val (.int i0), .val (.int i1), .val (.int i2), .val (.int i3), .val (.int z101), .val (.int z102), .val (.int z103), .val (.ref ak104), .val (.int z105), .val (.int z106), .val (.ref b107), .val (.ref b125), .val (.int (0 : Int32)), .val (.ref b141), .unset, .unset] [(.int (-1 : Int32))])) _
        refine XS.iload X150.here hx rfl (hb hby at_240) rfl ?_
        show Steps p.tables e below (T150.setTop (mkF m 242 #[.val (.int i0), .val (.int i1), .val (.int i2), .val (.int i3), .val (.int z101), .val (.int z102), .val (.int z103), .val (.ref ak104), .val (.int z105), .val (.int z106), .val (.ref b107), .val (.ref b125), .val (.int (0 : Int32)), .val (.ref b141), .unset, .unset] [(.int z102), (.int (-1 : Int32))])) _
        refine XS.ifYes X150.here hx rfl (pc0 := 242) (pc' := 249) rfl (hb hby at_242) rfl ((if0 _ _).trans (teq hc137).1) (by decide) (by decide) ?_
        show Steps p.tables e below (T150.setTop (mkF m 249 #[.val (.int i0), .val (.int i1), .val (.int i2), .val (.int i3), .val (.int z101), .val (.int z102), .val (.int z103), .val (.ref ak104), .val (.int z105), .val (.int z106), .val (.ref b107), .val (.ref b125), .val (.int (0 : Int32)), .val (.ref b141), .unset, .unset] [(.int (-1 : Int32))])) _
        refine XS.iconst X150.here hx rfl (hb hby at_249) ?_
        show Steps p.tables e below (T150.setTop (mkF m 250 #[.val (.int i0), .val (.int i1), .val (.int i2), .val (.int i3), .val (.int z101), .val (.int z102), .val (.int z103), .val (.ref ak104), .val (.int z105), .val (.int z106), .val (.ref b107), .val (.ref b125), .val (.int (0 : Int32)), .val (.ref b141), .unset, .unset] [(.int (-1 : Int32)), (.int (-1 : Int32))])) _
        refine XS.icmpNo X150.here hx rfl (hb hby at_250) rfl (by decide) ?_
        show Steps p.tables e below (T150.setTop (mkF m 253 #[.val (.int i0), .val (.int i1), .val (.int i2), .val (.int i3), .val (.int z101), .val (.int z102), .val (.int z103), .val (.ref ak104), .val (.int z105), .val (.int z106), .val (.ref b107), .val (.ref b125), .val (.int (0 : Int32)), .val (.ref b141), .unset, .unset] [])) _
        refine XS.iconst X150.here hx rfl (hb hby at_253) ?_
        show Steps p.tables e below (T150.setTop (mkF m 254 #[.val (.int i0), .val (.int i1), .val (.int i2), .val (.int i3), .val (.int z101), .val (.int z102), .val (.int z103), .val (.ref ak104), .val (.int z105), .val (.int z106), .val (.ref b107), .val (.ref b125), .val (.int (0 : Int32)), .val (.ref b141), .unset, .unset] [(.int (1 : Int32))])) _
        refine XS.goto X150.here hx rfl (pc0 := 254) (pc' := 258) rfl (hb hby at_254) (by decide) (by decide) ?_
        show Steps p.tables e below (T150.setTop (mkF m 258 #[.val (.int i0), .val (.int i1), .val (.int i2), .val (.int i3), .val (.int z101), .val (.int z102), .val (.int z103), .val (.ref ak104), .val (.int z105), .val (.int z106), .val (.ref b107), .val (.ref b125), .val (.int (0 : Int32)), .val (.ref b141), .unset, .unset] [(.int (1 : Int32))])) _
        refine XS.istore X150.here hx rfl (hb hby at_258) rfl (l' := #[.val (.int i0), .val (.int i1), .val (.int i2), .val (.int i3), .val (.int z101), .val (.int z102), .val (.int z103), .val (.ref ak104), .val (.int z105), .val (.int z106), .val (.ref b107), .val (.ref b125), .val (.int (0 : Int32)), .val (.ref b141), .val (.int (1 : Int32)), .unset]) rfl ?_
        show Steps p.tables e below (T150.setTop (mkF m 260 #[.val (.int i0), .val (.int i1), .val (.int i2), .val (.int i3), .val (.int z101), .val (.int z102), .val (.int z103), .val (.ref ak104), .val (.int z105), .val (.int z106), .val (.ref b107), .val (.ref b125), .val (.int (0 : Int32)), .val (.ref b141), .val (.int (1 : Int32)), .unset] [])) _
        refine XS.iload X150.here hx rfl (hb hby at_260) rfl ?_
        show Steps p.tables e below (T150.setTop (mkF m 262 #[.val (.int i0), .val (.int i1), .val (.int i2), .val (.int i3), .val (.int z101), .val (.int z102), .val (.int z103), .val (.ref ak104), .val (.int z105), .val (.int z106), .val (.ref b107), .val (.ref b125), .val (.int (0 : Int32)), .val (.ref b141), .val (.int (1 : Int32)), .unset] [(.int (1 : Int32))])) _
        refine XS.ifNo X150.here hx rfl (hb hby at_262) rfl (by decide) ?_
        show Steps p.tables e below (T150.setTop (mkF m 265 #[.val (.int i0), .val (.int i1), .val (.int i2), .val (.int i3), .val (.int z101), .val (.int z102), .val (.int z103), .val (.ref ak104), .val (.int z105), .val (.int z106), .val (.ref b107), .val (.ref b125), .val (.int (0 : Int32)), .val (.ref b141), .val (.int (1 : Int32)), .unset] [])) _
        refine XS.iconst X150.here hx rfl (hb hby at_265) ?_
        show Steps p.tables e below (T150.setTop (mkF m 266 #[.val (.int i0), .val (.int i1), .val (.int i2), .val (.int i3), .val (.int z101), .val (.int z102), .val (.int z103), .val (.ref ak104), .val (.int z105), .val (.int z106), .val (.ref b107), .val (.ref b125), .val (.int (0 : Int32)), .val (.ref b141), .val (.int (1 : Int32)), .unset] [(.int (0 : Int32))])) _
        refine XS.iload X150.here hx rfl (hb hby at_266) rfl ?_
        exact kt)
    by_cases hc152 : z105 < (0 : Int32)
    · skip
      obtain ⟨fs, hr, hrun, hended, hW, hsame⟩ := X150.leave (v := some (.int (1 : Int32))) (fun h => by rw [Bd.returns] at h; cases h)
      refine ⟨_, _, pre151 _ ?_, hrun, hended, _, _, rfl, ?_, ⟨_, rfl⟩, hW, hsame.mono (by decide) (by decide)⟩
      · skip
        show Steps p.tables e below (T150.setTop (mkF m 268 #[.val (.int i0), .val (.int i1), .val (.int i2), .val (.int i3), .val (.int z101), .val (.int z102), .val (.int z103), .val (.ref ak104), .val (.int z105), .val (.int z106), .val (.ref b107), .val (.ref b125), .val (.int (0 : Int32)), .val (.ref b141), .val (.int (1 : Int32)), .unset] [(.int z105), (.int (0 : Int32))])) _
        refine XS.icmpYes X150.here hx rfl (pc0 := 268) (pc' := 331) rfl (hb hby at_268) rfl (tlt hc152).2.2.1 (by decide) (by decide) ?_
        show Steps p.tables e below (T150.setTop (mkF m 331 #[.val (.int i0), .val (.int i1), .val (.int i2), .val (.int i3), .val (.int z101), .val (.int z102), .val (.int z103), .val (.ref ak104), .val (.int z105), .val (.int z106), .val (.ref b107), .val (.ref b125), .val (.int (0 : Int32)), .val (.ref b141), .val (.int (1 : Int32)), .unset] [])) _
        refine XS.iload X150.here hx rfl (hb hby at_331) rfl ?_
        show Steps p.tables e below (T150.setTop (mkF m 333 #[.val (.int i0), .val (.int i1), .val (.int i2), .val (.int i3), .val (.int z101), .val (.int z102), .val (.int z103), .val (.ref ak104), .val (.int z105), .val (.int z106), .val (.ref b107), .val (.ref b125), .val (.int (0 : Int32)), .val (.ref b141), .val (.int (1 : Int32)), .unset] [(.int (1 : Int32))])) _
        exact retN X150 hx (t := .boolean) Bd.returns (by simp) (hb hby at_333) hr
      · show QL n0 _ T150.heap _
        rw [hh150]
        exact ⟨rfl, N150⟩
    · skip
      have pre153 : ∀ t, Steps p.tables e below (T150.setTop (mkF m 275 #[.val (.int i0), .val (.int i1), .val (.int i2), .val (.int i3), .val (.int z101), .val (.int z102), .val (.int z103), .val (.ref ak104), .val (.int z105), .val (.int z106), .val (.ref b107), .val (.ref b125), .val (.int (0 : Int32)), .val (.ref b141), .val (.int (1 : Int32)), .unset] [(.int z106), (.int z105)])) t → Steps p.tables e below (s₁.setTop (entryFrame m #[(.int i0), (.int i1), (.int i2), (.int i3)] maxLocals)) t := fun t kt => pre151 t (by
          show Steps p.tables e below (T150.setTop (mkF m 268 #[.val (.int i0), .val (.int i1), .val (.int i2), .val (.int i3), .val (.int z101), .val (.int z102), .val (.int z103), .val (.ref ak104), .val (.int z105), .val (.int z106), .val (.ref b107), .val (.ref b125), .val (.int (0 : Int32)), .val (.ref b141), .val (.int (1 : Int32)), .unset] [(.int z105), (.int (0 : Int32))])) _
          refine XS.icmpNo X150.here hx rfl (hb hby at_268) rfl (flt hc152).2.2.1 ?_
          show Steps p.tables e below (T150.setTop (mkF m 271 #[.val (.int i0), .val (.int i1), .val (.int i2), .val (.int i3), .val (.int z101), .val (.int z102), .val (.int z103), .val (.ref ak104), .val (.int z105), .val (.int z106), .val (.ref b107), .val (.ref b125), .val (.int (0 : Int32)), .val (.ref b141), .val (.int (1 : Int32)), .unset] [])) _
          refine XS.iload X150.here hx rfl (hb hby at_271) rfl ?_
          show Steps p.tables e below (T150.setTop (mkF m 273 #[.val (.int i0), .val (.int i1), .val (.int i2), .val (.int i3), .val (.int z101), .val (.int z102), .val (.int z103), .val (.ref ak104), .val (.int z105), .val (.int z106), .val (.ref b107), .val (.ref b125), .val (.int (0 : Int32)), .val (.ref b141), .val (.int (1 : Int32)), .unset] [(.int z105)])) _
          refine XS.iload X150.here hx rfl (hb hby at_273) rfl ?_
          exact kt)
      by_cases hc154 : z106 < z105
      · skip
        obtain ⟨fs, hr, hrun, hended, hW, hsame⟩ := X150.leave (v := some (.int (1 : Int32))) (fun h => by rw [Bd.returns] at h; cases h)
        refine ⟨_, _, pre153 _ ?_, hrun, hended, _, _, rfl, ?_, ⟨_, rfl⟩, hW, hsame.mono (by decide) (by decide)⟩
        · skip
          show Steps p.tables e below (T150.setTop (mkF m 275 #[.val (.int i0), .val (.int i1), .val (.int i2), .val (.int i3), .val (.int z101), .val (.int z102), .val (.int z103), .val (.ref ak104), .val (.int z105), .val (.int z106), .val (.ref b107), .val (.ref b125), .val (.int (0 : Int32)), .val (.ref b141), .val (.int (1 : Int32)), .unset] [(.int z106), (.int z105)])) _
          refine XS.icmpYes X150.here hx rfl (pc0 := 275) (pc' := 331) rfl (hb hby at_275) rfl (tlt hc154).2.2.1 (by decide) (by decide) ?_
          show Steps p.tables e below (T150.setTop (mkF m 331 #[.val (.int i0), .val (.int i1), .val (.int i2), .val (.int i3), .val (.int z101), .val (.int z102), .val (.int z103), .val (.ref ak104), .val (.int z105), .val (.int z106), .val (.ref b107), .val (.ref b125), .val (.int (0 : Int32)), .val (.ref b141), .val (.int (1 : Int32)), .unset] [])) _
          refine XS.iload X150.here hx rfl (hb hby at_331) rfl ?_
          show Steps p.tables e below (T150.setTop (mkF m 333 #[.val (.int i0), .val (.int i1), .val (.int i2), .val (.int i3), .val (.int z101), .val (.int z102), .val (.int z103), .val (.ref ak104), .val (.int z105), .val (.int z106), .val (.ref b107), .val (.ref b125), .val (.int (0 : Int32)), .val (.ref b141), .val (.int (1 : Int32)), .unset] [(.int (1 : Int32))])) _
          exact retN X150 hx (t := .boolean) Bd.returns (by simp) (hb hby at_333) hr
        · show QL n0 _ T150.heap _
          rw [hh150]
          exact ⟨rfl, N150⟩
      · skip
        have pre155 : ∀ t, Steps p.tables e below (T150.setTop (mkF m 282 #[.val (.int i0), .val (.int i1), .val (.int i2), .val (.int i3), .val (.int z101), .val (.int z102), .val (.int z103), .val (.ref ak104), .val (.int z105), .val (.int z106), .val (.ref b107), .val (.ref b125), .val (.int (0 : Int32)), .val (.ref b141), .val (.int (1 : Int32)), .unset] [(.int (8 : Int32)), (.int z106)])) t → Steps p.tables e below (s₁.setTop (entryFrame m #[(.int i0), (.int i1), (.int i2), (.int i3)] maxLocals)) t := fun t kt => pre153 t (by
            show Steps p.tables e below (T150.setTop (mkF m 275 #[.val (.int i0), .val (.int i1), .val (.int i2), .val (.int i3), .val (.int z101), .val (.int z102), .val (.int z103), .val (.ref ak104), .val (.int z105), .val (.int z106), .val (.ref b107), .val (.ref b125), .val (.int (0 : Int32)), .val (.ref b141), .val (.int (1 : Int32)), .unset] [(.int z106), (.int z105)])) _
            refine XS.icmpNo X150.here hx rfl (hb hby at_275) rfl (flt hc154).2.2.1 ?_
            show Steps p.tables e below (T150.setTop (mkF m 278 #[.val (.int i0), .val (.int i1), .val (.int i2), .val (.int i3), .val (.int z101), .val (.int z102), .val (.int z103), .val (.ref ak104), .val (.int z105), .val (.int z106), .val (.ref b107), .val (.ref b125), .val (.int (0 : Int32)), .val (.ref b141), .val (.int (1 : Int32)), .unset] [])) _
            refine XS.iload X150.here hx rfl (hb hby at_278) rfl ?_
            show Steps p.tables e below (T150.setTop (mkF m 280 #[.val (.int i0), .val (.int i1), .val (.int i2), .val (.int i3), .val (.int z101), .val (.int z102), .val (.int z103), .val (.ref ak104), .val (.int z105), .val (.int z106), .val (.ref b107), .val (.ref b125), .val (.int (0 : Int32)), .val (.ref b141), .val (.int (1 : Int32)), .unset] [(.int z106)])) _
            refine XS.bipush X150.here hx rfl (hb hby at_280) ?_
            exact kt)
        by_cases hc156 : (8 : Int32) < z106
        · skip
          obtain ⟨fs, hr, hrun, hended, hW, hsame⟩ := X150.leave (v := some (.int (1 : Int32))) (fun h => by rw [Bd.returns] at h; cases h)
          refine ⟨_, _, pre155 _ ?_, hrun, hended, _, _, rfl, ?_, ⟨_, rfl⟩, hW, hsame.mono (by decide) (by decide)⟩
          · skip
            show Steps p.tables e below (T150.setTop (mkF m 282 #[.val (.int i0), .val (.int i1), .val (.int i2), .val (.int i3), .val (.int z101), .val (.int z102), .val (.int z103), .val (.ref ak104), .val (.int z105), .val (.int z106), .val (.ref b107), .val (.ref b125), .val (.int (0 : Int32)), .val (.ref b141), .val (.int (1 : Int32)), .unset] [(.int (8 : Int32)), (.int z106)])) _
            refine XS.icmpYes X150.here hx rfl (pc0 := 282) (pc' := 331) rfl (hb hby at_282) rfl (tlt hc156).2.2.1 (by decide) (by decide) ?_
            show Steps p.tables e below (T150.setTop (mkF m 331 #[.val (.int i0), .val (.int i1), .val (.int i2), .val (.int i3), .val (.int z101), .val (.int z102), .val (.int z103), .val (.ref ak104), .val (.int z105), .val (.int z106), .val (.ref b107), .val (.ref b125), .val (.int (0 : Int32)), .val (.ref b141), .val (.int (1 : Int32)), .unset] [])) _
            refine XS.iload X150.here hx rfl (hb hby at_331) rfl ?_
            show Steps p.tables e below (T150.setTop (mkF m 333 #[.val (.int i0), .val (.int i1), .val (.int i2), .val (.int i3), .val (.int z101), .val (.int z102), .val (.int z103), .val (.ref ak104), .val (.int z105), .val (.int z106), .val (.ref b107), .val (.ref b125), .val (.int (0 : Int32)), .val (.ref b141), .val (.int (1 : Int32)), .unset] [(.int (1 : Int32))])) _
            exact retN X150 hx (t := .boolean) Bd.returns (by simp) (hb hby at_333) hr
          · show QL n0 _ T150.heap _
            rw [hh150]
            exact ⟨rfl, N150⟩
        · skip
          have pre157 : ∀ t, Steps p.tables e below (T150.setTop (mkF m 287 #[.val (.int i0), .val (.int i1), .val (.int i2), .val (.int i3), .val (.int z101), .val (.int z102), .val (.int z103), .val (.ref ak104), .val (.int z105), .val (.int z106), .val (.ref b107), .val (.ref b125), .val (.int (0 : Int32)), .val (.ref b141), .val (.int (1 : Int32)), .unset] [(.int z101)])) t → Steps p.tables e below (s₁.setTop (entryFrame m #[(.int i0), (.int i1), (.int i2), (.int i3)] maxLocals)) t := fun t kt => pre155 t (by
              show Steps p.tables e below (T150.setTop (mkF m 282 #[.val (.int i0), .val (.int i1), .val (.int i2), .val (.int i3), .val (.int z101), .val (.int z102), .val (.int z103), .val (.ref ak104), .val (.int z105), .val (.int z106), .val (.ref b107), .val (.ref b125), .val (.int (0 : Int32)), .val (.ref b141), .val (.int (1 : Int32)), .unset] [(.int (8 : Int32)), (.int z106)])) _
              refine XS.icmpNo X150.here hx rfl (hb hby at_282) rfl (flt hc156).2.2.1 ?_
              show Steps p.tables e below (T150.setTop (mkF m 285 #[.val (.int i0), .val (.int i1), .val (.int i2), .val (.int i3), .val (.int z101), .val (.int z102), .val (.int z103), .val (.ref ak104), .val (.int z105), .val (.int z106), .val (.ref b107), .val (.ref b125), .val (.int (0 : Int32)), .val (.ref b141), .val (.int (1 : Int32)), .unset] [])) _
              refine XS.iload X150.here hx rfl (hb hby at_285) rfl ?_
              exact kt)
          by_cases hc158 : z101 = (0 : Int32)
          · skip
            have f159 := (tp139.2.1.keep K141 nin0)
            have f160 := (f143.keep K141)
            have f161 := ((((((V123.ext E125).keep K129 (ninS ne125_b107 nin0)).keep K133 (ninS ne125_b107 nin0)).keep K135 (ninS ne125_b107 (ninS nebr129_b107 (ninS nebn129_b107 nin0)))).keep K139 (ninS nebr129_b107 nin0)).keep K141 nin0)
            obtain ⟨cq162, kq162, q162a, q162b, q162c⟩ := isOf hZ hh150 Ex141
            obtain ⟨_, _, ⟨T162, L162, k162, n162⟩, -, X162, ⟨Lc162, hQ162, l162, y162, z162⟩, st162⟩ := X150.virtualBack hx (y := (⟨"com/example/keyfold/keyfold/JsonValue", "compact", "()[B"⟩ : MethodName)) (z := (⟨"com/example/keyfold/keyfold/JsonValue", "compact", "()[B"⟩ : MethodName)) hown (mvT hZ (hw _ (List.mem_of_getElem? (i := 107) rfl))) (mvT hZ (hw _ (List.mem_of_getElem? (i := 108) rfl))) (notFace_of_selects (args := #[]) (mvT hZ (hw _ (List.mem_of_getElem? (i := 110) rfl)))) (mvT hZ (hw _ (List.mem_of_getElem? (i := 110) rfl))) (mvT hZ (hw _ (List.mem_of_getElem? (i := 109) rfl))) (by decide) (backOf (W := 0) (rmCo0 l Z a0 hw [] aK a_OBJECT a_ARRAY a_STRING a_NUMBER a_TRUE a_FALSE a_NULL b141 b125 br129 b107 k107 xs139 r0139 z105 z106 (1 : Int32) T141.heap n0 O146 En Ex141 F141_tape F141_index f144 f145 f159 f160 f161 Rc139 hc152 hc154 hc156 (own_p0 (own_r7 i3) hr0139 hc158)) hZ (hw _ (List.mem_of_getElem? (i := 111) rfl)) (hw _ (List.mem_of_getElem? (i := 62) rfl)) (by decide) (by decide)) q162a q162c (g := (mkF m 315 #[.val (.int i0), .val (.int i1), .val (.int i2), .val (.int i3), .val (.int z101), .val (.int z102), .val (.int z103), .val (.ref ak104), .val (.int z105), .val (.int z106), .val (.ref b107), .val (.ref b125), .val (.int (0 : Int32)), .val (.ref b141), .val (.int (1 : Int32)), .val (.int (z106 - z105))] [(.ref b141)])) rfl (by rw [hml]; rfl) (Steps.refl _) (argsL := []) (rest := []) (lenOf pd_16 rfl) rfl (by show 2 * 0 + _ ≤ _; exact Nat.le_of_eq rfl) (hb hby at_315) (fun _ _ => ⟨rfl, hh150, (by decide : 5 + 1 ≤ _), (by decide : 96 + 8 ≤ _)⟩)
            dsimp only [Pt.U, Pt.locs, Pt.cells, Pt.slots] at X162 l162 y162 z162 st162 hQ162
            subst l162 y162 z162
            obtain ⟨b162, rfl, N162q, gb162, sz162, K162, Ex162, V162⟩ := hQ162
            have N162 := Fr.app N150 N162q
            have f163 := (f142.keep K141)
            have ne162_ak104 : ak104 ≠ b162 := Nat.ne_of_lt (Nat.lt_of_lt_of_le (f163).lt sz162)
            have ne162_b107 : b107 ≠ b162 := Nat.ne_of_lt (Nat.lt_of_lt_of_le (f160).lt sz162)
            have f164 := (tp139.1.keep K141)
            have ne162_b125 : b125 ≠ b162 := Nat.ne_of_lt (Nat.lt_of_lt_of_le (f164).lt sz162)
            have ne162_b141 : b141 ≠ b162 := Nat.ne_of_lt (Nat.lt_of_lt_of_le (Ex141).lt sz162)
            have f165 := (tp139.2.2.2.2.2.2.2.keep K141 nin0)
            have ne162_bn129 : bn129 ≠ b162 := Nat.ne_of_lt (Nat.lt_of_lt_of_le (f165).lt sz162)
            have ne162_br129 : br129 ≠ b162 := Nat.ne_of_lt (Nat.lt_of_lt_of_le (f145).lt sz162)
            obtain ⟨cl166, Ar166, S166, N166_, -, -⟩ := By.at V162
            obtain ⟨fs, hr, hrun, hended, hW, hsame⟩ := X162.leave (v := some (.int (1 : Int32))) (fun h => by rw [Bd.returns] at h; cases h)
            refine ⟨_, _, pre157 _ ?_, hrun, hended, _, _, rfl, ?_, ⟨_, rfl⟩, hW, hsame.mono (by decide) (by decide)⟩
            · skip
              show Steps p.tables e below (T150.setTop (mkF m 287 #[.val (.int i0), .val (.int i1), .val (.int i2), .val (.int i3), .val (.int z101), .val (.int z102), .val (.int z103), .val (.ref ak104), .val (.int z105), .val (.int z106), .val (.ref b107), .val (.ref b125), .val (.int (0 : Int32)), .val (.ref b141), .val (.int (1 : Int32)), .unset] [(.int z101)])) _
              refine XS.ifYes X150.here hx rfl (pc0 := 287) (pc' := 306) rfl (hb hby at_287) rfl ((if0 _ _).trans (teq hc158).1) (by decide) (by decide) ?_
              show Steps p.tables e below (T150.setTop (mkF m 306 #[.val (.int i0), .val (.int i1), .val (.int i2), .val (.int i3), .val (.int z101), .val (.int z102), .val (.int z103), .val (.ref ak104), .val (.int z105), .val (.int z106), .val (.ref b107), .val (.ref b125), .val (.int (0 : Int32)), .val (.ref b141), .val (.int (1 : Int32)), .unset] [])) _
              refine XS.iload X150.here hx rfl (hb hby at_306) rfl ?_
              show Steps p.tables e below (T150.setTop (mkF m 308 #[.val (.int i0), .val (.int i1), .val (.int i2), .val (.int i3), .val (.int z101), .val (.int z102), .val (.int z103), .val (.ref ak104), .val (.int z105), .val (.int z106), .val (.ref b107), .val (.ref b125), .val (.int (0 : Int32)), .val (.ref b141), .val (.int (1 : Int32)), .unset] [(.int z106)])) _
              refine XS.iload X150.here hx rfl (hb hby at_308) rfl ?_
              show Steps p.tables e below (T150.setTop (mkF m 310 #[.val (.int i0), .val (.int i1), .val (.int i2), .val (.int i3), .val (.int z101), .val (.int z102), .val (.int z103), .val (.ref ak104), .val (.int z105), .val (.int z106), .val (.ref b107), .val (.ref b125), .val (.int (0 : Int32)), .val (.ref b141), .val (.int (1 : Int32)), .unset] [(.int z105), (.int z106)])) _
              refine XS.isub X150.here hx rfl (hb hby at_310) rfl ?_
              show Steps p.tables e below (T150.setTop (mkF m 311 #[.val (.int i0), .val (.int i1), .val (.int i2), .val (.int i3), .val (.int z101), .val (.int z102), .val (.int z103), .val (.ref ak104), .val (.int z105), .val (.int z106), .val (.ref b107), .val (.ref b125), .val (.int (0 : Int32)), .val (.ref b141), .val (.int (1 : Int32)), .unset] [(.int (z106 - z105))])) _
              refine XS.istore X150.here hx rfl (hb hby at_311) rfl (l' := #[.val (.int i0), .val (.int i1), .val (.int i2), .val (.int i3), .val (.int z101), .val (.int z102), .val (.int z103), .val (.ref ak104), .val (.int z105), .val (.int z106), .val (.ref b107), .val (.ref b125), .val (.int (0 : Int32)), .val (.ref b141), .val (.int (1 : Int32)), .val (.int (z106 - z105))]) rfl ?_
              show Steps p.tables e below (T150.setTop (mkF m 313 #[.val (.int i0), .val (.int i1), .val (.int i2), .val (.int i3), .val (.int z101), .val (.int z102), .val (.int z103), .val (.ref ak104), .val (.int z105), .val (.int z106), .val (.ref b107), .val (.ref b125), .val (.int (0 : Int32)), .val (.ref b141), .val (.int (1 : Int32)), .val (.int (z106 - z105))] [])) _
              refine XS.aload X150.here hx rfl (hb hby at_313) rfl rfl ?_
              show Steps p.tables e below (T150.setTop (mkF m 315 #[.val (.int i0), .val (.int i1), .val (.int i2), .val (.int i3), .val (.int z101), .val (.int z102), .val (.int z103), .val (.ref ak104), .val (.int z105), .val (.int z106), .val (.ref b107), .val (.ref b125), .val (.int (0 : Int32)), .val (.ref b141), .val (.int (1 : Int32)), .val (.int (z106 - z105))] [(.ref b141)])) _
              refine st162.trans ?_
              show Steps p.tables e below (T162.setTop (mkF m 318 #[.val (.int i0), .val (.int i1), .val (.int i2), .val (.int i3), .val (.int z101), .val (.int z102), .val (.int z103), .val (.ref ak104), .val (.int z105), .val (.int z106), .val (.ref b107), .val (.ref b125), .val (.int (0 : Int32)), .val (.ref b141), .val (.int (1 : Int32)), .val (.int (z106 - z105))] [(.ref b162)])) _
              refine X162.arraylength hx Ar166.1 (State.isArrayOf_alike hZ.alike Ar166.2.1) (g := (mkF m 318 #[.val (.int i0), .val (.int i1), .val (.int i2), .val (.int i3), .val (.int z101), .val (.int z102), .val (.int z103), .val (.ref ak104), .val (.int z105), .val (.int z106), .val (.ref b107), .val (.ref b125), .val (.int (0 : Int32)), .val (.ref b141), .val (.int (1 : Int32)), .val (.int (z106 - z105))] [(.ref b162)])) rfl rfl (hb hby at_318) _ ?_
              rw [len_of S166 N166_]
              show Steps p.tables e below (T162.setTop (mkF m 319 #[.val (.int i0), .val (.int i1), .val (.int i2), .val (.int i3), .val (.int z101), .val (.int z102), .val (.int z103), .val (.ref ak104), .val (.int z105), .val (.int z106), .val (.ref b107), .val (.ref b125), .val (.int (0 : Int32)), .val (.ref b141), .val (.int (1 : Int32)), .val (.int (z106 - z105))] [(.int (z106 - z105))])) _
              refine XS.iload X162.here hx rfl (hb hby at_319) rfl ?_
              show Steps p.tables e below (T162.setTop (mkF m 321 #[.val (.int i0), .val (.int i1), .val (.int i2), .val (.int i3), .val (.int z101), .val (.int z102), .val (.int z103), .val (.ref ak104), .val (.int z105), .val (.int z106), .val (.ref b107), .val (.ref b125), .val (.int (0 : Int32)), .val (.ref b141), .val (.int (1 : Int32)), .val (.int (z106 - z105))] [(.int (z106 - z105)), (.int (z106 - z105))])) _
              refine XS.icmpNo X162.here hx rfl (hb hby at_321) rfl (teq rfl).2 ?_
              show Steps p.tables e below (T162.setTop (mkF m 324 #[.val (.int i0), .val (.int i1), .val (.int i2), .val (.int i3), .val (.int z101), .val (.int z102), .val (.int z103), .val (.ref ak104), .val (.int z105), .val (.int z106), .val (.ref b107), .val (.ref b125), .val (.int (0 : Int32)), .val (.ref b141), .val (.int (1 : Int32)), .val (.int (z106 - z105))] [])) _
              refine XS.iconst X162.here hx rfl (hb hby at_324) ?_
              show Steps p.tables e below (T162.setTop (mkF m 325 #[.val (.int i0), .val (.int i1), .val (.int i2), .val (.int i3), .val (.int z101), .val (.int z102), .val (.int z103), .val (.ref ak104), .val (.int z105), .val (.int z106), .val (.ref b107), .val (.ref b125), .val (.int (0 : Int32)), .val (.ref b141), .val (.int (1 : Int32)), .val (.int (z106 - z105))] [(.int (1 : Int32))])) _
              refine XS.goto X162.here hx rfl (pc0 := 325) (pc' := 329) rfl (hb hby at_325) (by decide) (by decide) ?_
              show Steps p.tables e below (T162.setTop (mkF m 329 #[.val (.int i0), .val (.int i1), .val (.int i2), .val (.int i3), .val (.int z101), .val (.int z102), .val (.int z103), .val (.ref ak104), .val (.int z105), .val (.int z106), .val (.ref b107), .val (.ref b125), .val (.int (0 : Int32)), .val (.ref b141), .val (.int (1 : Int32)), .val (.int (z106 - z105))] [(.int (1 : Int32))])) _
              refine XS.istore X162.here hx rfl (hb hby at_329) rfl (l' := #[.val (.int i0), .val (.int i1), .val (.int i2), .val (.int i3), .val (.int z101), .val (.int z102), .val (.int z103), .val (.ref ak104), .val (.int z105), .val (.int z106), .val (.ref b107), .val (.ref b125), .val (.int (0 : Int32)), .val (.ref b141), .val (.int (1 : Int32)), .val (.int (z106 - z105))]) rfl ?_
              show Steps p.tables e below (T162.setTop (mkF m 331 #[.val (.int i0), .val (.int i1), .val (.int i2), .val (.int i3), .val (.int z101), .val (.int z102), .val (.int z103), .val (.ref ak104), .val (.int z105), .val (.int z106), .val (.ref b107), .val (.ref b125), .val (.int (0 : Int32)), .val (.ref b141), .val (.int (1 : Int32)), .val (.int (z106 - z105))] [])) _
              refine XS.iload X162.here hx rfl (hb hby at_331) rfl ?_
              show Steps p.tables e below (T162.setTop (mkF m 333 #[.val (.int i0), .val (.int i1), .val (.int i2), .val (.int i3), .val (.int z101), .val (.int z102), .val (.int z103), .val (.ref ak104), .val (.int z105), .val (.int z106), .val (.ref b107), .val (.ref b125), .val (.int (0 : Int32)), .val (.ref b141), .val (.int (1 : Int32)), .val (.int (z106 - z105))] [(.int (1 : Int32))])) _
              exact retN X162 hx (t := .boolean) Bd.returns (by simp) (hb hby at_333) hr
            · show QL n0 _ T162.heap _
              exact ⟨rfl, N162⟩
          · skip
            have f167 := (tp139.2.1.keep K141 nin0)
            have f168 := (f143.keep K141)
            have f169 := ((((((V123.ext E125).keep K129 (ninS ne125_b107 nin0)).keep K133 (ninS ne125_b107 nin0)).keep K135 (ninS ne125_b107 (ninS nebr129_b107 (ninS nebn129_b107 nin0)))).keep K139 (ninS nebr129_b107 nin0)).keep K141 nin0)
            obtain ⟨cq170, kq170, q170a, q170b, q170c⟩ := isOf hZ hh150 Ex141
            obtain ⟨_, _, ⟨T170, L170, k170, n170⟩, -, X170, ⟨Lc170, hQ170, l170, y170, z170⟩, st170⟩ := X150.virtualBack hx (y := (⟨"com/example/keyfold/keyfold/JsonValue", "compact", "()[B"⟩ : MethodName)) (z := (⟨"com/example/keyfold/keyfold/JsonValue", "compact", "()[B"⟩ : MethodName)) hown (mvT hZ (hw _ (List.mem_of_getElem? (i := 107) rfl))) (mvT hZ (hw _ (List.mem_of_getElem? (i := 108) rfl))) (notFace_of_selects (args := #[]) (mvT hZ (hw _ (List.mem_of_getElem? (i := 110) rfl)))) (mvT hZ (hw _ (List.mem_of_getElem? (i := 110) rfl))) (mvT hZ (hw _ (List.mem_of_getElem? (i := 109) rfl))) (by decide) (backOf (W := 0) (rmCo1 l Z a0 hw [] aK a_OBJECT a_ARRAY a_STRING a_NUMBER a_TRUE a_FALSE a_NULL b141 b125 br129 b107 k107 xs139 r0139 z105 z106 (1 : Int32) T141.heap n0 O146 En Ex141 F141_tape F141_index f144 f145 f167 f168 f169 Rc139 hc152 hc154 hc156 (own_p1 (own_r7 i3) hr0139 hc158)) hZ (hw _ (List.mem_of_getElem? (i := 111) rfl)) (hw _ (List.mem_of_getElem? (i := 62) rfl)) (by decide) (by decide)) q170a q170c (g := (mkF m 315 #[.val (.int i0), .val (.int i1), .val (.int i2), .val (.int i3), .val (.int z101), .val (.int z102), .val (.int z103), .val (.ref ak104), .val (.int z105), .val (.int z106), .val (.ref b107), .val (.ref b125), .val (.int (0 : Int32)), .val (.ref b141), .val (.int (1 : Int32)), .val (.int (((z106 + (1 : Int32)) >>> ((1 : Int32) &&& 31)) - ((z105 + (1 : Int32)) >>> ((1 : Int32) &&& 31))))] [(.ref b141)])) rfl (by rw [hml]; rfl) (Steps.refl _) (argsL := []) (rest := []) (lenOf pd_16 rfl) rfl (by show 2 * 0 + _ ≤ _; exact Nat.le_of_eq rfl) (hb hby at_315) (fun _ _ => ⟨rfl, hh150, (by decide : 5 + 2 ≤ _), (by decide : 96 + 16 ≤ _)⟩)
            dsimp only [Pt.U, Pt.locs, Pt.cells, Pt.slots] at X170 l170 y170 z170 st170 hQ170
            subst l170 y170 z170
            obtain ⟨b170, rfl, N170q, gb170, sz170, K170, Ex170, V170⟩ := hQ170
            have N170 := Fr.app N150 N170q
            have f171 := (f142.keep K141)
            have ne170_ak104 : ak104 ≠ b170 := Nat.ne_of_lt (Nat.lt_of_lt_of_le (f171).lt sz170)
            have ne170_b107 : b107 ≠ b170 := Nat.ne_of_lt (Nat.lt_of_lt_of_le (f168).lt sz170)
            have f172 := (tp139.1.keep K141)
            have ne170_b125 : b125 ≠ b170 := Nat.ne_of_lt (Nat.lt_of_lt_of_le (f172).lt sz170)
            have ne170_b141 : b141 ≠ b170 := Nat.ne_of_lt (Nat.lt_of_lt_of_le (Ex141).lt sz170)
            have f173 := (tp139.2.2.2.2.2.2.2.keep K141 nin0)
            have ne170_bn129 : bn129 ≠ b170 := Nat.ne_of_lt (Nat.lt_of_lt_of_le (f173).lt sz170)
            have ne170_br129 : br129 ≠ b170 := Nat.ne_of_lt (Nat.lt_of_lt_of_le (f145).lt sz170)
            obtain ⟨cl174, Ar174, S174, N174_, -, -⟩ := By.at V170
            obtain ⟨fs, hr, hrun, hended, hW, hsame⟩ := X170.leave (v := some (.int (1 : Int32))) (fun h => by rw [Bd.returns] at h; cases h)
            refine ⟨_, _, pre157 _ ?_, hrun, hended, _, _, rfl, ?_, ⟨_, rfl⟩, hW, hsame.mono (by decide) (by decide)⟩
            · skip
              show Steps p.tables e below (T150.setTop (mkF m 287 #[.val (.int i0), .val (.int i1), .val (.int i2), .val (.int i3), .val (.int z101), .val (.int z102), .val (.int z103), .val (.ref ak104), .val (.int z105), .val (.int z106), .val (.ref b107), .val (.ref b125), .val (.int (0 : Int32)), .val (.ref b141), .val (.int (1 : Int32)), .unset] [(.int z101)])) _
              refine XS.ifNo X150.here hx rfl (hb hby at_287) rfl ((if0 _ _).trans (feq hc158).1) ?_
              show Steps p.tables e below (T150.setTop (mkF m 290 #[.val (.int i0), .val (.int i1), .val (.int i2), .val (.int i3), .val (.int z101), .val (.int z102), .val (.int z103), .val (.ref ak104), .val (.int z105), .val (.int z106), .val (.ref b107), .val (.ref b125), .val (.int (0 : Int32)), .val (.ref b141), .val (.int (1 : Int32)), .unset] [])) _
              refine XS.iload X150.here hx rfl (hb hby at_290) rfl ?_
              show Steps p.tables e below (T150.setTop (mkF m 292 #[.val (.int i0), .val (.int i1), .val (.int i2), .val (.int i3), .val (.int z101), .val (.int z102), .val (.int z103), .val (.ref ak104), .val (.int z105), .val (.int z106), .val (.ref b107), .val (.ref b125), .val (.int (0 : Int32)), .val (.ref b141), .val (.int (1 : Int32)), .unset] [(.int z106)])) _
              refine XS.iconst X150.here hx rfl (hb hby at_292) ?_
              show Steps p.tables e below (T150.setTop (mkF m 293 #[.val (.int i0), .val (.int i1), .val (.int i2), .val (.int i3), .val (.int z101), .val (.int z102), .val (.int z103), .val (.ref ak104), .val (.int z105), .val (.int z106), .val (.ref b107), .val (.ref b125), .val (.int (0 : Int32)), .val (.ref b141), .val (.int (1 : Int32)), .unset] [(.int (1 : Int32)), (.int z106)])) _
              refine XS.iadd X150.here hx rfl (hb hby at_293) rfl ?_
              show Steps p.tables e below (T150.setTop (mkF m 294 #[.val (.int i0), .val (.int i1), .val (.int i2), .val (.int i3), .val (.int z101), .val (.int z102), .val (.int z103), .val (.ref ak104), .val (.int z105), .val (.int z106), .val (.ref b107), .val (.ref b125), .val (.int (0 : Int32)), .val (.ref b141), .val (.int (1 : Int32)), .unset] [(.int (z106 + (1 : Int32)))])) _
              refine XS.iconst X150.here hx rfl (hb hby at_294) ?_
              show Steps p.tables e below (T150.setTop (mkF m 295 #[.val (.int i0), .val (.int i1), .val (.int i2), .val (.int i3), .val (.int z101), .val (.int z102), .val (.int z103), .val (.ref ak104), .val (.int z105), .val (.int z106), .val (.ref b107), .val (.ref b125), .val (.int (0 : Int32)), .val (.ref b141), .val (.int (1 : Int32)), .unset] [(.int (1 : Int32)), (.int (z106 + (1 : Int32)))])) _
              refine XS.ishr X150.here hx rfl (hb hby at_295) rfl ?_
              show Steps p.tables e below (T150.setTop (mkF m 296 #[.val (.int i0), .val (.int i1), .val (.int i2), .val (.int i3), .val (.int z101), .val (.int z102), .val (.int z103), .val (.ref ak104), .val (.int z105), .val (.int z106), .val (.ref b107), .val (.ref b125), .val (.int (0 : Int32)), .val (.ref b141), .val (.int (1 : Int32)), .unset] [(.int ((z106 + (1 : Int32)) >>> ((1 : Int32) &&& 31)))])) _
              refine XS.iload X150.here hx rfl (hb hby at_296) rfl ?_
              show Steps p.tables e below (T150.setTop (mkF m 298 #[.val (.int i0), .val (.int i1), .val (.int i2), .val (.int i3), .val (.int z101), .val (.int z102), .val (.int z103), .val (.ref ak104), .val (.int z105), .val (.int z106), .val (.ref b107), .val (.ref b125), .val (.int (0 : Int32)), .val (.ref b141), .val (.int (1 : Int32)), .unset] [(.int z105), (.int ((z106 + (1 : Int32)) >>> ((1 : Int32) &&& 31)))])) _
              refine XS.iconst X150.here hx rfl (hb hby at_298) ?_
              show Steps p.tables e below (T150.setTop (mkF m 299 #[.val (.int i0), .val (.int i1), .val (.int i2), .val (.int i3), .val (.int z101), .val (.int z102), .val (.int z103), .val (.ref ak104), .val (.int z105), .val (.int z106), .val (.ref b107), .val (.ref b125), .val (.int (0 : Int32)), .val (.ref b141), .val (.int (1 : Int32)), .unset] [(.int (1 : Int32)), (.int z105), (.int ((z106 + (1 : Int32)) >>> ((1 : Int32) &&& 31)))])) _
              refine XS.iadd X150.here hx rfl (hb hby at_299) rfl ?_
              show Steps p.tables e below (T150.setTop (mkF m 300 #[.val (.int i0), .val (.int i1), .val (.int i2), .val (.int i3), .val (.int z101), .val (.int z102), .val (.int z103), .val (.ref ak104), .val (.int z105), .val (.int z106), .val (.ref b107), .val (.ref b125), .val (.int (0 : Int32)), .val (.ref b141), .val (.int (1 : Int32)), .unset] [(.int (z105 + (1 : Int32))), (.int ((z106 + (1 : Int32)) >>> ((1 : Int32) &&& 31)))])) _
              refine XS.iconst X150.here hx rfl (hb hby at_300) ?_
              show Steps p.tables e below (T150.setTop (mkF m 301 #[.val (.int i0), .val (.int i1), .val (.int i2), .val (.int i3), .val (.int z101), .val (.int z102), .val (.int z103), .val (.ref ak104), .val (.int z105), .val (.int z106), .val (.ref b107), .val (.ref b125), .val (.int (0 : Int32)), .val (.ref b141), .val (.int (1 : Int32)), .unset] [(.int (1 : Int32)), (.int (z105 + (1 : Int32))), (.int ((z106 + (1 : Int32)) >>> ((1 : Int32) &&& 31)))])) _
              refine XS.ishr X150.here hx rfl (hb hby at_301) rfl ?_
              show Steps p.tables e below (T150.setTop (mkF m 302 #[.val (.int i0), .val (.int i1), .val (.int i2), .val (.int i3), .val (.int z101), .val (.int z102), .val (.int z103), .val (.ref ak104), .val (.int z105), .val (.int z106), .val (.ref b107), .val (.ref b125), .val (.int (0 : Int32)), .val (.ref b141), .val (.int (1 : Int32)), .unset] [(.int ((z105 + (1 : Int32)) >>> ((1 : Int32) &&& 31))), (.int ((z106 + (1 : Int32)) >>> ((1 : Int32) &&& 31)))])) _
              refine XS.isub X150.here hx rfl (hb hby at_302) rfl ?_
              show Steps p.tables e below (T150.setTop (mkF m 303 #[.val (.int i0), .val (.int i1), .val (.int i2), .val (.int i3), .val (.int z101), .val (.int z102), .val (.int z103), .val (.ref ak104), .val (.int z105), .val (.int z106), .val (.ref b107), .val (.ref b125), .val (.int (0 : Int32)), .val (.ref b141), .val (.int (1 : Int32)), .unset] [(.int (((z106 + (1 : Int32)) >>> ((1 : Int32) &&& 31)) - ((z105 + (1 : Int32)) >>> ((1 : Int32) &&& 31))))])) _
              refine XS.goto X150.here hx rfl (pc0 := 303) (pc' := 311) rfl (hb hby at_303) (by decide) (by decide) ?_
              show Steps p.tables e below (T150.setTop (mkF m 311 #[.val (.int i0), .val (.int i1), .val (.int i2), .val (.int i3), .val (.int z101), .val (.int z102), .val (.int z103), .val (.ref ak104), .val (.int z105), .val (.int z106), .val (.ref b107), .val (.ref b125), .val (.int (0 : Int32)), .val (.ref b141), .val (.int (1 : Int32)), .unset] [(.int (((z106 + (1 : Int32)) >>> ((1 : Int32) &&& 31)) - ((z105 + (1 : Int32)) >>> ((1 : Int32) &&& 31))))])) _
              refine XS.istore X150.here hx rfl (hb hby at_311) rfl (l' := #[.val (.int i0), .val (.int i1), .val (.int i2), .val (.int i3), .val (.int z101), .val (.int z102), .val (.int z103), .val (.ref ak104), .val (.int z105), .val (.int z106), .val (.ref b107), .val (.ref b125), .val (.int (0 : Int32)), .val (.ref b141), .val (.int (1 : Int32)), .val (.int (((z106 + (1 : Int32)) >>> ((1 : Int32) &&& 31)) - ((z105 + (1 : Int32)) >>> ((1 : Int32) &&& 31))))]) rfl ?_
              show Steps p.tables e below (T150.setTop (mkF m 313 #[.val (.int i0), .val (.int i1), .val (.int i2), .val (.int i3), .val (.int z101), .val (.int z102), .val (.int z103), .val (.ref ak104), .val (.int z105), .val (.int z106), .val (.ref b107), .val (.ref b125), .val (.int (0 : Int32)), .val (.ref b141), .val (.int (1 : Int32)), .val (.int (((z106 + (1 : Int32)) >>> ((1 : Int32) &&& 31)) - ((z105 + (1 : Int32)) >>> ((1 : Int32) &&& 31))))] [])) _
              refine XS.aload X150.here hx rfl (hb hby at_313) rfl rfl ?_
              show Steps p.tables e below (T150.setTop (mkF m 315 #[.val (.int i0), .val (.int i1), .val (.int i2), .val (.int i3), .val (.int z101), .val (.int z102), .val (.int z103), .val (.ref ak104), .val (.int z105), .val (.int z106), .val (.ref b107), .val (.ref b125), .val (.int (0 : Int32)), .val (.ref b141), .val (.int (1 : Int32)), .val (.int (((z106 + (1 : Int32)) >>> ((1 : Int32) &&& 31)) - ((z105 + (1 : Int32)) >>> ((1 : Int32) &&& 31))))] [(.ref b141)])) _
              refine st170.trans ?_
              show Steps p.tables e below (T170.setTop (mkF m 318 #[.val (.int i0), .val (.int i1), .val (.int i2), .val (.int i3), .val (.int z101), .val (.int z102), .val (.int z103), .val (.ref ak104), .val (.int z105), .val (.int z106), .val (.ref b107), .val (.ref b125), .val (.int (0 : Int32)), .val (.ref b141), .val (.int (1 : Int32)), .val (.int (((z106 + (1 : Int32)) >>> ((1 : Int32) &&& 31)) - ((z105 + (1 : Int32)) >>> ((1 : Int32) &&& 31))))] [(.ref b170)])) _
              refine X170.arraylength hx Ar174.1 (State.isArrayOf_alike hZ.alike Ar174.2.1) (g := (mkF m 318 #[.val (.int i0), .val (.int i1), .val (.int i2), .val (.int i3), .val (.int z101), .val (.int z102), .val (.int z103), .val (.ref ak104), .val (.int z105), .val (.int z106), .val (.ref b107), .val (.ref b125), .val (.int (0 : Int32)), .val (.ref b141), .val (.int (1 : Int32)), .val (.int (((z106 + (1 : Int32)) >>> ((1 : Int32) &&& 31)) - ((z105 + (1 : Int32)) >>> ((1 : Int32) &&& 31))))] [(.ref b170)])) rfl rfl (hb hby at_318) _ ?_
              rw [len_of S174 N174_]
              show Steps p.tables e below (T170.setTop (mkF m 319 #[.val (.int i0), .val (.int i1), .val (.int i2), .val (.int i3), .val (.int z101), .val (.int z102), .val (.int z103), .val (.ref ak104), .val (.int z105), .val (.int z106), .val (.ref b107), .val (.ref b125), .val (.int (0 : Int32)), .val (.ref b141), .val (.int (1 : Int32)), .val (.int (((z106 + (1 : Int32)) >>> ((1 : Int32) &&& 31)) - ((z105 + (1 : Int32)) >>> ((1 : Int32) &&& 31))))] [(.int (own_len z105 z106))])) _
              refine XS.iload X170.here hx rfl (hb hby at_319) rfl ?_
              show Steps p.tables e below (T170.setTop (mkF m 321 #[.val (.int i0), .val (.int i1), .val (.int i2), .val (.int i3), .val (.int z101), .val (.int z102), .val (.int z103), .val (.ref ak104), .val (.int z105), .val (.int z106), .val (.ref b107), .val (.ref b125), .val (.int (0 : Int32)), .val (.ref b141), .val (.int (1 : Int32)), .val (.int (((z106 + (1 : Int32)) >>> ((1 : Int32) &&& 31)) - ((z105 + (1 : Int32)) >>> ((1 : Int32) &&& 31))))] [(.int (((z106 + (1 : Int32)) >>> ((1 : Int32) &&& 31)) - ((z105 + (1 : Int32)) >>> ((1 : Int32) &&& 31)))), (.int (own_len z105 z106))])) _
              refine XS.icmpNo X170.here hx rfl (hb hby at_321) rfl (teq rfl).2 ?_
              show Steps p.tables e below (T170.setTop (mkF m 324 #[.val (.int i0), .val (.int i1), .val (.int i2), .val (.int i3), .val (.int z101), .val (.int z102), .val (.int z103), .val (.ref ak104), .val (.int z105), .val (.int z106), .val (.ref b107), .val (.ref b125), .val (.int (0 : Int32)), .val (.ref b141), .val (.int (1 : Int32)), .val (.int (((z106 + (1 : Int32)) >>> ((1 : Int32) &&& 31)) - ((z105 + (1 : Int32)) >>> ((1 : Int32) &&& 31))))] [])) _
              refine XS.iconst X170.here hx rfl (hb hby at_324) ?_
              show Steps p.tables e below (T170.setTop (mkF m 325 #[.val (.int i0), .val (.int i1), .val (.int i2), .val (.int i3), .val (.int z101), .val (.int z102), .val (.int z103), .val (.ref ak104), .val (.int z105), .val (.int z106), .val (.ref b107), .val (.ref b125), .val (.int (0 : Int32)), .val (.ref b141), .val (.int (1 : Int32)), .val (.int (((z106 + (1 : Int32)) >>> ((1 : Int32) &&& 31)) - ((z105 + (1 : Int32)) >>> ((1 : Int32) &&& 31))))] [(.int (1 : Int32))])) _
              refine XS.goto X170.here hx rfl (pc0 := 325) (pc' := 329) rfl (hb hby at_325) (by decide) (by decide) ?_
              show Steps p.tables e below (T170.setTop (mkF m 329 #[.val (.int i0), .val (.int i1), .val (.int i2), .val (.int i3), .val (.int z101), .val (.int z102), .val (.int z103), .val (.ref ak104), .val (.int z105), .val (.int z106), .val (.ref b107), .val (.ref b125), .val (.int (0 : Int32)), .val (.ref b141), .val (.int (1 : Int32)), .val (.int (((z106 + (1 : Int32)) >>> ((1 : Int32) &&& 31)) - ((z105 + (1 : Int32)) >>> ((1 : Int32) &&& 31))))] [(.int (1 : Int32))])) _
              refine XS.istore X170.here hx rfl (hb hby at_329) rfl (l' := #[.val (.int i0), .val (.int i1), .val (.int i2), .val (.int i3), .val (.int z101), .val (.int z102), .val (.int z103), .val (.ref ak104), .val (.int z105), .val (.int z106), .val (.ref b107), .val (.ref b125), .val (.int (0 : Int32)), .val (.ref b141), .val (.int (1 : Int32)), .val (.int (((z106 + (1 : Int32)) >>> ((1 : Int32) &&& 31)) - ((z105 + (1 : Int32)) >>> ((1 : Int32) &&& 31))))]) rfl ?_
              show Steps p.tables e below (T170.setTop (mkF m 331 #[.val (.int i0), .val (.int i1), .val (.int i2), .val (.int i3), .val (.int z101), .val (.int z102), .val (.int z103), .val (.ref ak104), .val (.int z105), .val (.int z106), .val (.ref b107), .val (.ref b125), .val (.int (0 : Int32)), .val (.ref b141), .val (.int (1 : Int32)), .val (.int (((z106 + (1 : Int32)) >>> ((1 : Int32) &&& 31)) - ((z105 + (1 : Int32)) >>> ((1 : Int32) &&& 31))))] [])) _
              refine XS.iload X170.here hx rfl (hb hby at_331) rfl ?_
              show Steps p.tables e below (T170.setTop (mkF m 333 #[.val (.int i0), .val (.int i1), .val (.int i2), .val (.int i3), .val (.int z101), .val (.int z102), .val (.int z103), .val (.ref ak104), .val (.int z105), .val (.int z106), .val (.ref b107), .val (.ref b125), .val (.int (0 : Int32)), .val (.ref b141), .val (.int (1 : Int32)), .val (.int (((z106 + (1 : Int32)) >>> ((1 : Int32) &&& 31)) - ((z105 + (1 : Int32)) >>> ((1 : Int32) &&& 31))))] [(.int (1 : Int32))])) _
              exact retN X170 hx (t := .boolean) Bd.returns (by simp) (hb hby at_333) hr
            · show QL n0 _ T170.heap _
              exact ⟨rfl, N170⟩
  · skip
    have O175 : Old Z n0 T135.heap := (O134.keep K135 (allS gb125 (allS gr129 (allS gn129 all0))))
    obtain ⟨T176, X176, e176, st176⟩ := getS2 X135 hx hZ hown (host := "") (Or.inl (hw _ (List.mem_of_getElem? (i := 137) rfl))) Via.refl rfl (Sta.ext O175.2 S_NUMBER) (g := (mkF m 173 #[.val (.int i0), .val (.int i1), .val (.int i2), .val (.int i3), .val (.int z101), .val (.int z102), .val (.int z103), .val (.ref ak104), .val (.int z105), .val (.int z106), .val (.ref b107), .val (.ref b125), .val (.int (0 : Int32)), .unset, .unset, .unset] [(.ref b125)])) rfl (hb hby at_173)
    obtain ⟨cq177, kq177, q177a, q177b, q177c⟩ := isOf hZ e176 tq135.1
    obtain ⟨_, _, ⟨T177, L177, k177, n177⟩, -, X177, ⟨Lc177, hQ177, l177, y177, z177⟩, st177⟩ := X176.virtualBack hx (y := (⟨"com/example/keyfold/keyfold/JsonValue$Tape", "add", "(Lcom/example/keyfold/keyfold/JsonValue$Kind;ILjava/lang/String;)I"⟩ : MethodName)) (z := (⟨"com/example/keyfold/keyfold/JsonValue$Tape", "add", "(Lcom/example/keyfold/keyfold/JsonValue$Kind;ILjava/lang/String;)I"⟩ : MethodName)) hown (mvT hZ (hw _ (List.mem_of_getElem? (i := 36) rfl))) (mvT hZ (hw _ (List.mem_of_getElem? (i := 37) rfl))) (notFace_of_selects (args := #[]) (mvT hZ (hw _ (List.mem_of_getElem? (i := 39) rfl)))) (mvT hZ (hw _ (List.mem_of_getElem? (i := 39) rfl))) (mvT hZ (hw _ (List.mem_of_getElem? (i := 38) rfl))) (by decide) (backOf (W := 0) (rmAd1 l Z a0 hw [] aK a_NUMBER b125 br129 bn129 (.ref b107) (1 : Int32) (3 : Int32) (0 : Int32) xs135 T135.heap n0 O175 K_NUMBER ⟨tq135.1, tq135.2.1, tq135.2.2.1, tq135.2.2.2.1, tq135.2.2.2.2.1, tq135.2.2.2.2.2.1, tq135.2.2.2.2.2.2.1, tq135.2.2.2.2.2.2.2⟩ n1129 n2129 n3129 gb125 gr129 gn129) hZ (hw _ (List.mem_of_getElem? (i := 40) rfl)) (hw _ (List.mem_of_getElem? (i := 11) rfl)) (by decide) (by decide)) q177a q177c (g := (mkF m 178 #[.val (.int i0), .val (.int i1), .val (.int i2), .val (.int i3), .val (.int z101), .val (.int z102), .val (.int z103), .val (.ref ak104), .val (.int z105), .val (.int z106), .val (.ref b107), .val (.ref b125), .val (.int (0 : Int32)), .unset, .unset, .unset] [.null, (.int (0 : Int32)), (.ref a_NUMBER), (.ref b125)])) rfl (by rw [hml]; rfl) (Steps.refl _) (argsL := [(.ref a_NUMBER), (.int (0 : Int32)), .null]) (rest := []) (lenOf pd_12 rfl) rfl (by show 2 * 0 + _ ≤ _; exact Nat.le_of_eq rfl) (hb hby at_178) (fun _ _ => ⟨rfl, e176, (by decide : 4 + 0 ≤ _), (by decide : 93 + 0 ≤ _)⟩)
    dsimp only [Pt.U, Pt.locs, Pt.cells, Pt.slots] at X177 l177 y177 z177 st177 hQ177
    subst l177 y177 z177
    obtain ⟨rfl, N177q, K177, tp177⟩ := hQ177
    have N177 := Fr.app N135 N177q
    obtain ⟨xs177, hxs177, tq177⟩ : ∃ z, z = ((xs135.set ((4 : Int32)).toNatClampNeg (3 : Int32)).set ((5 : Int32)).toNatClampNeg (0 : Int32)) ∧ Tp Z T177.heap b125 br129 bn129 (.ref b107) (2 : Int32) (1 : Int32) z := ⟨_, rfl, tp177⟩
    have hg177 : xs177.getD 0 0 = ((i3 &&& (2147483647 : Int32)) % (7 : Int32)) ∧ xs177.getD 1 0 = z105 := by rw [hxs177]; exact own_add1 hg135
    have O178 : Old Z n0 T177.heap := (O175.keep K177 (allS gb125 (allS gr129 (allS gn129 all0))))
    obtain ⟨cq179, kq179, q179a, q179b, q179c⟩ := isOf hZ rfl tq177.1
    obtain ⟨_, _, ⟨T179, L179, k179, n179⟩, -, X179, ⟨Lc179, hQ179, l179, y179, z179⟩, st179⟩ := X177.virtualBack hx (y := (⟨"com/example/keyfold/keyfold/JsonValue$Tape", "end", "(IIZ)V"⟩ : MethodName)) (z := (⟨"com/example/keyfold/keyfold/JsonValue$Tape", "end", "(IIZ)V"⟩ : MethodName)) hown (mvT hZ (hw _ (List.mem_of_getElem? (i := 50) rfl))) (mvT hZ (hw _ (List.mem_of_getElem? (i := 51) rfl))) (notFace_of_selects (args := #[]) (mvT hZ (hw _ (List.mem_of_getElem? (i := 53) rfl)))) (mvT hZ (hw _ (List.mem_of_getElem? (i := 53) rfl))) (mvT hZ (hw _ (List.mem_of_getElem? (i := 52) rfl))) (by decide) (backOf (W := 0) (rmTe l Z a0 hw [] b125 br129 bn129 (.ref b107) (1 : Int32) (2 : Int32) ((i3 &&& (2147483647 : Int32)) % (7 : Int32)) z105 z106 z101 xs177 T177.heap n0 O178 ⟨tq177.1, tq177.2.1, tq177.2.2.1, tq177.2.2.2.1, tq177.2.2.2.2.1, tq177.2.2.2.2.2.1, tq177.2.2.2.2.2.2.1, tq177.2.2.2.2.2.2.2⟩ hg177 n1129 n2129 n3129 gb125 gr129 gn129) hZ (hw _ (List.mem_of_getElem? (i := 54) rfl)) (hw _ (List.mem_of_getElem? (i := 11) rfl)) (by decide) (by decide)) q179a q179c (g := (mkF m 190 #[.val (.int i0), .val (.int i1), .val (.int i2), .val (.int i3), .val (.int z101), .val (.int z102), .val (.int z103), .val (.ref ak104), .val (.int z105), .val (.int z106), .val (.ref b107), .val (.ref b125), .val (.int (0 : Int32)), .unset, .unset, .unset] [(.int z101), (.int z106), (.int (0 : Int32)), (.ref b125)])) rfl (by rw [hml]; rfl) (Steps.refl _) (argsL := [(.int (0 : Int32)), (.int z106), (.int z101)]) (rest := []) (lenOf pd_13 rfl) rfl (by show 2 * 0 + _ ≤ _; exact Nat.le_of_eq rfl) (hb hby at_190) (fun _ _ => ⟨rfl, rfl, (by decide : 4 + 0 ≤ _), (by decide : 93 + 0 ≤ _)⟩)
    dsimp only [Pt.U, Pt.locs, Pt.cells, Pt.slots] at X179 l179 y179 z179 st179 hQ179
    subst l179 y179 z179
    obtain ⟨rfl, N179q, K179, xs179, r0179, tp179, Rc179, hr0179⟩ := hQ179
    have N179 := Fr.app N177 N179q
    have O180 : Old Z n0 T179.heap := (O178.keep K179 (allS gr129 all0))
    obtain ⟨cq181, kq181, q181a, q181b, q181c⟩ := isOf hZ rfl tp179.1
    obtain ⟨_, _, ⟨T181, L181, k181, n181⟩, -, X181, ⟨Lc181, hQ181, l181, y181, z181⟩, st181⟩ := X179.virtualBack hx (y := (⟨"com/example/keyfold/keyfold/JsonValue$Tape", "first", "()Lcom/example/keyfold/keyfold/JsonValue;"⟩ : MethodName)) (z := (⟨"com/example/keyfold/keyfold/JsonValue$Tape", "first", "()Lcom/example/keyfold/keyfold/JsonValue;"⟩ : MethodName)) hown (mvT hZ (hw _ (List.mem_of_getElem? (i := 55) rfl))) (mvT hZ (hw _ (List.mem_of_getElem? (i := 56) rfl))) (notFace_of_selects (args := #[]) (mvT hZ (hw _ (List.mem_of_getElem? (i := 58) rfl)))) (mvT hZ (hw _ (List.mem_of_getElem? (i := 58) rfl))) (mvT hZ (hw _ (List.mem_of_getElem? (i := 57) rfl))) (by decide) (backOf (W := 0) (rmFi l Z a0 hw [] b125 (1 : Int32) T179.heap n0 O180 tp179.2.2.2.2.2.1) hZ (hw _ (List.mem_of_getElem? (i := 59) rfl)) (hw _ (List.mem_of_getElem? (i := 11) rfl)) (by decide) (by decide)) q181a q181c (g := (mkF m 195 #[.val (.int i0), .val (.int i1), .val (.int i2), .val (.int i3), .val (.int z101), .val (.int z102), .val (.int z103), .val (.ref ak104), .val (.int z105), .val (.int z106), .val (.ref b107), .val (.ref b125), .val (.int (0 : Int32)), .unset, .unset, .unset] [(.ref b125)])) rfl (by rw [hml]; rfl) (Steps.refl _) (argsL := []) (rest := []) (lenOf pd_14 rfl) rfl (by show 2 * 0 + _ ≤ _; exact Nat.le_of_eq rfl) (hb hby at_195) (fun _ _ => ⟨rfl, rfl, (by decide : 4 + 1 ≤ _), (by decide : 93 + 3 ≤ _)⟩)
    dsimp only [Pt.U, Pt.locs, Pt.cells, Pt.slots] at X181 l181 y181 z181 st181 hQ181
    subst l181 y181 z181
    obtain ⟨b181, rfl, N181q, gb181, sz181, K181, Ex181, F181_tape, F181_index, F181_generation⟩ := hQ181
    have N181 := Fr.app N179 N181q
    have f182 := (((((f130.keep K129).keep K133).keep K135).keep K177).keep K179)
    have ne181_ak104 : ak104 ≠ b181 := Nat.ne_of_lt (Nat.lt_of_lt_of_le (f182).lt sz181)
    have f183 := (((((f131.keep K129).keep K133).keep K135).keep K177).keep K179)
    have ne181_b107 : b107 ≠ b181 := Nat.ne_of_lt (Nat.lt_of_lt_of_le (f183).lt sz181)
    have ne181_b125 : b125 ≠ b181 := Nat.ne_of_lt (Nat.lt_of_lt_of_le (tp179.1).lt sz181)
    have ne181_bn129 : bn129 ≠ b181 := Nat.ne_of_lt (Nat.lt_of_lt_of_le (tp179.2.2.2.2.2.2.2).lt sz181)
    have ne181_br129 : br129 ≠ b181 := Nat.ne_of_lt (Nat.lt_of_lt_of_le (tp179.2.2.2.2.2.2.1).lt sz181)
    have f184 := (tp179.2.2.1.keep K181 nin0)
    have f185 := (tp179.2.2.2.2.2.2.1.keep K181 nin0)
    have O186 : Old Z n0 T181.heap := (O180.keep K181 all0)
    obtain ⟨cq187, kq187, q187a, q187b, q187c⟩ := isOf hZ rfl Ex181
    obtain ⟨_, _, ⟨T187, L187, k187, n187⟩, -, X187, ⟨Lc187, hQ187, l187, y187, z187⟩, st187⟩ := X181.virtualBack hx (y := (⟨"com/example/keyfold/keyfold/JsonValue", "kind", "()Lcom/example/keyfold/keyfold/JsonValue$Kind;"⟩ : MethodName)) (z := (⟨"com/example/keyfold/keyfold/JsonValue", "kind", "()Lcom/example/keyfold/keyfold/JsonValue$Kind;"⟩ : MethodName)) hown (mvT hZ (hw _ (List.mem_of_getElem? (i := 74) rfl))) (mvT hZ (hw _ (List.mem_of_getElem? (i := 75) rfl))) (notFace_of_selects (args := #[]) (mvT hZ (hw _ (List.mem_of_getElem? (i := 77) rfl)))) (mvT hZ (hw _ (List.mem_of_getElem? (i := 77) rfl))) (mvT hZ (hw _ (List.mem_of_getElem? (i := 76) rfl))) (by decide) (backOf (W := 0) (rmKd l Z a0 hw [] aK a_OBJECT a_ARRAY a_STRING a_NUMBER a_TRUE a_FALSE a_NULL b181 b125 br129 xs179 r0179 z105 z106 (2 : Int32) ak104 ((i3 &&& (2147483647 : Int32)) % (7 : Int32)) T181.heap n0 O186 En Ex181 F181_tape F181_index f184 f185 Rc179 Kn104 (own_k7 (own_r7 i3) hr0179)) hZ (hw _ (List.mem_of_getElem? (i := 78) rfl)) (hw _ (List.mem_of_getElem? (i := 62) rfl)) (by decide) (by decide)) q187a q187c (g := (mkF m 207 #[.val (.int i0), .val (.int i1), .val (.int i2), .val (.int i3), .val (.int z101), .val (.int z102), .val (.int z103), .val (.ref ak104), .val (.int z105), .val (.int z106), .val (.ref b107), .val (.ref b125), .val (.int (0 : Int32)), .val (.ref b181), .unset, .unset] [(.ref b181)])) rfl (by rw [hml]; rfl) (Steps.refl _) (argsL := []) (rest := []) (lenOf pd_15 rfl) rfl (by show 2 * 0 + _ ≤ _; exact Nat.le_of_eq rfl) (hb hby at_207) (fun _ _ => ⟨rfl, rfl, (by decide : 5 + 0 ≤ _), (by decide : 96 + 0 ≤ _)⟩)
    dsimp only [Pt.U, Pt.locs, Pt.cells, Pt.slots] at X187 l187 y187 z187 st187 hQ187
    subst l187 y187 z187
    obtain ⟨rfl, N187q, hh187⟩ := hQ187
    have N187 := Fr.app N181 N187q
    obtain ⟨cq188, kq188, q188a, q188b, q188c⟩ := isOf hZ hh187 Ex181
    obtain ⟨_, _, ⟨T188, L188, k188, n188⟩, -, X188, ⟨Lc188, hQ188, l188, y188, z188⟩, st188⟩ := X187.virtualBack hx (y := (⟨"com/example/keyfold/keyfold/JsonValue", "start", "()I"⟩ : MethodName)) (z := (⟨"com/example/keyfold/keyfold/JsonValue", "start", "()I"⟩ : MethodName)) hown (mvT hZ (hw _ (List.mem_of_getElem? (i := 92) rfl))) (mvT hZ (hw _ (List.mem_of_getElem? (i := 93) rfl))) (notFace_of_selects (args := #[]) (mvT hZ (hw _ (List.mem_of_getElem? (i := 95) rfl)))) (mvT hZ (hw _ (List.mem_of_getElem? (i := 95) rfl))) (mvT hZ (hw _ (List.mem_of_getElem? (i := 94) rfl))) (by decide) (backOf (W := 0) (rm_st l Z a0 hw [] aK a_OBJECT a_ARRAY a_STRING a_NUMBER a_TRUE a_FALSE a_NULL b181 b125 br129 xs179 r0179 z105 z106 (2 : Int32) T181.heap n0 O186 En Ex181 F181_tape F181_index f184 f185 Rc179) hZ (hw _ (List.mem_of_getElem? (i := 96) rfl)) (hw _ (List.mem_of_getElem? (i := 62) rfl)) (by decide) (by decide)) q188a q188c (g := (mkF m 217 #[.val (.int i0), .val (.int i1), .val (.int i2), .val (.int i3), .val (.int z101), .val (.int z102), .val (.int z103), .val (.ref ak104), .val (.int z105), .val (.int z106), .val (.ref b107), .val (.ref b125), .val (.int (0 : Int32)), .val (.ref b181), .unset, .unset] [(.ref b181)])) rfl (by rw [hml]; rfl) (Steps.refl _) (argsL := []) (rest := []) (lenOf pd_0 rfl) rfl (by show 2 * 0 + _ ≤ _; exact Nat.le_of_eq rfl) (hb hby at_217) (fun _ _ => ⟨rfl, hh187, (by decide : 5 + 0 ≤ _), (by decide : 96 + 0 ≤ _)⟩)
    dsimp only [Pt.U, Pt.locs, Pt.cells, Pt.slots] at X188 l188 y188 z188 st188 hQ188
    subst l188 y188 z188
    obtain ⟨rfl, N188q, hh188⟩ := hQ188
    have N188 := Fr.app N187 N188q
    obtain ⟨cq189, kq189, q189a, q189b, q189c⟩ := isOf hZ hh188 Ex181
    obtain ⟨_, _, ⟨T189, L189, k189, n189⟩, -, X189, ⟨Lc189, hQ189, l189, y189, z189⟩, st189⟩ := X188.virtualBack hx (y := (⟨"com/example/keyfold/keyfold/JsonValue", "end", "()I"⟩ : MethodName)) (z := (⟨"com/example/keyfold/keyfold/JsonValue", "end", "()I"⟩ : MethodName)) hown (mvT hZ (hw _ (List.mem_of_getElem? (i := 97) rfl))) (mvT hZ (hw _ (List.mem_of_getElem? (i := 98) rfl))) (notFace_of_selects (args := #[]) (mvT hZ (hw _ (List.mem_of_getElem? (i := 100) rfl)))) (mvT hZ (hw _ (List.mem_of_getElem? (i := 100) rfl))) (mvT hZ (hw _ (List.mem_of_getElem? (i := 99) rfl))) (by decide) (backOf (W := 0) (rm_en l Z a0 hw [] aK a_OBJECT a_ARRAY a_STRING a_NUMBER a_TRUE a_FALSE a_NULL b181 b125 br129 xs179 r0179 z105 z106 (2 : Int32) T181.heap n0 O186 En Ex181 F181_tape F181_index f184 f185 Rc179) hZ (hw _ (List.mem_of_getElem? (i := 101) rfl)) (hw _ (List.mem_of_getElem? (i := 62) rfl)) (by decide) (by decide)) q189a q189c (g := (mkF m 227 #[.val (.int i0), .val (.int i1), .val (.int i2), .val (.int i3), .val (.int z101), .val (.int z102), .val (.int z103), .val (.ref ak104), .val (.int z105), .val (.int z106), .val (.ref b107), .val (.ref b125), .val (.int (0 : Int32)), .val (.ref b181), .unset, .unset] [(.ref b181)])) rfl (by rw [hml]; rfl) (Steps.refl _) (argsL := []) (rest := []) (lenOf pd_0 rfl) rfl (by show 2 * 0 + _ ≤ _; exact Nat.le_of_eq rfl) (hb hby at_227) (fun _ _ => ⟨rfl, hh188, (by decide : 5 + 0 ≤ _), (by decide : 96 + 0 ≤ _)⟩)
    dsimp only [Pt.U, Pt.locs, Pt.cells, Pt.slots] at X189 l189 y189 z189 st189 hQ189
    subst l189 y189 z189
    obtain ⟨rfl, N189q, hh189⟩ := hQ189
    have N189 := Fr.app N188 N189q
    obtain ⟨cq190, kq190, q190a, q190b, q190c⟩ := isOf hZ hh189 Ex181
    obtain ⟨_, _, ⟨T190, L190, k190, n190⟩, -, X190, ⟨Lc190, hQ190, l190, y190, z190⟩, st190⟩ := X189.virtualBack hx (y := (⟨"com/example/keyfold/keyfold/JsonValue", "firstMember", "()I"⟩ : MethodName)) (z := (⟨"com/example/keyfold/keyfold/JsonValue", "firstMember", "()I"⟩ : MethodName)) hown (mvT hZ (hw _ (List.mem_of_getElem? (i := 102) rfl))) (mvT hZ (hw _ (List.mem_of_getElem? (i := 103) rfl))) (notFace_of_selects (args := #[]) (mvT hZ (hw _ (List.mem_of_getElem? (i := 105) rfl)))) (mvT hZ (hw _ (List.mem_of_getElem? (i := 105) rfl))) (mvT hZ (hw _ (List.mem_of_getElem? (i := 104) rfl))) (by decide) (backOf (W := 0) (rm_fm2 l Z a0 hw [] aK a_OBJECT a_ARRAY a_STRING a_NUMBER a_TRUE a_FALSE a_NULL b181 b125 br129 xs179 r0179 z105 z106 T181.heap n0 O186 En Ex181 F181_tape F181_index f184 f185 Rc179) hZ (hw _ (List.mem_of_getElem? (i := 106) rfl)) (hw _ (List.mem_of_getElem? (i := 62) rfl)) (by decide) (by decide)) q190a q190c (g := (mkF m 237 #[.val (.int i0), .val (.int i1), .val (.int i2), .val (.int i3), .val (.int z101), .val (.int z102), .val (.int z103), .val (.ref ak104), .val (.int z105), .val (.int z106), .val (.ref b107), .val (.ref b125), .val (.int (0 : Int32)), .val (.ref b181), .unset, .unset] [(.ref b181)])) rfl (by rw [hml]; rfl) (Steps.refl _) (argsL := []) (rest := []) (lenOf pd_0 rfl) rfl (by show 2 * 0 + _ ≤ _; exact Nat.le_of_eq rfl) (hb hby at_237) (fun _ _ => ⟨rfl, hh189, (by decide : 5 + 0 ≤ _), (by decide : 96 + 0 ≤ _)⟩)
    dsimp only [Pt.U, Pt.locs, Pt.cells, Pt.slots] at X190 l190 y190 z190 st190 hQ190
    subst l190 y190 z190
    obtain ⟨rfl, N190q, hh190⟩ := hQ190
    have N190 := Fr.app N189 N190q
    have pre191 : ∀ t, Steps p.tables e below (T190.setTop (mkF m 268 #[.val (.int i0), .val (.int i1), .val (.int i2), .val (.int i3), .val (.int z101), .val (.int z102), .val (.int z103), .val (.ref ak104), .val (.int z105), .val (.int z106), .val (.ref b107), .val (.ref b125), .val (.int (0 : Int32)), .val (.ref b181), .val (.int (1 : Int32)), .unset] [(.int z105), (.int (0 : Int32))])) t → Steps p.tables e below (s₁.setTop (entryFrame m #[(.int i0), (.int i1), (.int i2), (.int i3)] maxLocals)) t := fun t kt => pre136 t (by
        show Steps p.tables e below (T135.setTop (mkF m 168 #[.val (.int i0), .val (.int i1), .val (.int i2), .val (.int i3), .val (.int z101), .val (.int z102), .val (.int z103), .val (.ref ak104), .val (.int z105), .val (.int z106), .val (.ref b107), .val (.ref b125), .val (.int (0 : Int32)), .unset, .unset, .unset] [(.int z102)])) _
        refine XS.ifNo X135.here hx rfl (hb hby at_168) rfl ((if0 _ _).trans (feq hc137).1) ?_
        show Steps p.tables e below (T135.setTop (mkF m 171 #[.val (.int i0), .val (.int i1), .val (.int i2), .val (.int i3), .val (.int z101), .val (.int z102), .val (.int z103), .val (.ref ak104), .val (.int z105), .val (.int z106), .val (.ref b107), .val (.ref b125), .val (.int (0 : Int32)), .unset, .unset, .unset] [])) _
        refine XS.aload X135.here hx rfl (hb hby at_171) rfl rfl ?_
        show Steps p.tables e below (T135.setTop (mkF m 173 #[.val (.int i0), .val (.int i1), .val (.int i2), .val (.int i3), .val (.int z101), .val (.int z102), .val (.int z103), .val (.ref ak104), .val (.int z105), .val (.int z106), .val (.ref b107), .val (.ref b125), .val (.int (0 : Int32)), .unset, .unset, .unset] [(.ref b125)])) _
        refine st176 _ ?_
        show Steps p.tables e below (T176.setTop (mkF m 176 #[.val (.int i0), .val (.int i1), .val (.int i2), .val (.int i3), .val (.int z101), .val (.int z102), .val (.int z103), .val (.ref ak104), .val (.int z105), .val (.int z106), .val (.ref b107), .val (.ref b125), .val (.int (0 : Int32)), .unset, .unset, .unset] [(.ref a_NUMBER), (.ref b125)])) _
        refine XS.iconst X176.here hx rfl (hb hby at_176) ?_
        show Steps p.tables e below (T176.setTop (mkF m 177 #[.val (.int i0), .val (.int i1), .val (.int i2), .val (.int i3), .val (.int z101), .val (.int z102), .val (.int z103), .val (.ref ak104), .val (.int z105), .val (.int z106), .val (.ref b107), .val (.ref b125), .val (.int (0 : Int32)), .unset, .unset, .unset] [(.int (0 : Int32)), (.ref a_NUMBER), (.ref b125)])) _
        refine XS.aconstNull X176.here hx rfl (hb hby at_177) ?_
        show Steps p.tables e below (T176.setTop (mkF m 178 #[.val (.int i0), .val (.int i1), .val (.int i2), .val (.int i3), .val (.int z101), .val (.int z102), .val (.int z103), .val (.ref ak104), .val (.int z105), .val (.int z106), .val (.ref b107), .val (.ref b125), .val (.int (0 : Int32)), .unset, .unset, .unset] [.null, (.int (0 : Int32)), (.ref a_NUMBER), (.ref b125)])) _
        refine st177.trans ?_
        show Steps p.tables e below (T177.setTop (mkF m 181 #[.val (.int i0), .val (.int i1), .val (.int i2), .val (.int i3), .val (.int z101), .val (.int z102), .val (.int z103), .val (.ref ak104), .val (.int z105), .val (.int z106), .val (.ref b107), .val (.ref b125), .val (.int (0 : Int32)), .unset, .unset, .unset] [(.int (1 : Int32))])) _
        refine XS.pop X177.here hx rfl (hb hby at_181) rfl rfl ?_
        show Steps p.tables e below (T177.setTop (mkF m 182 #[.val (.int i0), .val (.int i1), .val (.int i2), .val (.int i3), .val (.int z101), .val (.int z102), .val (.int z103), .val (.ref ak104), .val (.int z105), .val (.int z106), .val (.ref b107), .val (.ref b125), .val (.int (0 : Int32)), .unset, .unset, .unset] [])) _
        refine XS.aload X177.here hx rfl (hb hby at_182) rfl rfl ?_
        show Steps p.tables e below (T177.setTop (mkF m 184 #[.val (.int i0), .val (.int i1), .val (.int i2), .val (.int i3), .val (.int z101), .val (.int z102), .val (.int z103), .val (.ref ak104), .val (.int z105), .val (.int z106), .val (.ref b107), .val (.ref b125), .val (.int (0 : Int32)), .unset, .unset, .unset] [(.ref b125)])) _
        refine XS.iload X177.here hx rfl (hb hby at_184) rfl ?_
        show Steps p.tables e below (T177.setTop (mkF m 186 #[.val (.int i0), .val (.int i1), .val (.int i2), .val (.int i3), .val (.int z101), .val (.int z102), .val (.int z103), .val (.ref ak104), .val (.int z105), .val (.int z106), .val (.ref b107), .val (.ref b125), .val (.int (0 : Int32)), .unset, .unset, .unset] [(.int (0 : Int32)), (.ref b125)])) _
        refine XS.iload X177.here hx rfl (hb hby at_186) rfl ?_
        show Steps p.tables e below (T177.setTop (mkF m 188 #[.val (.int i0), .val (.int i1), .val (.int i2), .val (.int i3), .val (.int z101), .val (.int z102), .val (.int z103), .val (.ref ak104), .val (.int z105), .val (.int z106), .val (.ref b107), .val (.ref b125), .val (.int (0 : Int32)), .unset, .unset, .unset] [(.int z106), (.int (0 : Int32)), (.ref b125)])) _
        refine XS.iload X177.here hx rfl (hb hby at_188) rfl ?_
        show Steps p.tables e below (T177.setTop (mkF m 190 #[.val (.int i0), .val (.int i1), .val (.int i2), .val (.int i3), .val (.int z101), .val (.int z102), .val (.int z103), .val (.ref ak104), .val (.int z105), .val (.int z106), .val (.ref b107), .val (.ref b125), .val (.int (0 : Int32)), .unset, .unset, .unset] [(.int z101), (.int z106), (.int (0 : Int32)), (.ref b125)])) _
        refine st179.trans ?_
        show Steps p.tables e below (T179.setTop (mkF m 193 #[.val (.int i0), .val (.int i1), .val (.int i2), .val (.int i3), .val (.int z101), .val (.int z102), .val (.int z103), .val (.ref ak104), .val (.int z105), .val (.int z106), .val (.ref b107), .val (.ref b125), .val (.int (0 : Int32)), .unset, .unset, .unset] [])) _
        refine XS.aload X179.here hx rfl (hb hby at_193) rfl rfl ?_
        show Steps p.tables e below (T179.setTop (mkF m 195 #[.val (.int i0), .val (.int i1), .val (.int i2), .val (.int i3), .val (.int z101), .val (.int z102), .val (.int z103), .val (.ref ak104), .val (.int z105), .val (.int z106), .val (.ref b107), .val (.ref b125), .val (.int (0 : Int32)), .unset, .unset, .unset] [(.ref b125)])) _
        refine st181.trans ?_
        show Steps p.tables e below (T181.setTop (mkF m 198 #[.val (.int i0), .val (.int i1), .val (.int i2), .val (.int i3), .val (.int z101), .val (.int z102), .val (.int z103), .val (.ref ak104), .val (.int z105), .val (.int z106), .val (.ref b107), .val (.ref b125), .val (.int (0 : Int32)), .unset, .unset, .unset] [(.ref b181)])) _
        refine XS.astore X181.here hx rfl (hb hby at_198) rfl rfl (l' := #[.val (.int i0), .val (.int i1), .val (.int i2), .val (.int i3), .val (.int z101), .val (.int z102), .val (.int z103), .val (.ref ak104), .val (.int z105), .val (.int z106), .val (.ref b107), .val (.ref b125), .val (.int (0 : Int32)), .val (.ref b181), .unset, .unset]) rfl ?_
        show Steps p.tables e below (T181.setTop (mkF m 200 #[.val (.int i0), .val (.int i1), .val (.int i2), .val (.int i3), .val (.int z101), .val (.int z102), .val (.int z103), .val (.ref ak104), .val (.int z105), .val (.int z106), .val (.ref b107), .val (.ref b125), .val (.int (0 : Int32)), .val (.ref b181), .unset, .unset] [])) _
        refine XS.iload X181.here hx rfl (hb hby at_200) rfl ?_
        show Steps p.tables e below (T181.setTop (mkF m 202 #[.val (.int i0), .val (.int i1), .val (.int i2), .val (.int i3), .val (.int z101), .val (.int z102), .val (.int z103), .val (.ref ak104), .val (.int z105), .val (.int z106), .val (.ref b107), .val (.ref b125), .val (.int (0 : Int32)), .val (.ref b181), .unset, .unset] [(.int (0 : Int32))])) _
        refine XS.ifNo X181.here hx rfl (hb hby at_202) rfl (by decide) ?_
        show Steps p.tables e below (T181.setTop (mkF m 205 #[.val (.int i0), .val (.int i1), .val (.int i2), .val (.int i3), .val (.int z101), .val (.int z102), .val (.int z103), .val (.ref ak104), .val (.int z105), .val (.int z106), .val (.ref b107), .val (.ref b125), .val (.int (0 : Int32)), .val (.ref b181), .unset, .unset] [])) _
        refine XS.aload X181.here hx rfl (hb hby at_205) rfl rfl ?_
        show Steps p.tables e below (T181.setTop (mkF m 207 #[.val (.int i0), .val (.int i1), .val (.int i2), .val (.int i3), .val (.int z101), .val (.int z102), .val (.int z103), .val (.ref ak104), .val (.int z105), .val (.int z106), .val (.ref b107), .val (.ref b125), .val (.int (0 : Int32)), .val (.ref b181), .unset, .unset] [(.ref b181)])) _
        refine st187.trans ?_
        show Steps p.tables e below (T187.setTop (mkF m 210 #[.val (.int i0), .val (.int i1), .val (.int i2), .val (.int i3), .val (.int z101), .val (.int z102), .val (.int z103), .val (.ref ak104), .val (.int z105), .val (.int z106), .val (.ref b107), .val (.ref b125), .val (.int (0 : Int32)), .val (.ref b181), .unset, .unset] [(.ref ak104)])) _
        refine XS.aload X187.here hx rfl (hb hby at_210) rfl rfl ?_
        show Steps p.tables e below (T187.setTop (mkF m 212 #[.val (.int i0), .val (.int i1), .val (.int i2), .val (.int i3), .val (.int z101), .val (.int z102), .val (.int z103), .val (.ref ak104), .val (.int z105), .val (.int z106), .val (.ref b107), .val (.ref b125), .val (.int (0 : Int32)), .val (.ref b181), .unset, .unset] [(.ref ak104), (.ref ak104)])) _
        refine Jvm.RoadKit.acmp (g := (mkF m 212 #[.val (.int i0), .val (.int i1), .val (.int i2), .val (.int i3), .val (.int z101), .val (.int z102), .val (.int z103), .val (.ref ak104), .val (.int z105), .val (.int z106), .val (.ref b107), .val (.ref b125), .val (.int (0 : Int32)), .val (.ref b181), .unset, .unset] [(.ref ak104), (.ref ak104)])) X187 hx rfl rfl rfl (pc0 := 212) (pc' := 215) (same := true) rfl (hb hby at_212) rfl (decide_eq_true rfl) (by decide) (by decide) ?_
        show Steps p.tables e below (T187.setTop (mkF m 215 #[.val (.int i0), .val (.int i1), .val (.int i2), .val (.int i3), .val (.int z101), .val (.int z102), .val (.int z103), .val (.ref ak104), .val (.int z105), .val (.int z106), .val (.ref b107), .val (.ref b125), .val (.int (0 : Int32)), .val (.ref b181), .unset, .unset] [])) _
        refine XS.aload X187.here hx rfl (hb hby at_215) rfl rfl ?_
        show Steps p.tables e below (T187.setTop (mkF m 217 #[.val (.int i0), .val (.int i1), .val (.int i2), .val (.int i3), .val (.int z101), .val (.int z102), .val (.int z103), .val (.ref ak104), .val (.int z105), .val (.int z106), .val (.ref b107), .val (.ref b125), .val (.int (0 : Int32)), .val (.ref b181), .unset, .unset] [(.ref b181)])) _
        refine st188.trans ?_
        show Steps p.tables e below (T188.setTop (mkF m 220 #[.val (.int i0), .val (.int i1), .val (.int i2), .val (.int i3), .val (.int z101), .val (.int z102), .val (.int z103), .val (.ref ak104), .val (.int z105), .val (.int z106), .val (.ref b107), .val (.ref b125), .val (.int (0 : Int32)), .val (.ref b181), .unset, .unset] [(.int z105)])) _
        refine XS.iload X188.here hx rfl (hb hby at_220) rfl ?_
        show Steps p.tables e below (T188.setTop (mkF m 222 #[.val (.int i0), .val (.int i1), .val (.int i2), .val (.int i3), .val (.int z101), .val (.int z102), .val (.int z103), .val (.ref ak104), .val (.int z105), .val (.int z106), .val (.ref b107), .val (.ref b125), .val (.int (0 : Int32)), .val (.ref b181), .unset, .unset] [(.int z105), (.int z105)])) _
        refine XS.icmpNo X188.here hx rfl (hb hby at_222) rfl (teq rfl).2 ?_
        show Steps p.tables e below (T188.setTop (mkF m 225 #[.val (.int i0), .val (.int i1), .val (.int i2), .val (.int i3), .val (.int z101), .val (.int z102), .val (.int z103), .val (.ref ak104), .val (.int z105), .val (.int z106), .val (.ref b107), .val (.ref b125), .val (.int (0 : Int32)), .val (.ref b181), .unset, .unset] [])) _
        refine XS.aload X188.here hx rfl (hb hby at_225) rfl rfl ?_
        show Steps p.tables e below (T188.setTop (mkF m 227 #[.val (.int i0), .val (.int i1), .val (.int i2), .val (.int i3), .val (.int z101), .val (.int z102), .val (.int z103), .val (.ref ak104), .val (.int z105), .val (.int z106), .val (.ref b107), .val (.ref b125), .val (.int (0 : Int32)), .val (.ref b181), .unset, .unset] [(.ref b181)])) _
        refine st189.trans ?_
        show Steps p.tables e below (T189.setTop (mkF m 230 #[.val (.int i0), .val (.int i1), .val (.int i2), .val (.int i3), .val (.int z101), .val (.int z102), .val (.int z103), .val (.ref ak104), .val (.int z105), .val (.int z106), .val (.ref b107), .val (.ref b125), .val (.int (0 : Int32)), .val (.ref b181), .unset, .unset] [(.int z106)])) _
        refine XS.iload X189.here hx rfl (hb hby at_230) rfl ?_
        show Steps p.tables e below (T189.setTop (mkF m 232 #[.val (.int i0), .val (.int i1), .val (.int i2), .val (.int i3), .val (.int z101), .val (.int z102), .val (.int z103), .val (.ref ak104), .val (.int z105), .val (.int z106), .val (.ref b107), .val (.ref b125), .val (.int (0 : Int32)), .val (.ref b181), .unset, .unset] [(.int z106), (.int z106)])) _
        refine XS.icmpNo X189.here hx rfl (hb hby at_232) rfl (teq rfl).2 ?_
        show Steps p.tables e below (T189.setTop (mkF m 235 #[.val (.int i0), .val (.int i1), .val (.int i2), .val (.int i3), .val (.int z101), .val (.int z102), .val (.int z103), .val (.ref ak104), .val (.int z105), .val (.int z106), .val (.ref b107), .val (.ref b125), .val (.int (0 : Int32)), .val (.ref b181), .unset, .unset] [])) _
        refine XS.aload X189.here hx rfl (hb hby at_235) rfl rfl ?_
        show Steps p.tables e below (T189.setTop (mkF m 237 #[.val (.int i0), .val (.int i1), .val (.int i2), .val (.int i3), .val (.int z101), .val (.int z102), .val (.int z103), .val (.ref ak104), .val (.int z105), .val (.int z106), .val (.ref b107), .val (.ref b125), .val (.int (0 : Int32)), .val (.ref b181), .unset, .unset] [(.ref b181)])) _
        refine st190.trans ?_
        show Steps p.tables e below (T190.setTop (mkF m 240 #[.val (.int i0), .val (.int i1), .val (.int i2), .val (.int i3), .val (.int z101), .val (.int z102), .val (.int z103), .val (.ref ak104), .val (.int z105), .val (.int z106), .val (.ref b107), .val (.ref b125), .val (.int (0 : Int32)), .val (.ref b181), .unset, .unset] [(.int (1 : Int32))])) _
        refine XS.iload X190.here hx rfl (hb hby at_240) rfl ?_
        show Steps p.tables e below (T190.setTop (mkF m 242 #[.val (.int i0), .val (.int i1), .val (.int i2), .val (.int i3), .val (.int z101), .val (.int z102), .val (.int z103), .val (.ref ak104), .val (.int z105), .val (.int z106), .val (.ref b107), .val (.ref b125), .val (.int (0 : Int32)), .val (.ref b181), .unset, .unset] [(.int z102), (.int (1 : Int32))])) _
        refine XS.ifNo X190.here hx rfl (hb hby at_242) rfl ((if0 _ _).trans (feq hc137).1) ?_
        show Steps p.tables e below (T190.setTop (mkF m 245 #[.val (.int i0), .val (.int i1), .val (.int i2), .val (.int i3), .val (.int z101), .val (.int z102), .val (.int z103), .val (.ref ak104), .val (.int z105), .val (.int z106), .val (.ref b107), .val (.ref b125), .val (.int (0 : Int32)), .val (.ref b181), .unset, .unset] [(.int (1 : Int32))])) _
        refine XS.iconst X190.here hx rfl (hb hby at_245) ?_
        show Steps p.tables e below (T190.setTop (mkF m 246 #[.val (.int i0), .val (.int i1), .val (.int i2), .val (.int i3), .val (.int z101), .val (.int z102), .val (.int z103), .val (.ref ak104), .val (.int z105), .val (.int z106), .val (.ref b107), .val (.ref b125), .val (.int (0 : Int32)), .val (.ref b181), .unset, .unset] [(.int (1 : Int32)), (.int (1 : Int32))])) _
        refine XS.goto X190.here hx rfl (pc0 := 246) (pc' := 250) rfl (hb hby at_246) (by decide) (by decide) ?_
        show Steps p.tables e below (T190.setTop (mkF m 250 #[.val (.int i0), .val (.int i1), .val (.int i2), .val (.int i3), .val (.int z101), .val (.int z102), .val (.int z103), .val (.ref ak104), .val (.int z105), .val (.int z106), .val (.ref b107), .val (.ref b125), .val (.int (0 : Int32)), .val (.ref b181), .unset, .unset] [(.int (1 : Int32)), (.int (1 : Int32))])) _
        refine XS.icmpNo X190.here hx rfl (hb hby at_250) rfl (by decide) ?_
        show Steps p.tables e below (T190.setTop (mkF m 253 #[.val (.int i0), .val (.int i1), .val (.int i2), .val (.int i3), .val (.int z101), .val (.int z102), .val (.int z103), .val (.ref ak104), .val (.int z105), .val (.int z106), .val (.ref b107), .val (.ref b125), .val (.int (0 : Int32)), .val (.ref b181), .unset, .unset] [])) _
        refine XS.iconst X190.here hx rfl (hb hby at_253) ?_
        show Steps p.tables e below (T190.setTop (mkF m 254 #[.val (.int i0), .val (.int i1), .val (.int i2), .val (.int i3), .val (.int z101), .val (.int z102), .val (.int z103), .val (.ref ak104), .val (.int z105), .val (.int z106), .val (.ref b107), .val (.ref b125), .val (.int (0 : Int32)), .val (.ref b181), .unset, .unset] [(.int (1 : Int32))])) _
        refine XS.goto X190.here hx rfl (pc0 := 254) (pc' := 258) rfl (hb hby at_254) (by decide) (by decide) ?_
        show Steps p.tables e below (T190.setTop (mkF m 258 #[.val (.int i0), .val (.int i1), .val (.int i2), .val (.int i3), .val (.int z101), .val (.int z102), .val (.int z103), .val (.ref ak104), .val (.int z105), .val (.int z106), .val (.ref b107), .val (.ref b125), .val (.int (0 : Int32)), .val (.ref b181), .unset, .unset] [(.int (1 : Int32))])) _
        refine XS.istore X190.here hx rfl (hb hby at_258) rfl (l' := #[.val (.int i0), .val (.int i1), .val (.int i2), .val (.int i3), .val (.int z101), .val (.int z102), .val (.int z103), .val (.ref ak104), .val (.int z105), .val (.int z106), .val (.ref b107), .val (.ref b125), .val (.int (0 : Int32)), .val (.ref b181), .val (.int (1 : Int32)), .unset]) rfl ?_
        show Steps p.tables e below (T190.setTop (mkF m 260 #[.val (.int i0), .val (.int i1), .val (.int i2), .val (.int i3), .val (.int z101), .val (.int z102), .val (.int z103), .val (.ref ak104), .val (.int z105), .val (.int z106), .val (.ref b107), .val (.ref b125), .val (.int (0 : Int32)), .val (.ref b181), .val (.int (1 : Int32)), .unset] [])) _
        refine XS.iload X190.here hx rfl (hb hby at_260) rfl ?_
        show Steps p.tables e below (T190.setTop (mkF m 262 #[.val (.int i0), .val (.int i1), .val (.int i2), .val (.int i3), .val (.int z101), .val (.int z102), .val (.int z103), .val (.ref ak104), .val (.int z105), .val (.int z106), .val (.ref b107), .val (.ref b125), .val (.int (0 : Int32)), .val (.ref b181), .val (.int (1 : Int32)), .unset] [(.int (1 : Int32))])) _
        refine XS.ifNo X190.here hx rfl (hb hby at_262) rfl (by decide) ?_
        show Steps p.tables e below (T190.setTop (mkF m 265 #[.val (.int i0), .val (.int i1), .val (.int i2), .val (.int i3), .val (.int z101), .val (.int z102), .val (.int z103), .val (.ref ak104), .val (.int z105), .val (.int z106), .val (.ref b107), .val (.ref b125), .val (.int (0 : Int32)), .val (.ref b181), .val (.int (1 : Int32)), .unset] [])) _
        refine XS.iconst X190.here hx rfl (hb hby at_265) ?_
        show Steps p.tables e below (T190.setTop (mkF m 266 #[.val (.int i0), .val (.int i1), .val (.int i2), .val (.int i3), .val (.int z101), .val (.int z102), .val (.int z103), .val (.ref ak104), .val (.int z105), .val (.int z106), .val (.ref b107), .val (.ref b125), .val (.int (0 : Int32)), .val (.ref b181), .val (.int (1 : Int32)), .unset] [(.int (0 : Int32))])) _
        refine XS.iload X190.here hx rfl (hb hby at_266) rfl ?_
        exact kt)
    by_cases hc192 : z105 < (0 : Int32)
    · skip
      obtain ⟨fs, hr, hrun, hended, hW, hsame⟩ := X190.leave (v := some (.int (1 : Int32))) (fun h => by rw [Bd.returns] at h; cases h)
      refine ⟨_, _, pre191 _ ?_, hrun, hended, _, _, rfl, ?_, ⟨_, rfl⟩, hW, hsame.mono (by decide) (by decide)⟩
      · skip
        show Steps p.tables e below (T190.setTop (mkF m 268 #[.val (.int i0), .val (.int i1), .val (.int i2), .val (.int i3), .val (.int z101), .val (.int z102), .val (.int z103), .val (.ref ak104), .val (.int z105), .val (.int z106), .val (.ref b107), .val (.ref b125), .val (.int (0 : Int32)), .val (.ref b181), .val (.int (1 : Int32)), .unset] [(.int z105), (.int (0 : Int32))])) _
        refine XS.icmpYes X190.here hx rfl (pc0 := 268) (pc' := 331) rfl (hb hby at_268) rfl (tlt hc192).2.2.1 (by decide) (by decide) ?_
        show Steps p.tables e below (T190.setTop (mkF m 331 #[.val (.int i0), .val (.int i1), .val (.int i2), .val (.int i3), .val (.int z101), .val (.int z102), .val (.int z103), .val (.ref ak104), .val (.int z105), .val (.int z106), .val (.ref b107), .val (.ref b125), .val (.int (0 : Int32)), .val (.ref b181), .val (.int (1 : Int32)), .unset] [])) _
        refine XS.iload X190.here hx rfl (hb hby at_331) rfl ?_
        show Steps p.tables e below (T190.setTop (mkF m 333 #[.val (.int i0), .val (.int i1), .val (.int i2), .val (.int i3), .val (.int z101), .val (.int z102), .val (.int z103), .val (.ref ak104), .val (.int z105), .val (.int z106), .val (.ref b107), .val (.ref b125), .val (.int (0 : Int32)), .val (.ref b181), .val (.int (1 : Int32)), .unset] [(.int (1 : Int32))])) _
        exact retN X190 hx (t := .boolean) Bd.returns (by simp) (hb hby at_333) hr
      · show QL n0 _ T190.heap _
        rw [hh190]
        exact ⟨rfl, N190⟩
    · skip
      have pre193 : ∀ t, Steps p.tables e below (T190.setTop (mkF m 275 #[.val (.int i0), .val (.int i1), .val (.int i2), .val (.int i3), .val (.int z101), .val (.int z102), .val (.int z103), .val (.ref ak104), .val (.int z105), .val (.int z106), .val (.ref b107), .val (.ref b125), .val (.int (0 : Int32)), .val (.ref b181), .val (.int (1 : Int32)), .unset] [(.int z106), (.int z105)])) t → Steps p.tables e below (s₁.setTop (entryFrame m #[(.int i0), (.int i1), (.int i2), (.int i3)] maxLocals)) t := fun t kt => pre191 t (by
          show Steps p.tables e below (T190.setTop (mkF m 268 #[.val (.int i0), .val (.int i1), .val (.int i2), .val (.int i3), .val (.int z101), .val (.int z102), .val (.int z103), .val (.ref ak104), .val (.int z105), .val (.int z106), .val (.ref b107), .val (.ref b125), .val (.int (0 : Int32)), .val (.ref b181), .val (.int (1 : Int32)), .unset] [(.int z105), (.int (0 : Int32))])) _
          refine XS.icmpNo X190.here hx rfl (hb hby at_268) rfl (flt hc192).2.2.1 ?_
          show Steps p.tables e below (T190.setTop (mkF m 271 #[.val (.int i0), .val (.int i1), .val (.int i2), .val (.int i3), .val (.int z101), .val (.int z102), .val (.int z103), .val (.ref ak104), .val (.int z105), .val (.int z106), .val (.ref b107), .val (.ref b125), .val (.int (0 : Int32)), .val (.ref b181), .val (.int (1 : Int32)), .unset] [])) _
          refine XS.iload X190.here hx rfl (hb hby at_271) rfl ?_
          show Steps p.tables e below (T190.setTop (mkF m 273 #[.val (.int i0), .val (.int i1), .val (.int i2), .val (.int i3), .val (.int z101), .val (.int z102), .val (.int z103), .val (.ref ak104), .val (.int z105), .val (.int z106), .val (.ref b107), .val (.ref b125), .val (.int (0 : Int32)), .val (.ref b181), .val (.int (1 : Int32)), .unset] [(.int z105)])) _
          refine XS.iload X190.here hx rfl (hb hby at_273) rfl ?_
          exact kt)
      by_cases hc194 : z106 < z105
      · skip
        obtain ⟨fs, hr, hrun, hended, hW, hsame⟩ := X190.leave (v := some (.int (1 : Int32))) (fun h => by rw [Bd.returns] at h; cases h)
        refine ⟨_, _, pre193 _ ?_, hrun, hended, _, _, rfl, ?_, ⟨_, rfl⟩, hW, hsame.mono (by decide) (by decide)⟩
        · skip
          show Steps p.tables e below (T190.setTop (mkF m 275 #[.val (.int i0), .val (.int i1), .val (.int i2), .val (.int i3), .val (.int z101), .val (.int z102), .val (.int z103), .val (.ref ak104), .val (.int z105), .val (.int z106), .val (.ref b107), .val (.ref b125), .val (.int (0 : Int32)), .val (.ref b181), .val (.int (1 : Int32)), .unset] [(.int z106), (.int z105)])) _
          refine XS.icmpYes X190.here hx rfl (pc0 := 275) (pc' := 331) rfl (hb hby at_275) rfl (tlt hc194).2.2.1 (by decide) (by decide) ?_
          show Steps p.tables e below (T190.setTop (mkF m 331 #[.val (.int i0), .val (.int i1), .val (.int i2), .val (.int i3), .val (.int z101), .val (.int z102), .val (.int z103), .val (.ref ak104), .val (.int z105), .val (.int z106), .val (.ref b107), .val (.ref b125), .val (.int (0 : Int32)), .val (.ref b181), .val (.int (1 : Int32)), .unset] [])) _
          refine XS.iload X190.here hx rfl (hb hby at_331) rfl ?_
          show Steps p.tables e below (T190.setTop (mkF m 333 #[.val (.int i0), .val (.int i1), .val (.int i2), .val (.int i3), .val (.int z101), .val (.int z102), .val (.int z103), .val (.ref ak104), .val (.int z105), .val (.int z106), .val (.ref b107), .val (.ref b125), .val (.int (0 : Int32)), .val (.ref b181), .val (.int (1 : Int32)), .unset] [(.int (1 : Int32))])) _
          exact retN X190 hx (t := .boolean) Bd.returns (by simp) (hb hby at_333) hr
        · show QL n0 _ T190.heap _
          rw [hh190]
          exact ⟨rfl, N190⟩
      · skip
        have pre195 : ∀ t, Steps p.tables e below (T190.setTop (mkF m 282 #[.val (.int i0), .val (.int i1), .val (.int i2), .val (.int i3), .val (.int z101), .val (.int z102), .val (.int z103), .val (.ref ak104), .val (.int z105), .val (.int z106), .val (.ref b107), .val (.ref b125), .val (.int (0 : Int32)), .val (.ref b181), .val (.int (1 : Int32)), .unset] [(.int (8 : Int32)), (.int z106)])) t → Steps p.tables e below (s₁.setTop (entryFrame m #[(.int i0), (.int i1), (.int i2), (.int i3)] maxLocals)) t := fun t kt => pre193 t (by
            show Steps p.tables e below (T190.setTop (mkF m 275 #[.val (.int i0), .val (.int i1), .val (.int i2), .val (.int i3), .val (.int z101), .val (.int z102), .val (.int z103), .val (.ref ak104), .val (.int z105), .val (.int z106), .val (.ref b107), .val (.ref b125), .val (.int (0 : Int32)), .val (.ref b181), .val (.int (1 : Int32)), .unset] [(.int z106), (.int z105)])) _
            refine XS.icmpNo X190.here hx rfl (hb hby at_275) rfl (flt hc194).2.2.1 ?_
            show Steps p.tables e below (T190.setTop (mkF m 278 #[.val (.int i0), .val (.int i1), .val (.int i2), .val (.int i3), .val (.int z101), .val (.int z102), .val (.int z103), .val (.ref ak104), .val (.int z105), .val (.int z106), .val (.ref b107), .val (.ref b125), .val (.int (0 : Int32)), .val (.ref b181), .val (.int (1 : Int32)), .unset] [])) _
            refine XS.iload X190.here hx rfl (hb hby at_278) rfl ?_
            show Steps p.tables e below (T190.setTop (mkF m 280 #[.val (.int i0), .val (.int i1), .val (.int i2), .val (.int i3), .val (.int z101), .val (.int z102), .val (.int z103), .val (.ref ak104), .val (.int z105), .val (.int z106), .val (.ref b107), .val (.ref b125), .val (.int (0 : Int32)), .val (.ref b181), .val (.int (1 : Int32)), .unset] [(.int z106)])) _
            refine XS.bipush X190.here hx rfl (hb hby at_280) ?_
            exact kt)
        by_cases hc196 : (8 : Int32) < z106
        · skip
          obtain ⟨fs, hr, hrun, hended, hW, hsame⟩ := X190.leave (v := some (.int (1 : Int32))) (fun h => by rw [Bd.returns] at h; cases h)
          refine ⟨_, _, pre195 _ ?_, hrun, hended, _, _, rfl, ?_, ⟨_, rfl⟩, hW, hsame.mono (by decide) (by decide)⟩
          · skip
            show Steps p.tables e below (T190.setTop (mkF m 282 #[.val (.int i0), .val (.int i1), .val (.int i2), .val (.int i3), .val (.int z101), .val (.int z102), .val (.int z103), .val (.ref ak104), .val (.int z105), .val (.int z106), .val (.ref b107), .val (.ref b125), .val (.int (0 : Int32)), .val (.ref b181), .val (.int (1 : Int32)), .unset] [(.int (8 : Int32)), (.int z106)])) _
            refine XS.icmpYes X190.here hx rfl (pc0 := 282) (pc' := 331) rfl (hb hby at_282) rfl (tlt hc196).2.2.1 (by decide) (by decide) ?_
            show Steps p.tables e below (T190.setTop (mkF m 331 #[.val (.int i0), .val (.int i1), .val (.int i2), .val (.int i3), .val (.int z101), .val (.int z102), .val (.int z103), .val (.ref ak104), .val (.int z105), .val (.int z106), .val (.ref b107), .val (.ref b125), .val (.int (0 : Int32)), .val (.ref b181), .val (.int (1 : Int32)), .unset] [])) _
            refine XS.iload X190.here hx rfl (hb hby at_331) rfl ?_
            show Steps p.tables e below (T190.setTop (mkF m 333 #[.val (.int i0), .val (.int i1), .val (.int i2), .val (.int i3), .val (.int z101), .val (.int z102), .val (.int z103), .val (.ref ak104), .val (.int z105), .val (.int z106), .val (.ref b107), .val (.ref b125), .val (.int (0 : Int32)), .val (.ref b181), .val (.int (1 : Int32)), .unset] [(.int (1 : Int32))])) _
            exact retN X190 hx (t := .boolean) Bd.returns (by simp) (hb hby at_333) hr
          · show QL n0 _ T190.heap _
            rw [hh190]
            exact ⟨rfl, N190⟩
        · skip
          have pre197 : ∀ t, Steps p.tables e below (T190.setTop (mkF m 287 #[.val (.int i0), .val (.int i1), .val (.int i2), .val (.int i3), .val (.int z101), .val (.int z102), .val (.int z103), .val (.ref ak104), .val (.int z105), .val (.int z106), .val (.ref b107), .val (.ref b125), .val (.int (0 : Int32)), .val (.ref b181), .val (.int (1 : Int32)), .unset] [(.int z101)])) t → Steps p.tables e below (s₁.setTop (entryFrame m #[(.int i0), (.int i1), (.int i2), (.int i3)] maxLocals)) t := fun t kt => pre195 t (by
              show Steps p.tables e below (T190.setTop (mkF m 282 #[.val (.int i0), .val (.int i1), .val (.int i2), .val (.int i3), .val (.int z101), .val (.int z102), .val (.int z103), .val (.ref ak104), .val (.int z105), .val (.int z106), .val (.ref b107), .val (.ref b125), .val (.int (0 : Int32)), .val (.ref b181), .val (.int (1 : Int32)), .unset] [(.int (8 : Int32)), (.int z106)])) _
              refine XS.icmpNo X190.here hx rfl (hb hby at_282) rfl (flt hc196).2.2.1 ?_
              show Steps p.tables e below (T190.setTop (mkF m 285 #[.val (.int i0), .val (.int i1), .val (.int i2), .val (.int i3), .val (.int z101), .val (.int z102), .val (.int z103), .val (.ref ak104), .val (.int z105), .val (.int z106), .val (.ref b107), .val (.ref b125), .val (.int (0 : Int32)), .val (.ref b181), .val (.int (1 : Int32)), .unset] [])) _
              refine XS.iload X190.here hx rfl (hb hby at_285) rfl ?_
              exact kt)
          by_cases hc198 : z101 = (0 : Int32)
          · skip
            have f199 := (tp179.2.1.keep K181 nin0)
            have f200 := (f183.keep K181)
            have f201 := (((((((V123.ext E125).keep K129 (ninS ne125_b107 nin0)).keep K133 (ninS ne125_b107 nin0)).keep K135 (ninS ne125_b107 (ninS nebr129_b107 (ninS nebn129_b107 nin0)))).keep K177 (ninS ne125_b107 (ninS nebr129_b107 (ninS nebn129_b107 nin0)))).keep K179 (ninS nebr129_b107 nin0)).keep K181 nin0)
            obtain ⟨cq202, kq202, q202a, q202b, q202c⟩ := isOf hZ hh190 Ex181
            obtain ⟨_, _, ⟨T202, L202, k202, n202⟩, -, X202, ⟨Lc202, hQ202, l202, y202, z202⟩, st202⟩ := X190.virtualBack hx (y := (⟨"com/example/keyfold/keyfold/JsonValue", "compact", "()[B"⟩ : MethodName)) (z := (⟨"com/example/keyfold/keyfold/JsonValue", "compact", "()[B"⟩ : MethodName)) hown (mvT hZ (hw _ (List.mem_of_getElem? (i := 107) rfl))) (mvT hZ (hw _ (List.mem_of_getElem? (i := 108) rfl))) (notFace_of_selects (args := #[]) (mvT hZ (hw _ (List.mem_of_getElem? (i := 110) rfl)))) (mvT hZ (hw _ (List.mem_of_getElem? (i := 110) rfl))) (mvT hZ (hw _ (List.mem_of_getElem? (i := 109) rfl))) (by decide) (backOf (W := 0) (rmCo0 l Z a0 hw [] aK a_OBJECT a_ARRAY a_STRING a_NUMBER a_TRUE a_FALSE a_NULL b181 b125 br129 b107 k107 xs179 r0179 z105 z106 (2 : Int32) T181.heap n0 O186 En Ex181 F181_tape F181_index f184 f185 f199 f200 f201 Rc179 hc192 hc194 hc196 (own_p0 (own_r7 i3) hr0179 hc198)) hZ (hw _ (List.mem_of_getElem? (i := 111) rfl)) (hw _ (List.mem_of_getElem? (i := 62) rfl)) (by decide) (by decide)) q202a q202c (g := (mkF m 315 #[.val (.int i0), .val (.int i1), .val (.int i2), .val (.int i3), .val (.int z101), .val (.int z102), .val (.int z103), .val (.ref ak104), .val (.int z105), .val (.int z106), .val (.ref b107), .val (.ref b125), .val (.int (0 : Int32)), .val (.ref b181), .val (.int (1 : Int32)), .val (.int (z106 - z105))] [(.ref b181)])) rfl (by rw [hml]; rfl) (Steps.refl _) (argsL := []) (rest := []) (lenOf pd_16 rfl) rfl (by show 2 * 0 + _ ≤ _; exact Nat.le_of_eq rfl) (hb hby at_315) (fun _ _ => ⟨rfl, hh190, (by decide : 5 + 1 ≤ _), (by decide : 96 + 8 ≤ _)⟩)
            dsimp only [Pt.U, Pt.locs, Pt.cells, Pt.slots] at X202 l202 y202 z202 st202 hQ202
            subst l202 y202 z202
            obtain ⟨b202, rfl, N202q, gb202, sz202, K202, Ex202, V202⟩ := hQ202
            have N202 := Fr.app N190 N202q
            have f203 := (f182.keep K181)
            have ne202_ak104 : ak104 ≠ b202 := Nat.ne_of_lt (Nat.lt_of_lt_of_le (f203).lt sz202)
            have ne202_b107 : b107 ≠ b202 := Nat.ne_of_lt (Nat.lt_of_lt_of_le (f200).lt sz202)
            have f204 := (tp179.1.keep K181)
            have ne202_b125 : b125 ≠ b202 := Nat.ne_of_lt (Nat.lt_of_lt_of_le (f204).lt sz202)
            have ne202_b181 : b181 ≠ b202 := Nat.ne_of_lt (Nat.lt_of_lt_of_le (Ex181).lt sz202)
            have f205 := (tp179.2.2.2.2.2.2.2.keep K181 nin0)
            have ne202_bn129 : bn129 ≠ b202 := Nat.ne_of_lt (Nat.lt_of_lt_of_le (f205).lt sz202)
            have ne202_br129 : br129 ≠ b202 := Nat.ne_of_lt (Nat.lt_of_lt_of_le (f185).lt sz202)
            obtain ⟨cl206, Ar206, S206, N206_, -, -⟩ := By.at V202
            obtain ⟨fs, hr, hrun, hended, hW, hsame⟩ := X202.leave (v := some (.int (1 : Int32))) (fun h => by rw [Bd.returns] at h; cases h)
            refine ⟨_, _, pre197 _ ?_, hrun, hended, _, _, rfl, ?_, ⟨_, rfl⟩, hW, hsame.mono (by decide) (by decide)⟩
            · skip
              show Steps p.tables e below (T190.setTop (mkF m 287 #[.val (.int i0), .val (.int i1), .val (.int i2), .val (.int i3), .val (.int z101), .val (.int z102), .val (.int z103), .val (.ref ak104), .val (.int z105), .val (.int z106), .val (.ref b107), .val (.ref b125), .val (.int (0 : Int32)), .val (.ref b181), .val (.int (1 : Int32)), .unset] [(.int z101)])) _
              refine XS.ifYes X190.here hx rfl (pc0 := 287) (pc' := 306) rfl (hb hby at_287) rfl ((if0 _ _).trans (teq hc198).1) (by decide) (by decide) ?_
              show Steps p.tables e below (T190.setTop (mkF m 306 #[.val (.int i0), .val (.int i1), .val (.int i2), .val (.int i3), .val (.int z101), .val (.int z102), .val (.int z103), .val (.ref ak104), .val (.int z105), .val (.int z106), .val (.ref b107), .val (.ref b125), .val (.int (0 : Int32)), .val (.ref b181), .val (.int (1 : Int32)), .unset] [])) _
              refine XS.iload X190.here hx rfl (hb hby at_306) rfl ?_
              show Steps p.tables e below (T190.setTop (mkF m 308 #[.val (.int i0), .val (.int i1), .val (.int i2), .val (.int i3), .val (.int z101), .val (.int z102), .val (.int z103), .val (.ref ak104), .val (.int z105), .val (.int z106), .val (.ref b107), .val (.ref b125), .val (.int (0 : Int32)), .val (.ref b181), .val (.int (1 : Int32)), .unset] [(.int z106)])) _
              refine XS.iload X190.here hx rfl (hb hby at_308) rfl ?_
              show Steps p.tables e below (T190.setTop (mkF m 310 #[.val (.int i0), .val (.int i1), .val (.int i2), .val (.int i3), .val (.int z101), .val (.int z102), .val (.int z103), .val (.ref ak104), .val (.int z105), .val (.int z106), .val (.ref b107), .val (.ref b125), .val (.int (0 : Int32)), .val (.ref b181), .val (.int (1 : Int32)), .unset] [(.int z105), (.int z106)])) _
              refine XS.isub X190.here hx rfl (hb hby at_310) rfl ?_
              show Steps p.tables e below (T190.setTop (mkF m 311 #[.val (.int i0), .val (.int i1), .val (.int i2), .val (.int i3), .val (.int z101), .val (.int z102), .val (.int z103), .val (.ref ak104), .val (.int z105), .val (.int z106), .val (.ref b107), .val (.ref b125), .val (.int (0 : Int32)), .val (.ref b181), .val (.int (1 : Int32)), .unset] [(.int (z106 - z105))])) _
              refine XS.istore X190.here hx rfl (hb hby at_311) rfl (l' := #[.val (.int i0), .val (.int i1), .val (.int i2), .val (.int i3), .val (.int z101), .val (.int z102), .val (.int z103), .val (.ref ak104), .val (.int z105), .val (.int z106), .val (.ref b107), .val (.ref b125), .val (.int (0 : Int32)), .val (.ref b181), .val (.int (1 : Int32)), .val (.int (z106 - z105))]) rfl ?_
              show Steps p.tables e below (T190.setTop (mkF m 313 #[.val (.int i0), .val (.int i1), .val (.int i2), .val (.int i3), .val (.int z101), .val (.int z102), .val (.int z103), .val (.ref ak104), .val (.int z105), .val (.int z106), .val (.ref b107), .val (.ref b125), .val (.int (0 : Int32)), .val (.ref b181), .val (.int (1 : Int32)), .val (.int (z106 - z105))] [])) _
              refine XS.aload X190.here hx rfl (hb hby at_313) rfl rfl ?_
              show Steps p.tables e below (T190.setTop (mkF m 315 #[.val (.int i0), .val (.int i1), .val (.int i2), .val (.int i3), .val (.int z101), .val (.int z102), .val (.int z103), .val (.ref ak104), .val (.int z105), .val (.int z106), .val (.ref b107), .val (.ref b125), .val (.int (0 : Int32)), .val (.ref b181), .val (.int (1 : Int32)), .val (.int (z106 - z105))] [(.ref b181)])) _
              refine st202.trans ?_
              show Steps p.tables e below (T202.setTop (mkF m 318 #[.val (.int i0), .val (.int i1), .val (.int i2), .val (.int i3), .val (.int z101), .val (.int z102), .val (.int z103), .val (.ref ak104), .val (.int z105), .val (.int z106), .val (.ref b107), .val (.ref b125), .val (.int (0 : Int32)), .val (.ref b181), .val (.int (1 : Int32)), .val (.int (z106 - z105))] [(.ref b202)])) _
              refine X202.arraylength hx Ar206.1 (State.isArrayOf_alike hZ.alike Ar206.2.1) (g := (mkF m 318 #[.val (.int i0), .val (.int i1), .val (.int i2), .val (.int i3), .val (.int z101), .val (.int z102), .val (.int z103), .val (.ref ak104), .val (.int z105), .val (.int z106), .val (.ref b107), .val (.ref b125), .val (.int (0 : Int32)), .val (.ref b181), .val (.int (1 : Int32)), .val (.int (z106 - z105))] [(.ref b202)])) rfl rfl (hb hby at_318) _ ?_
              rw [len_of S206 N206_]
              show Steps p.tables e below (T202.setTop (mkF m 319 #[.val (.int i0), .val (.int i1), .val (.int i2), .val (.int i3), .val (.int z101), .val (.int z102), .val (.int z103), .val (.ref ak104), .val (.int z105), .val (.int z106), .val (.ref b107), .val (.ref b125), .val (.int (0 : Int32)), .val (.ref b181), .val (.int (1 : Int32)), .val (.int (z106 - z105))] [(.int (z106 - z105))])) _
              refine XS.iload X202.here hx rfl (hb hby at_319) rfl ?_
              show Steps p.tables e below (T202.setTop (mkF m 321 #[.val (.int i0), .val (.int i1), .val (.int i2), .val (.int i3), .val (.int z101), .val (.int z102), .val (.int z103), .val (.ref ak104), .val (.int z105), .val (.int z106), .val (.ref b107), .val (.ref b125), .val (.int (0 : Int32)), .val (.ref b181), .val (.int (1 : Int32)), .val (.int (z106 - z105))] [(.int (z106 - z105)), (.int (z106 - z105))])) _
              refine XS.icmpNo X202.here hx rfl (hb hby at_321) rfl (teq rfl).2 ?_
              show Steps p.tables e below (T202.setTop (mkF m 324 #[.val (.int i0), .val (.int i1), .val (.int i2), .val (.int i3), .val (.int z101), .val (.int z102), .val (.int z103), .val (.ref ak104), .val (.int z105), .val (.int z106), .val (.ref b107), .val (.ref b125), .val (.int (0 : Int32)), .val (.ref b181), .val (.int (1 : Int32)), .val (.int (z106 - z105))] [])) _
              refine XS.iconst X202.here hx rfl (hb hby at_324) ?_
              show Steps p.tables e below (T202.setTop (mkF m 325 #[.val (.int i0), .val (.int i1), .val (.int i2), .val (.int i3), .val (.int z101), .val (.int z102), .val (.int z103), .val (.ref ak104), .val (.int z105), .val (.int z106), .val (.ref b107), .val (.ref b125), .val (.int (0 : Int32)), .val (.ref b181), .val (.int (1 : Int32)), .val (.int (z106 - z105))] [(.int (1 : Int32))])) _
              refine XS.goto X202.here hx rfl (pc0 := 325) (pc' := 329) rfl (hb hby at_325) (by decide) (by decide) ?_
              show Steps p.tables e below (T202.setTop (mkF m 329 #[.val (.int i0), .val (.int i1), .val (.int i2), .val (.int i3), .val (.int z101), .val (.int z102), .val (.int z103), .val (.ref ak104), .val (.int z105), .val (.int z106), .val (.ref b107), .val (.ref b125), .val (.int (0 : Int32)), .val (.ref b181), .val (.int (1 : Int32)), .val (.int (z106 - z105))] [(.int (1 : Int32))])) _
              refine XS.istore X202.here hx rfl (hb hby at_329) rfl (l' := #[.val (.int i0), .val (.int i1), .val (.int i2), .val (.int i3), .val (.int z101), .val (.int z102), .val (.int z103), .val (.ref ak104), .val (.int z105), .val (.int z106), .val (.ref b107), .val (.ref b125), .val (.int (0 : Int32)), .val (.ref b181), .val (.int (1 : Int32)), .val (.int (z106 - z105))]) rfl ?_
              show Steps p.tables e below (T202.setTop (mkF m 331 #[.val (.int i0), .val (.int i1), .val (.int i2), .val (.int i3), .val (.int z101), .val (.int z102), .val (.int z103), .val (.ref ak104), .val (.int z105), .val (.int z106), .val (.ref b107), .val (.ref b125), .val (.int (0 : Int32)), .val (.ref b181), .val (.int (1 : Int32)), .val (.int (z106 - z105))] [])) _
              refine XS.iload X202.here hx rfl (hb hby at_331) rfl ?_
              show Steps p.tables e below (T202.setTop (mkF m 333 #[.val (.int i0), .val (.int i1), .val (.int i2), .val (.int i3), .val (.int z101), .val (.int z102), .val (.int z103), .val (.ref ak104), .val (.int z105), .val (.int z106), .val (.ref b107), .val (.ref b125), .val (.int (0 : Int32)), .val (.ref b181), .val (.int (1 : Int32)), .val (.int (z106 - z105))] [(.int (1 : Int32))])) _
              exact retN X202 hx (t := .boolean) Bd.returns (by simp) (hb hby at_333) hr
            · show QL n0 _ T202.heap _
              exact ⟨rfl, N202⟩
          · skip
            have f207 := (tp179.2.1.keep K181 nin0)
            have f208 := (f183.keep K181)
            have f209 := (((((((V123.ext E125).keep K129 (ninS ne125_b107 nin0)).keep K133 (ninS ne125_b107 nin0)).keep K135 (ninS ne125_b107 (ninS nebr129_b107 (ninS nebn129_b107 nin0)))).keep K177 (ninS ne125_b107 (ninS nebr129_b107 (ninS nebn129_b107 nin0)))).keep K179 (ninS nebr129_b107 nin0)).keep K181 nin0)
            obtain ⟨cq210, kq210, q210a, q210b, q210c⟩ := isOf hZ hh190 Ex181
            obtain ⟨_, _, ⟨T210, L210, k210, n210⟩, -, X210, ⟨Lc210, hQ210, l210, y210, z210⟩, st210⟩ := X190.virtualBack hx (y := (⟨"com/example/keyfold/keyfold/JsonValue", "compact", "()[B"⟩ : MethodName)) (z := (⟨"com/example/keyfold/keyfold/JsonValue", "compact", "()[B"⟩ : MethodName)) hown (mvT hZ (hw _ (List.mem_of_getElem? (i := 107) rfl))) (mvT hZ (hw _ (List.mem_of_getElem? (i := 108) rfl))) (notFace_of_selects (args := #[]) (mvT hZ (hw _ (List.mem_of_getElem? (i := 110) rfl)))) (mvT hZ (hw _ (List.mem_of_getElem? (i := 110) rfl))) (mvT hZ (hw _ (List.mem_of_getElem? (i := 109) rfl))) (by decide) (backOf (W := 0) (rmCo1 l Z a0 hw [] aK a_OBJECT a_ARRAY a_STRING a_NUMBER a_TRUE a_FALSE a_NULL b181 b125 br129 b107 k107 xs179 r0179 z105 z106 (2 : Int32) T181.heap n0 O186 En Ex181 F181_tape F181_index f184 f185 f207 f208 f209 Rc179 hc192 hc194 hc196 (own_p1 (own_r7 i3) hr0179 hc198)) hZ (hw _ (List.mem_of_getElem? (i := 111) rfl)) (hw _ (List.mem_of_getElem? (i := 62) rfl)) (by decide) (by decide)) q210a q210c (g := (mkF m 315 #[.val (.int i0), .val (.int i1), .val (.int i2), .val (.int i3), .val (.int z101), .val (.int z102), .val (.int z103), .val (.ref ak104), .val (.int z105), .val (.int z106), .val (.ref b107), .val (.ref b125), .val (.int (0 : Int32)), .val (.ref b181), .val (.int (1 : Int32)), .val (.int (((z106 + (1 : Int32)) >>> ((1 : Int32) &&& 31)) - ((z105 + (1 : Int32)) >>> ((1 : Int32) &&& 31))))] [(.ref b181)])) rfl (by rw [hml]; rfl) (Steps.refl _) (argsL := []) (rest := []) (lenOf pd_16 rfl) rfl (by show 2 * 0 + _ ≤ _; exact Nat.le_of_eq rfl) (hb hby at_315) (fun _ _ => ⟨rfl, hh190, (by decide : 5 + 2 ≤ _), (by decide : 96 + 16 ≤ _)⟩)
            dsimp only [Pt.U, Pt.locs, Pt.cells, Pt.slots] at X210 l210 y210 z210 st210 hQ210
            subst l210 y210 z210
            obtain ⟨b210, rfl, N210q, gb210, sz210, K210, Ex210, V210⟩ := hQ210
            have N210 := Fr.app N190 N210q
            have f211 := (f182.keep K181)
            have ne210_ak104 : ak104 ≠ b210 := Nat.ne_of_lt (Nat.lt_of_lt_of_le (f211).lt sz210)
            have ne210_b107 : b107 ≠ b210 := Nat.ne_of_lt (Nat.lt_of_lt_of_le (f208).lt sz210)
            have f212 := (tp179.1.keep K181)
            have ne210_b125 : b125 ≠ b210 := Nat.ne_of_lt (Nat.lt_of_lt_of_le (f212).lt sz210)
            have ne210_b181 : b181 ≠ b210 := Nat.ne_of_lt (Nat.lt_of_lt_of_le (Ex181).lt sz210)
            have f213 := (tp179.2.2.2.2.2.2.2.keep K181 nin0)
            have ne210_bn129 : bn129 ≠ b210 := Nat.ne_of_lt (Nat.lt_of_lt_of_le (f213).lt sz210)
            have ne210_br129 : br129 ≠ b210 := Nat.ne_of_lt (Nat.lt_of_lt_of_le (f185).lt sz210)
            obtain ⟨cl214, Ar214, S214, N214_, -, -⟩ := By.at V210
            obtain ⟨fs, hr, hrun, hended, hW, hsame⟩ := X210.leave (v := some (.int (1 : Int32))) (fun h => by rw [Bd.returns] at h; cases h)
            refine ⟨_, _, pre197 _ ?_, hrun, hended, _, _, rfl, ?_, ⟨_, rfl⟩, hW, hsame.mono (by decide) (by decide)⟩
            · skip
              show Steps p.tables e below (T190.setTop (mkF m 287 #[.val (.int i0), .val (.int i1), .val (.int i2), .val (.int i3), .val (.int z101), .val (.int z102), .val (.int z103), .val (.ref ak104), .val (.int z105), .val (.int z106), .val (.ref b107), .val (.ref b125), .val (.int (0 : Int32)), .val (.ref b181), .val (.int (1 : Int32)), .unset] [(.int z101)])) _
              refine XS.ifNo X190.here hx rfl (hb hby at_287) rfl ((if0 _ _).trans (feq hc198).1) ?_
              show Steps p.tables e below (T190.setTop (mkF m 290 #[.val (.int i0), .val (.int i1), .val (.int i2), .val (.int i3), .val (.int z101), .val (.int z102), .val (.int z103), .val (.ref ak104), .val (.int z105), .val (.int z106), .val (.ref b107), .val (.ref b125), .val (.int (0 : Int32)), .val (.ref b181), .val (.int (1 : Int32)), .unset] [])) _
              refine XS.iload X190.here hx rfl (hb hby at_290) rfl ?_
              show Steps p.tables e below (T190.setTop (mkF m 292 #[.val (.int i0), .val (.int i1), .val (.int i2), .val (.int i3), .val (.int z101), .val (.int z102), .val (.int z103), .val (.ref ak104), .val (.int z105), .val (.int z106), .val (.ref b107), .val (.ref b125), .val (.int (0 : Int32)), .val (.ref b181), .val (.int (1 : Int32)), .unset] [(.int z106)])) _
              refine XS.iconst X190.here hx rfl (hb hby at_292) ?_
              show Steps p.tables e below (T190.setTop (mkF m 293 #[.val (.int i0), .val (.int i1), .val (.int i2), .val (.int i3), .val (.int z101), .val (.int z102), .val (.int z103), .val (.ref ak104), .val (.int z105), .val (.int z106), .val (.ref b107), .val (.ref b125), .val (.int (0 : Int32)), .val (.ref b181), .val (.int (1 : Int32)), .unset] [(.int (1 : Int32)), (.int z106)])) _
              refine XS.iadd X190.here hx rfl (hb hby at_293) rfl ?_
              show Steps p.tables e below (T190.setTop (mkF m 294 #[.val (.int i0), .val (.int i1), .val (.int i2), .val (.int i3), .val (.int z101), .val (.int z102), .val (.int z103), .val (.ref ak104), .val (.int z105), .val (.int z106), .val (.ref b107), .val (.ref b125), .val (.int (0 : Int32)), .val (.ref b181), .val (.int (1 : Int32)), .unset] [(.int (z106 + (1 : Int32)))])) _
              refine XS.iconst X190.here hx rfl (hb hby at_294) ?_
              show Steps p.tables e below (T190.setTop (mkF m 295 #[.val (.int i0), .val (.int i1), .val (.int i2), .val (.int i3), .val (.int z101), .val (.int z102), .val (.int z103), .val (.ref ak104), .val (.int z105), .val (.int z106), .val (.ref b107), .val (.ref b125), .val (.int (0 : Int32)), .val (.ref b181), .val (.int (1 : Int32)), .unset] [(.int (1 : Int32)), (.int (z106 + (1 : Int32)))])) _
              refine XS.ishr X190.here hx rfl (hb hby at_295) rfl ?_
              show Steps p.tables e below (T190.setTop (mkF m 296 #[.val (.int i0), .val (.int i1), .val (.int i2), .val (.int i3), .val (.int z101), .val (.int z102), .val (.int z103), .val (.ref ak104), .val (.int z105), .val (.int z106), .val (.ref b107), .val (.ref b125), .val (.int (0 : Int32)), .val (.ref b181), .val (.int (1 : Int32)), .unset] [(.int ((z106 + (1 : Int32)) >>> ((1 : Int32) &&& 31)))])) _
              refine XS.iload X190.here hx rfl (hb hby at_296) rfl ?_
              show Steps p.tables e below (T190.setTop (mkF m 298 #[.val (.int i0), .val (.int i1), .val (.int i2), .val (.int i3), .val (.int z101), .val (.int z102), .val (.int z103), .val (.ref ak104), .val (.int z105), .val (.int z106), .val (.ref b107), .val (.ref b125), .val (.int (0 : Int32)), .val (.ref b181), .val (.int (1 : Int32)), .unset] [(.int z105), (.int ((z106 + (1 : Int32)) >>> ((1 : Int32) &&& 31)))])) _
              refine XS.iconst X190.here hx rfl (hb hby at_298) ?_
              show Steps p.tables e below (T190.setTop (mkF m 299 #[.val (.int i0), .val (.int i1), .val (.int i2), .val (.int i3), .val (.int z101), .val (.int z102), .val (.int z103), .val (.ref ak104), .val (.int z105), .val (.int z106), .val (.ref b107), .val (.ref b125), .val (.int (0 : Int32)), .val (.ref b181), .val (.int (1 : Int32)), .unset] [(.int (1 : Int32)), (.int z105), (.int ((z106 + (1 : Int32)) >>> ((1 : Int32) &&& 31)))])) _
              refine XS.iadd X190.here hx rfl (hb hby at_299) rfl ?_
              show Steps p.tables e below (T190.setTop (mkF m 300 #[.val (.int i0), .val (.int i1), .val (.int i2), .val (.int i3), .val (.int z101), .val (.int z102), .val (.int z103), .val (.ref ak104), .val (.int z105), .val (.int z106), .val (.ref b107), .val (.ref b125), .val (.int (0 : Int32)), .val (.ref b181), .val (.int (1 : Int32)), .unset] [(.int (z105 + (1 : Int32))), (.int ((z106 + (1 : Int32)) >>> ((1 : Int32) &&& 31)))])) _
              refine XS.iconst X190.here hx rfl (hb hby at_300) ?_
              show Steps p.tables e below (T190.setTop (mkF m 301 #[.val (.int i0), .val (.int i1), .val (.int i2), .val (.int i3), .val (.int z101), .val (.int z102), .val (.int z103), .val (.ref ak104), .val (.int z105), .val (.int z106), .val (.ref b107), .val (.ref b125), .val (.int (0 : Int32)), .val (.ref b181), .val (.int (1 : Int32)), .unset] [(.int (1 : Int32)), (.int (z105 + (1 : Int32))), (.int ((z106 + (1 : Int32)) >>> ((1 : Int32) &&& 31)))])) _
              refine XS.ishr X190.here hx rfl (hb hby at_301) rfl ?_
              show Steps p.tables e below (T190.setTop (mkF m 302 #[.val (.int i0), .val (.int i1), .val (.int i2), .val (.int i3), .val (.int z101), .val (.int z102), .val (.int z103), .val (.ref ak104), .val (.int z105), .val (.int z106), .val (.ref b107), .val (.ref b125), .val (.int (0 : Int32)), .val (.ref b181), .val (.int (1 : Int32)), .unset] [(.int ((z105 + (1 : Int32)) >>> ((1 : Int32) &&& 31))), (.int ((z106 + (1 : Int32)) >>> ((1 : Int32) &&& 31)))])) _
              refine XS.isub X190.here hx rfl (hb hby at_302) rfl ?_
              show Steps p.tables e below (T190.setTop (mkF m 303 #[.val (.int i0), .val (.int i1), .val (.int i2), .val (.int i3), .val (.int z101), .val (.int z102), .val (.int z103), .val (.ref ak104), .val (.int z105), .val (.int z106), .val (.ref b107), .val (.ref b125), .val (.int (0 : Int32)), .val (.ref b181), .val (.int (1 : Int32)), .unset] [(.int (((z106 + (1 : Int32)) >>> ((1 : Int32) &&& 31)) - ((z105 + (1 : Int32)) >>> ((1 : Int32) &&& 31))))])) _
              refine XS.goto X190.here hx rfl (pc0 := 303) (pc' := 311) rfl (hb hby at_303) (by decide) (by decide) ?_
              show Steps p.tables e below (T190.setTop (mkF m 311 #[.val (.int i0), .val (.int i1), .val (.int i2), .val (.int i3), .val (.int z101), .val (.int z102), .val (.int z103), .val (.ref ak104), .val (.int z105), .val (.int z106), .val (.ref b107), .val (.ref b125), .val (.int (0 : Int32)), .val (.ref b181), .val (.int (1 : Int32)), .unset] [(.int (((z106 + (1 : Int32)) >>> ((1 : Int32) &&& 31)) - ((z105 + (1 : Int32)) >>> ((1 : Int32) &&& 31))))])) _
              refine XS.istore X190.here hx rfl (hb hby at_311) rfl (l' := #[.val (.int i0), .val (.int i1), .val (.int i2), .val (.int i3), .val (.int z101), .val (.int z102), .val (.int z103), .val (.ref ak104), .val (.int z105), .val (.int z106), .val (.ref b107), .val (.ref b125), .val (.int (0 : Int32)), .val (.ref b181), .val (.int (1 : Int32)), .val (.int (((z106 + (1 : Int32)) >>> ((1 : Int32) &&& 31)) - ((z105 + (1 : Int32)) >>> ((1 : Int32) &&& 31))))]) rfl ?_
              show Steps p.tables e below (T190.setTop (mkF m 313 #[.val (.int i0), .val (.int i1), .val (.int i2), .val (.int i3), .val (.int z101), .val (.int z102), .val (.int z103), .val (.ref ak104), .val (.int z105), .val (.int z106), .val (.ref b107), .val (.ref b125), .val (.int (0 : Int32)), .val (.ref b181), .val (.int (1 : Int32)), .val (.int (((z106 + (1 : Int32)) >>> ((1 : Int32) &&& 31)) - ((z105 + (1 : Int32)) >>> ((1 : Int32) &&& 31))))] [])) _
              refine XS.aload X190.here hx rfl (hb hby at_313) rfl rfl ?_
              show Steps p.tables e below (T190.setTop (mkF m 315 #[.val (.int i0), .val (.int i1), .val (.int i2), .val (.int i3), .val (.int z101), .val (.int z102), .val (.int z103), .val (.ref ak104), .val (.int z105), .val (.int z106), .val (.ref b107), .val (.ref b125), .val (.int (0 : Int32)), .val (.ref b181), .val (.int (1 : Int32)), .val (.int (((z106 + (1 : Int32)) >>> ((1 : Int32) &&& 31)) - ((z105 + (1 : Int32)) >>> ((1 : Int32) &&& 31))))] [(.ref b181)])) _
              refine st210.trans ?_
              show Steps p.tables e below (T210.setTop (mkF m 318 #[.val (.int i0), .val (.int i1), .val (.int i2), .val (.int i3), .val (.int z101), .val (.int z102), .val (.int z103), .val (.ref ak104), .val (.int z105), .val (.int z106), .val (.ref b107), .val (.ref b125), .val (.int (0 : Int32)), .val (.ref b181), .val (.int (1 : Int32)), .val (.int (((z106 + (1 : Int32)) >>> ((1 : Int32) &&& 31)) - ((z105 + (1 : Int32)) >>> ((1 : Int32) &&& 31))))] [(.ref b210)])) _
              refine X210.arraylength hx Ar214.1 (State.isArrayOf_alike hZ.alike Ar214.2.1) (g := (mkF m 318 #[.val (.int i0), .val (.int i1), .val (.int i2), .val (.int i3), .val (.int z101), .val (.int z102), .val (.int z103), .val (.ref ak104), .val (.int z105), .val (.int z106), .val (.ref b107), .val (.ref b125), .val (.int (0 : Int32)), .val (.ref b181), .val (.int (1 : Int32)), .val (.int (((z106 + (1 : Int32)) >>> ((1 : Int32) &&& 31)) - ((z105 + (1 : Int32)) >>> ((1 : Int32) &&& 31))))] [(.ref b210)])) rfl rfl (hb hby at_318) _ ?_
              rw [len_of S214 N214_]
              show Steps p.tables e below (T210.setTop (mkF m 319 #[.val (.int i0), .val (.int i1), .val (.int i2), .val (.int i3), .val (.int z101), .val (.int z102), .val (.int z103), .val (.ref ak104), .val (.int z105), .val (.int z106), .val (.ref b107), .val (.ref b125), .val (.int (0 : Int32)), .val (.ref b181), .val (.int (1 : Int32)), .val (.int (((z106 + (1 : Int32)) >>> ((1 : Int32) &&& 31)) - ((z105 + (1 : Int32)) >>> ((1 : Int32) &&& 31))))] [(.int (own_len z105 z106))])) _
              refine XS.iload X210.here hx rfl (hb hby at_319) rfl ?_
              show Steps p.tables e below (T210.setTop (mkF m 321 #[.val (.int i0), .val (.int i1), .val (.int i2), .val (.int i3), .val (.int z101), .val (.int z102), .val (.int z103), .val (.ref ak104), .val (.int z105), .val (.int z106), .val (.ref b107), .val (.ref b125), .val (.int (0 : Int32)), .val (.ref b181), .val (.int (1 : Int32)), .val (.int (((z106 + (1 : Int32)) >>> ((1 : Int32) &&& 31)) - ((z105 + (1 : Int32)) >>> ((1 : Int32) &&& 31))))] [(.int (((z106 + (1 : Int32)) >>> ((1 : Int32) &&& 31)) - ((z105 + (1 : Int32)) >>> ((1 : Int32) &&& 31)))), (.int (own_len z105 z106))])) _
              refine XS.icmpNo X210.here hx rfl (hb hby at_321) rfl (teq rfl).2 ?_
              show Steps p.tables e below (T210.setTop (mkF m 324 #[.val (.int i0), .val (.int i1), .val (.int i2), .val (.int i3), .val (.int z101), .val (.int z102), .val (.int z103), .val (.ref ak104), .val (.int z105), .val (.int z106), .val (.ref b107), .val (.ref b125), .val (.int (0 : Int32)), .val (.ref b181), .val (.int (1 : Int32)), .val (.int (((z106 + (1 : Int32)) >>> ((1 : Int32) &&& 31)) - ((z105 + (1 : Int32)) >>> ((1 : Int32) &&& 31))))] [])) _
              refine XS.iconst X210.here hx rfl (hb hby at_324) ?_
              show Steps p.tables e below (T210.setTop (mkF m 325 #[.val (.int i0), .val (.int i1), .val (.int i2), .val (.int i3), .val (.int z101), .val (.int z102), .val (.int z103), .val (.ref ak104), .val (.int z105), .val (.int z106), .val (.ref b107), .val (.ref b125), .val (.int (0 : Int32)), .val (.ref b181), .val (.int (1 : Int32)), .val (.int (((z106 + (1 : Int32)) >>> ((1 : Int32) &&& 31)) - ((z105 + (1 : Int32)) >>> ((1 : Int32) &&& 31))))] [(.int (1 : Int32))])) _
              refine XS.goto X210.here hx rfl (pc0 := 325) (pc' := 329) rfl (hb hby at_325) (by decide) (by decide) ?_
              show Steps p.tables e below (T210.setTop (mkF m 329 #[.val (.int i0), .val (.int i1), .val (.int i2), .val (.int i3), .val (.int z101), .val (.int z102), .val (.int z103), .val (.ref ak104), .val (.int z105), .val (.int z106), .val (.ref b107), .val (.ref b125), .val (.int (0 : Int32)), .val (.ref b181), .val (.int (1 : Int32)), .val (.int (((z106 + (1 : Int32)) >>> ((1 : Int32) &&& 31)) - ((z105 + (1 : Int32)) >>> ((1 : Int32) &&& 31))))] [(.int (1 : Int32))])) _
              refine XS.istore X210.here hx rfl (hb hby at_329) rfl (l' := #[.val (.int i0), .val (.int i1), .val (.int i2), .val (.int i3), .val (.int z101), .val (.int z102), .val (.int z103), .val (.ref ak104), .val (.int z105), .val (.int z106), .val (.ref b107), .val (.ref b125), .val (.int (0 : Int32)), .val (.ref b181), .val (.int (1 : Int32)), .val (.int (((z106 + (1 : Int32)) >>> ((1 : Int32) &&& 31)) - ((z105 + (1 : Int32)) >>> ((1 : Int32) &&& 31))))]) rfl ?_
              show Steps p.tables e below (T210.setTop (mkF m 331 #[.val (.int i0), .val (.int i1), .val (.int i2), .val (.int i3), .val (.int z101), .val (.int z102), .val (.int z103), .val (.ref ak104), .val (.int z105), .val (.int z106), .val (.ref b107), .val (.ref b125), .val (.int (0 : Int32)), .val (.ref b181), .val (.int (1 : Int32)), .val (.int (((z106 + (1 : Int32)) >>> ((1 : Int32) &&& 31)) - ((z105 + (1 : Int32)) >>> ((1 : Int32) &&& 31))))] [])) _
              refine XS.iload X210.here hx rfl (hb hby at_331) rfl ?_
              show Steps p.tables e below (T210.setTop (mkF m 333 #[.val (.int i0), .val (.int i1), .val (.int i2), .val (.int i3), .val (.int z101), .val (.int z102), .val (.int z103), .val (.ref ak104), .val (.int z105), .val (.int z106), .val (.ref b107), .val (.ref b125), .val (.int (0 : Int32)), .val (.ref b181), .val (.int (1 : Int32)), .val (.int (((z106 + (1 : Int32)) >>> ((1 : Int32) &&& 31)) - ((z105 + (1 : Int32)) >>> ((1 : Int32) &&& 31))))] [(.int (1 : Int32))])) _
              exact retN X210 hx (t := .boolean) Bd.returns (by simp) (hb hby at_333) hr
            · show QL n0 _ T210.heap _
              exact ⟨rfl, N210⟩
set_option maxRecDepth 65536 in
set_option maxHeartbeats 40000000 in
theorem comes_1 {Post : Tables → Env → Array Value → State → Outcome → State → Prop} (hpost : ∀ tb e args s v u, (limb_1_1.after args s (.returned v) u = true ∧ limb_1_2.after args s (.returned v) u = true ∧ True) → FrameEnd s (.returned v) u (Jvm.fieldLocs frame_1_writes args s ++ Jvm.arrayLocs frame_1_arrays args s ++ Jvm.staticLocs frame_1_statics s) 24 320 → Post tb e args s (.returned v) u) :
    ArmFor flags0 classFile x code maxLocals ret World_1 tables_1 room_1 Calls_1 rest_1 Pre_1 Post := by
  intro l hfl _ _ p e ha hc hk s m args below hf hA hF happ hP
  obtain ⟨hcalls, hrest, hpre⟩ := hP
  obtain ⟨-, -, -, hnamed, -, -, -, hat⟩ := (Spec.applies_iff hf).mp happ
  obtain ⟨hg, hn⟩ := and_e (Cond.before_iff.mp (show (Jvm.Cond.and given_1 narrow_1).before args s = true from hpre))
  obtain ⟨g0, r0⟩ := and_e hg
  obtain ⟨g1, r1⟩ := and_e r0
  obtain ⟨g2, r2⟩ := and_e r1
  obtain ⟨g3, r3⟩ := and_e r2
  obtain ⟨w0, w1, w2, w3, rfl⟩ : ∃ w0 w1 w2 w3 : Value, args = #[w0, w1, w2, w3] := by
    have hs : args.size = 4 := by simpa [Cond.value, given_1] using g0
    obtain ⟨L⟩ := args
    match L, hs with
    | [w0, w1, w2, w3], _ => exact ⟨w0, w1, w2, w3, rfl⟩
  have hw := fun d (hd : d ∈ tables_1) => atoms_spec (ws := Jvm.Cond.code x code maxLocals ret :: tables_1) hat d (List.mem_cons_of_mem _ hd)
  have hfit : Fit s := fun {y c} hc i hi => by
    obtain ⟨ha, rfl⟩ := Array.getElem?_eq_some_iff.mp hc
    have q := List.all_eq_true.mp ((Array.all_eq_true_iff_forall_mem.mp hF) _ (Array.getElem_mem ha)) i (List.mem_range.mpr hi)
    simpa [Array.getElem?_eq_getElem hi] using q
  obtain ⟨i0, ei0⟩ := is_v g1
  obtain rfl : w0 = (.int i0) := Option.some.inj ei0
  obtain ⟨i1, ei1⟩ := is_v g2
  obtain rfl : w1 = (.int i1) := Option.some.inj ei1
  obtain ⟨i2, ei2⟩ := is_v g3
  obtain rfl : w2 = (.int i2) := Option.some.inj ei2
  obtain ⟨i3, ei3⟩ := is_v r3
  obtain rfl : w3 = (.int i3) := Option.some.inj ei3
  obtain ⟨n0, m0⟩ := and_e hn
  obtain ⟨a_ARRAY, ev_ARRAY⟩ := exa_v n0
  have X_ARRAY := Exa.start ev_ARRAY n0
  have S_ARRAY := Sta.start ev_ARRAY (Or.inr ⟨(hw _ (List.mem_of_getElem? (i := 6) rfl)), (hw _ (List.mem_of_getElem? (i := 7) rfl))⟩)
  obtain ⟨n1, m1⟩ := and_e m0
  have F_ARRAY := own_fldI ev_ARRAY n1
  obtain ⟨n2, m2⟩ := and_e m1
  obtain ⟨aK, evK⟩ := arr_v n2
  obtain ⟨cK, AK⟩ := Arr.start evK n2
  have S_K := Sta.start evK (Or.inr ⟨(hw _ (List.mem_of_getElem? (i := 62) rfl)), (hw _ (List.mem_of_getElem? (i := 80) rfl))⟩)
  obtain ⟨n3, m3⟩ := and_e m2
  obtain ⟨n4, m4⟩ := and_e m3
  have S_D := own_sI ⟨(hw _ (List.mem_of_getElem? (i := 62) rfl)), (hw _ (List.mem_of_getElem? (i := 90) rfl))⟩ n4
  obtain ⟨n5, m5⟩ := and_e m4
  obtain ⟨n6, m6⟩ := and_e m5
  obtain ⟨a_NUMBER, ev_NUMBER⟩ := exa_v n6
  have X_NUMBER := Exa.start ev_NUMBER n6
  have S_NUMBER := Sta.start ev_NUMBER (Or.inr ⟨(hw _ (List.mem_of_getElem? (i := 6) rfl)), (hw _ (List.mem_of_getElem? (i := 138) rfl))⟩)
  obtain ⟨n7, m7⟩ := and_e m6
  have F_NUMBER := own_fldI ev_NUMBER n7
  obtain ⟨n8, m8⟩ := and_e m7
  obtain ⟨n9, m9⟩ := and_e m8
  obtain ⟨a_STRING, ev_STRING⟩ := exa_v n9
  have X_STRING := Exa.start ev_STRING n9
  have S_STRING := Sta.start ev_STRING (Or.inr ⟨(hw _ (List.mem_of_getElem? (i := 6) rfl)), (hw _ (List.mem_of_getElem? (i := 140) rfl))⟩)
  obtain ⟨n10, m10⟩ := and_e m9
  have F_STRING := own_fldI ev_STRING n10
  obtain ⟨n11, m11⟩ := and_e m10
  obtain ⟨n12, m12⟩ := and_e m11
  obtain ⟨a_TRUE, ev_TRUE⟩ := exa_v n12
  have X_TRUE := Exa.start ev_TRUE n12
  have S_TRUE := Sta.start ev_TRUE (Or.inr ⟨(hw _ (List.mem_of_getElem? (i := 6) rfl)), (hw _ (List.mem_of_getElem? (i := 158) rfl))⟩)
  obtain ⟨n13, m13⟩ := and_e m12
  have F_TRUE := own_fldI ev_TRUE n13
  obtain ⟨n14, m14⟩ := and_e m13
  obtain ⟨n15, m15⟩ := and_e m14
  obtain ⟨a_OBJECT, ev_OBJECT⟩ := exa_v n15
  have X_OBJECT := Exa.start ev_OBJECT n15
  have S_OBJECT := Sta.start ev_OBJECT (Or.inr ⟨(hw _ (List.mem_of_getElem? (i := 6) rfl)), (hw _ (List.mem_of_getElem? (i := 160) rfl))⟩)
  obtain ⟨n16, m16⟩ := and_e m15
  have F_OBJECT := own_fldI ev_OBJECT n16
  obtain ⟨n17, m17⟩ := and_e m16
  obtain ⟨n18, m18⟩ := and_e m17
  obtain ⟨a_FALSE, ev_FALSE⟩ := exa_v n18
  have X_FALSE := Exa.start ev_FALSE n18
  have S_FALSE := Sta.start ev_FALSE (Or.inr ⟨(hw _ (List.mem_of_getElem? (i := 6) rfl)), (hw _ (List.mem_of_getElem? (i := 162) rfl))⟩)
  obtain ⟨n19, m19⟩ := and_e m18
  have F_FALSE := own_fldI ev_FALSE n19
  obtain ⟨n20, m20⟩ := and_e m19
  obtain ⟨n21, m21⟩ := and_e m20
  obtain ⟨a_NULL, ev_NULL⟩ := exa_v n21
  have X_NULL := Exa.start ev_NULL n21
  have S_NULL := Sta.start ev_NULL (Or.inr ⟨(hw _ (List.mem_of_getElem? (i := 6) rfl)), (hw _ (List.mem_of_getElem? (i := 164) rfl))⟩)
  obtain ⟨n22, m22⟩ := and_e m21
  have F_NULL := own_fldI ev_NULL n22
  have K_ARRAY : Knd s aK a_ARRAY (1 : Int32) := ⟨X_ARRAY, F_ARRAY, cK, AK, own_elR evK ev_ARRAY AK.1 n5⟩
  have K_NUMBER : Knd s aK a_NUMBER (3 : Int32) := ⟨X_NUMBER, F_NUMBER, cK, AK, own_elR evK ev_NUMBER AK.1 n8⟩
  have K_STRING : Knd s aK a_STRING (2 : Int32) := ⟨X_STRING, F_STRING, cK, AK, own_elR evK ev_STRING AK.1 n11⟩
  have K_TRUE : Knd s aK a_TRUE (4 : Int32) := ⟨X_TRUE, F_TRUE, cK, AK, own_elR evK ev_TRUE AK.1 n14⟩
  have K_OBJECT : Knd s aK a_OBJECT (0 : Int32) := ⟨X_OBJECT, F_OBJECT, cK, AK, own_elR evK ev_OBJECT AK.1 n17⟩
  have K_FALSE : Knd s aK a_FALSE (5 : Int32) := ⟨X_FALSE, F_FALSE, cK, AK, own_elR evK ev_FALSE AK.1 n20⟩
  have K_NULL : Knd s aK a_NULL (6 : Int32) := ⟨X_NULL, F_NULL, cK, AK, own_elR evK ev_NULL AK.1 m22⟩
  obtain ⟨n, o, h1, h2, h3, _, L, rfl, ⟨rfl, N⟩, hq⟩ := rm0 l s _ hw tables_1 aK a_OBJECT a_ARRAY a_STRING a_NUMBER a_TRUE a_FALSE a_NULL i0 i1 i2 i3 s.heap s.heap.size (Old.start s) ⟨S_K, S_D, S_OBJECT, K_OBJECT, S_ARRAY, K_ARRAY, S_STRING, K_STRING, S_NUMBER, K_NUMBER, S_TRUE, K_TRUE, S_FALSE, K_FALSE, S_NULL, K_NULL⟩ p e ha hc hk s m _ below hf ((Spec.applies_iff_loose hf).mp happ).1 ⟨rfl, State.Warmed39.refl s, rfl⟩ trivial
  refine ⟨n, _, h1, h2, h3, hpost _ _ _ _ _ _ ⟨Cond.after_iff.mpr rfl, Cond.after_iff.mpr (eq_i res_at (Term.int_eval (1)) rfl), trivial⟩ ⟨hq.1, hq.2.1, (hq.2.2.sift fun y hy => Or.inr (N y hy)).mono (by decide) (by decide)⟩⟩
theorem main_1_1 : Claimed_1_1 := comes_1 fun _ _ _ _ _ _ h hF => ⟨h.1, hF⟩
theorem main_1_2 : Claimed_1_2 := comes_1 fun _ _ _ _ _ _ h hF => ⟨h.2.1, hF⟩
end Jvm.Pilot.@@N@@
namespace Jvm.Pilot.@@N@@
open Jvm Jvm.ClassFile Sem Op Lib Jvm.Free Jvm.Stand Jvm.Pilot.@@N@@.Jvm.D
/-! MADE BY PROGRAM (witnessworld.py) out of the Statement's table words and the real class files: 23 classes; the members and pool entries that the words name. The judged class is class 1, her method 2. -/
namespace start1
open Jvm.ClassFile
def u (s : String) : CpInfo := .utf8 (stringToUtf16 s)
/-- a pool by its gaps: so many unusable entries, then the entry; so many at the end -/
def gap : Nat → List CpInfo → List CpInfo
  | 0, r => r
  | n + 1, r => .unusable :: gap n r
def poolList (es : List (Nat × CpInfo)) (last : Nat) : List CpInfo := es.foldr (fun e r => gap e.1 (e.2 :: r)) (gap last [])
def pool (es : List (Nat × CpInfo)) (last : Nat) : Array CpInfo := ⟨poolList es last⟩
def fileOf (pool : Array CpInfo) (this : Nat) (attrs : Array Attribute := #[]) (ms : Array MethodInfo := #[]) (fl : Nat := 33) (sup : Nat := 0) (ifs : Array Nat := #[]) (fds : Array FieldInfo := #[]) : ClassFile where
  minorVersion := 0
  majorVersion := 65
  constantPool := pool
  accessFlags := fl
  thisClass := this
  superClass := sup
  interfaces := ifs
  fields := fds
  methods := ms
  attributes := attrs
def plain (name : String) (sup : Option ClassId) : Class where
  name := name
  kind := .ordinary
  loader := none
  accessFlags := 33
  super := sup
  interfaces := #[]
  cf := none
  fields := #[]
  methods := #[]
  instanceTypes := #[]
  staticTypes := #[]
  resolved := #[]
  callSites := []
  init := .initialized
  statics := none
  mirror := none

def pool0 : Array CpInfo := pool [(5, u "<init>"), (0, u "()V"), (1, .class_ 10), (1, u "java/lang/Object"), (85, u "clone"), (0, u "()Ljava/lang/Object;")] 26

def k0c0 : Code := { maxStack := 0, maxLocals := 1, code := object_method_1_code, exceptionTable := #[], attributes := #[] }
def k0m0 : Method := { name := "<init>", desc := "()V", sig := { parameters := [], returnType := none }, accessFlags := 1, code := some k0c0 }
def k0m1 : Method := { name := "clone", desc := "()Ljava/lang/Object;", sig := { parameters := [], returnType := some (.object "java/lang/Object") }, accessFlags := 260, code := none }
/-- java/lang/Object -/
def k0 : Class := { plain "java/lang/Object" none with
  accessFlags := 33
  interfaces := #[]
  cf := some (fileOf pool0 8 #[] #[{ accessFlags := 1, nameIndex := 5, descriptorIndex := 6, attributes := #[] }, { accessFlags := 260, nameIndex := 96, descriptorIndex := 97, attributes := #[] }] 33 0 #[] #[])
  fields := #[]
  methods := #[k0m0, k0m1]
  instanceTypes := #[]
  staticTypes := #[]
  resolved := Array.replicate 124 none
  statics := none }

def pool1 : Array CpInfo := pool [(2, .class_ 4), (0, .nameAndType 5 6), (0, u "java/lang/Object"), (0, u "<init>"), (0, u "()V"), (0, .fieldref 8 9), (0, .class_ 10), (0, .nameAndType 11 12), (0, u "com/example/keyfold/keyfold/JsonValue$Kind"), (0, u "OBJECT"), (0, u "Lcom/example/keyfold/keyfold/JsonValue$Kind;"), (0, .fieldref 8 14), (0, .nameAndType 15 12), (0, u "ARRAY"), (0, .fieldref 8 17), (0, .nameAndType 18 12), (0, u "STRING"), (0, .fieldref 8 20), (0, .nameAndType 21 12), (0, u "NUMBER"), (0, .fieldref 8 23), (0, .nameAndType 24 12), (0, u "TRUE"), (0, .fieldref 8 26), (0, .nameAndType 27 12), (0, u "FALSE"), (0, .fieldref 8 29), (0, .nameAndType 30 12), (0, u "NULL"), (0, .integer 2147483647), (0, .methodref 33 34), (0, .class_ 35), (0, .nameAndType 36 37), (0, u "com/example/keyfold/keyfold/TapeEndPinLaw"), (0, u "kindOf"), (0, u "(I)Lcom/example/keyfold/keyfold/JsonValue$Kind;"), (0, .class_ 39), (0, u "com/example/keyfold/keyfold/JsonValue$Tape"), (0, .methodref 38 3), (0, .methodref 38 42), (0, .nameAndType 43 44), (0, u "reset"), (0, u "([B)V"), (0, .methodref 38 46), (0, .nameAndType 47 48), (0, u "add"), (0, u "(Lcom/example/keyfold/keyfold/JsonValue$Kind;ILjava/lang/String;)I"), (0, .methodref 38 50), (0, .nameAndType 51 52), (0, u "end"), (0, u "(IIZ)V"), (0, .methodref 38 54), (0, .nameAndType 55 56), (0, u "first"), (0, u "()Lcom/example/keyfold/keyfold/JsonValue;"), (0, .methodref 58 59), (0, .class_ 60), (0, .nameAndType 61 62), (0, u "com/example/keyfold/keyfold/JsonValue"), (0, u "kind"), (0, u "()Lcom/example/keyfold/keyfold/JsonValue$Kind;"), (0, .methodref 58 64), (0, .nameAndType 65 66), (0, u "start"), (0, u "()I"), (0, .methodref 58 68), (0, .nameAndType 51 66), (0, .methodref 58 70), (0, .nameAndType 71 66), (0, u "firstMember"), (0, .methodref 58 73), (0, .nameAndType 74 75), (0, u "compact"), (0, u "()[B"), (3, u "law"), (0, u "(IIII)Z")] 7

def k1m0 : Method := { name := "<init>", desc := "()V", sig := { parameters := [], returnType := none }, accessFlags := 1, code := none }
def k1c1 : Code := { maxStack := 2, maxLocals := 1, code := method_2_code, exceptionTable := #[], attributes := #[] }
def k1m1 : Method := { name := "kindOf", desc := "(I)Lcom/example/keyfold/keyfold/JsonValue$Kind;", sig := { parameters := [.int], returnType := some (.object "com/example/keyfold/keyfold/JsonValue$Kind") }, accessFlags := 10, code := some k1c1 }
def k1c2 : Code := { maxStack := 4, maxLocals := 16, code := code, exceptionTable := #[], attributes := #[] }
def k1m2 : Method := { name := "law", desc := "(IIII)Z", sig := { parameters := [.int, .int, .int, .int], returnType := some .boolean }, accessFlags := 9, code := some k1c2 }
/-- com/example/keyfold/keyfold/TapeEndPinLaw -/
def k1 : Class := { plain "com/example/keyfold/keyfold/TapeEndPinLaw" (some 0) with
  accessFlags := 49
  interfaces := #[]
  cf := some (fileOf pool1 33 #[] #[{ accessFlags := 1, nameIndex := 5, descriptorIndex := 6, attributes := #[] }, { accessFlags := 10, nameIndex := 36, descriptorIndex := 37, attributes := #[] }, { accessFlags := 9, nameIndex := 79, descriptorIndex := 80, attributes := #[] }] 49 2 #[] #[])
  fields := #[]
  methods := #[k1m0, k1m1, k1m2]
  instanceTypes := #[]
  staticTypes := #[]
  resolved := Array.replicate 88 none
  statics := none }

def pool2 : Array CpInfo := pool [(1, .class_ 2), (0, u "java/lang/constant/Constable"), (0, .class_ 4), (0, u "java/lang/Object")] 6

/-- java/lang/constant/Constable -/
def k2 : Class := { plain "java/lang/constant/Constable" (some 0) with
  accessFlags := 1537
  interfaces := #[]
  cf := some (fileOf pool2 1 #[] #[] 1537 3 #[] #[])
  fields := #[]
  methods := #[]
  instanceTypes := #[]
  staticTypes := #[]
  resolved := Array.replicate 11 none
  statics := none }

def pool3 : Array CpInfo := pool [(1, .class_ 2), (0, u "java/lang/Comparable"), (0, .class_ 4), (0, u "java/lang/Object")] 7

/-- java/lang/Comparable -/
def k3 : Class := { plain "java/lang/Comparable" (some 0) with
  accessFlags := 1537
  interfaces := #[]
  cf := some (fileOf pool3 1 #[] #[] 1537 3 #[] #[])
  fields := #[]
  methods := #[]
  instanceTypes := #[]
  staticTypes := #[]
  resolved := Array.replicate 12 none
  statics := none }

def pool4 : Array CpInfo := pool [(1, .class_ 2), (0, u "java/io/Serializable"), (0, .class_ 4), (0, u "java/lang/Object")] 2

/-- java/io/Serializable -/
def k4 : Class := { plain "java/io/Serializable" (some 0) with
  accessFlags := 1537
  interfaces := #[]
  cf := some (fileOf pool4 1 #[] #[] 1537 3 #[] #[])
  fields := #[]
  methods := #[]
  instanceTypes := #[]
  staticTypes := #[]
  resolved := Array.replicate 7 none
  statics := none }

def pool5 : Array CpInfo := pool [(2, .class_ 4), (1, u "java/lang/Enum"), (0, u "name"), (0, u "Ljava/lang/String;"), (0, .fieldref 2 8), (0, .nameAndType 9 10), (0, u "ordinal"), (0, u "I"), (1, .class_ 14), (1, u "java/lang/Object"), (4, u "hash"), (86, .class_ 108), (1, u "java/lang/Enum$EnumDesc"), (2, .class_ 112), (0, u "java/lang/constant/Constable"), (0, .class_ 114), (0, u "java/lang/Comparable"), (0, .class_ 116), (0, u "java/io/Serializable"), (9, u "()I")] 77

def k5c0 : Code := { maxStack := 1, maxLocals := 1, code := jdk_37_method_2_code, exceptionTable := #[], attributes := #[] }
def k5m0 : Method := { name := "ordinal", desc := "()I", sig := { parameters := [], returnType := some .int }, accessFlags := 17, code := some k5c0 }
/-- java/lang/Enum -/
def k5 : Class := { plain "java/lang/Enum" (some 0) with
  accessFlags := 1057
  interfaces := #[2, 3, 4]
  cf := some (fileOf pool5 2 #[.nestMembers #[106]] #[{ accessFlags := 17, nameIndex := 9, descriptorIndex := 126, attributes := #[] }] 1057 12 #[111, 113, 115] #[{ accessFlags := 18, nameIndex := 5, descriptorIndex := 6, attributes := #[] }, { accessFlags := 18, nameIndex := 9, descriptorIndex := 10, attributes := #[] }, { accessFlags := 2, nameIndex := 19, descriptorIndex := 10, attributes := #[] }])
  fields := #[{ name := "name", type := (.object "java/lang/String"), accessFlags := 18, slot := 0, constantValue := 0 }, { name := "ordinal", type := .int, accessFlags := 18, slot := 1, constantValue := 0 }, { name := "hash", type := .int, accessFlags := 2, slot := 2, constantValue := 0 }]
  methods := #[k5m0]
  instanceTypes := #[(.object "java/lang/String"), .int, .int]
  staticTypes := #[]
  resolved := Array.replicate 204 none
  statics := none }

def pool6 : Array CpInfo := pool [(1, .class_ 2), (0, u "com/example/keyfold/keyfold/JsonValue$Kind"), (2, u "OBJECT"), (0, u "Lcom/example/keyfold/keyfold/JsonValue$Kind;"), (2, u "ARRAY"), (2, u "STRING"), (2, u "NUMBER"), (2, u "TRUE"), (2, u "FALSE"), (2, u "NULL"), (2, u "$VALUES"), (0, u "[Lcom/example/keyfold/keyfold/JsonValue$Kind;"), (6, .class_ 37), (1, u "java/lang/Enum"), (47, .class_ 86), (0, u "com/example/keyfold/keyfold/JsonValue")] 2

/-- com/example/keyfold/keyfold/JsonValue$Kind -/
def k6 : Class := { plain "com/example/keyfold/keyfold/JsonValue$Kind" (some 5) with
  accessFlags := 16432
  interfaces := #[]
  cf := some (fileOf pool6 1 #[.nestHost 85] #[] 16432 35 #[] #[{ accessFlags := 16409, nameIndex := 5, descriptorIndex := 6, attributes := #[] }, { accessFlags := 16409, nameIndex := 9, descriptorIndex := 6, attributes := #[] }, { accessFlags := 16409, nameIndex := 12, descriptorIndex := 6, attributes := #[] }, { accessFlags := 16409, nameIndex := 15, descriptorIndex := 6, attributes := #[] }, { accessFlags := 16409, nameIndex := 18, descriptorIndex := 6, attributes := #[] }, { accessFlags := 16409, nameIndex := 21, descriptorIndex := 6, attributes := #[] }, { accessFlags := 16409, nameIndex := 24, descriptorIndex := 6, attributes := #[] }, { accessFlags := 4122, nameIndex := 27, descriptorIndex := 28, attributes := #[] }])
  fields := #[{ name := "OBJECT", type := (.object "com/example/keyfold/keyfold/JsonValue$Kind"), accessFlags := 16409, slot := 0, constantValue := 0 }, { name := "ARRAY", type := (.object "com/example/keyfold/keyfold/JsonValue$Kind"), accessFlags := 16409, slot := 1, constantValue := 0 }, { name := "STRING", type := (.object "com/example/keyfold/keyfold/JsonValue$Kind"), accessFlags := 16409, slot := 2, constantValue := 0 }, { name := "NUMBER", type := (.object "com/example/keyfold/keyfold/JsonValue$Kind"), accessFlags := 16409, slot := 3, constantValue := 0 }, { name := "TRUE", type := (.object "com/example/keyfold/keyfold/JsonValue$Kind"), accessFlags := 16409, slot := 4, constantValue := 0 }, { name := "FALSE", type := (.object "com/example/keyfold/keyfold/JsonValue$Kind"), accessFlags := 16409, slot := 5, constantValue := 0 }, { name := "NULL", type := (.object "com/example/keyfold/keyfold/JsonValue$Kind"), accessFlags := 16409, slot := 6, constantValue := 0 }, { name := "$VALUES", type := (.array (.object "com/example/keyfold/keyfold/JsonValue$Kind")), accessFlags := 4122, slot := 7, constantValue := 0 }]
  methods := #[]
  instanceTypes := #[(.object "java/lang/String"), .int, .int]
  staticTypes := #[(.object "com/example/keyfold/keyfold/JsonValue$Kind"), (.object "com/example/keyfold/keyfold/JsonValue$Kind"), (.object "com/example/keyfold/keyfold/JsonValue$Kind"), (.object "com/example/keyfold/keyfold/JsonValue$Kind"), (.object "com/example/keyfold/keyfold/JsonValue$Kind"), (.object "com/example/keyfold/keyfold/JsonValue$Kind"), (.object "com/example/keyfold/keyfold/JsonValue$Kind"), (.array (.object "com/example/keyfold/keyfold/JsonValue$Kind"))]
  resolved := Array.replicate 89 none
  statics := some 0 }

def pool7 : Array CpInfo := pool [(1, .methodref 2 3), (0, .class_ 4), (0, .nameAndType 5 6), (0, u "java/lang/Object"), (0, u "<init>"), (0, u "()V"), (0, .class_ 8), (0, u "com/example/keyfold/keyfold/JsonValue$Tape"), (0, .fieldref 7 10), (0, .nameAndType 11 12), (0, u "records"), (0, u "[I"), (0, .class_ 14), (0, u "java/lang/String"), (0, .fieldref 7 16), (0, .nameAndType 17 18), (0, u "names"), (0, u "[Ljava/lang/String;"), (0, .fieldref 7 20), (0, .nameAndType 21 22), (0, u "source"), (0, u "[B"), (0, .fieldref 7 24), (0, .nameAndType 25 26), (0, u "count"), (0, u "I"), (0, .fieldref 7 28), (0, .nameAndType 29 26), (0, u "generation"), (10, .methodref 41 42), (0, .class_ 43), (0, .nameAndType 44 45), (0, u "com/example/keyfold/keyfold/JsonValue$Kind"), (0, u "ordinal"), (0, u "()I"), (0, .class_ 47), (0, u "com/example/keyfold/keyfold/JsonValue"), (0, .methodref 46 49), (0, .nameAndType 5 50), (0, u "(Lcom/example/keyfold/keyfold/JsonValue$Tape;I)V"), (0, u "KIND"), (2, u "START"), (1, u "END"), (1, u "AFTER"), (1, u "FIELDS"), (1, u "KIND_MASK"), (1, u "SPACED"), (1, u "ESCAPED"), (3, u "reset"), (0, u "([B)V"), (0, u "add"), (0, u "(Lcom/example/keyfold/keyfold/JsonValue$Kind;ILjava/lang/String;)I"), (1, u "end"), (0, u "(IIZ)V"), (2, u "first"), (0, u "()Lcom/example/keyfold/keyfold/JsonValue;")] 6

def k7c0 : Code := { maxStack := 2, maxLocals := 1, code := prog_50_method_1_code, exceptionTable := #[], attributes := #[] }
def k7m0 : Method := { name := "<init>", desc := "()V", sig := { parameters := [], returnType := none }, accessFlags := 0, code := some k7c0 }
def k7c1 : Code := { maxStack := 3, maxLocals := 2, code := prog_50_method_2_code, exceptionTable := #[], attributes := #[] }
def k7m1 : Method := { name := "reset", desc := "([B)V", sig := { parameters := [(.array .byte)], returnType := none }, accessFlags := 0, code := some k7c1 }
def k7c2 : Code := { maxStack := 4, maxLocals := 5, code := prog_50_method_3_code, exceptionTable := #[], attributes := #[] }
def k7m2 : Method := { name := "add", desc := "(Lcom/example/keyfold/keyfold/JsonValue$Kind;ILjava/lang/String;)I", sig := { parameters := [(.object "com/example/keyfold/keyfold/JsonValue$Kind"), .int, (.object "java/lang/String")], returnType := some .int }, accessFlags := 0, code := some k7c2 }
def k7c3 : Code := { maxStack := 4, maxLocals := 4, code := prog_50_method_4_code, exceptionTable := #[], attributes := #[] }
def k7m3 : Method := { name := "end", desc := "(IIZ)V", sig := { parameters := [.int, .int, .boolean], returnType := none }, accessFlags := 0, code := some k7c3 }
def k7c4 : Code := { maxStack := 4, maxLocals := 1, code := prog_50_method_6_code, exceptionTable := #[], attributes := #[] }
def k7m4 : Method := { name := "first", desc := "()Lcom/example/keyfold/keyfold/JsonValue;", sig := { parameters := [], returnType := some (.object "com/example/keyfold/keyfold/JsonValue") }, accessFlags := 0, code := some k7c4 }
/-- com/example/keyfold/keyfold/JsonValue$Tape -/
def k7 : Class := { plain "com/example/keyfold/keyfold/JsonValue$Tape" (some 0) with
  accessFlags := 48
  interfaces := #[]
  cf := some (fileOf pool7 7 #[.nestHost 46] #[{ accessFlags := 0, nameIndex := 5, descriptorIndex := 6, attributes := #[] }, { accessFlags := 0, nameIndex := 70, descriptorIndex := 71, attributes := #[] }, { accessFlags := 0, nameIndex := 72, descriptorIndex := 73, attributes := #[] }, { accessFlags := 0, nameIndex := 75, descriptorIndex := 76, attributes := #[] }, { accessFlags := 0, nameIndex := 79, descriptorIndex := 80, attributes := #[] }] 48 2 #[] #[{ accessFlags := 24, nameIndex := 51, descriptorIndex := 26, attributes := #[] }, { accessFlags := 24, nameIndex := 54, descriptorIndex := 26, attributes := #[] }, { accessFlags := 24, nameIndex := 56, descriptorIndex := 26, attributes := #[] }, { accessFlags := 24, nameIndex := 58, descriptorIndex := 26, attributes := #[] }, { accessFlags := 24, nameIndex := 60, descriptorIndex := 26, attributes := #[] }, { accessFlags := 24, nameIndex := 62, descriptorIndex := 26, attributes := #[] }, { accessFlags := 24, nameIndex := 64, descriptorIndex := 26, attributes := #[] }, { accessFlags := 24, nameIndex := 66, descriptorIndex := 26, attributes := #[] }, { accessFlags := 2, nameIndex := 21, descriptorIndex := 22, attributes := #[] }, { accessFlags := 2, nameIndex := 11, descriptorIndex := 12, attributes := #[] }, { accessFlags := 2, nameIndex := 17, descriptorIndex := 18, attributes := #[] }, { accessFlags := 2, nameIndex := 25, descriptorIndex := 26, attributes := #[] }, { accessFlags := 2, nameIndex := 29, descriptorIndex := 26, attributes := #[] }])
  fields := #[{ name := "KIND", type := .int, accessFlags := 24, slot := 0, constantValue := 0 }, { name := "START", type := .int, accessFlags := 24, slot := 1, constantValue := 0 }, { name := "END", type := .int, accessFlags := 24, slot := 2, constantValue := 0 }, { name := "AFTER", type := .int, accessFlags := 24, slot := 3, constantValue := 0 }, { name := "FIELDS", type := .int, accessFlags := 24, slot := 4, constantValue := 0 }, { name := "KIND_MASK", type := .int, accessFlags := 24, slot := 5, constantValue := 0 }, { name := "SPACED", type := .int, accessFlags := 24, slot := 6, constantValue := 0 }, { name := "ESCAPED", type := .int, accessFlags := 24, slot := 7, constantValue := 0 }, { name := "source", type := (.array .byte), accessFlags := 2, slot := 0, constantValue := 0 }, { name := "records", type := (.array .int), accessFlags := 2, slot := 1, constantValue := 0 }, { name := "names", type := (.array (.object "java/lang/String")), accessFlags := 2, slot := 2, constantValue := 0 }, { name := "count", type := .int, accessFlags := 2, slot := 3, constantValue := 0 }, { name := "generation", type := .int, accessFlags := 2, slot := 4, constantValue := 0 }]
  methods := #[k7m0, k7m1, k7m2, k7m3, k7m4]
  instanceTypes := #[(.array .byte), (.array .int), (.array (.object "java/lang/String")), .int, .int]
  staticTypes := #[.int, .int, .int, .int, .int, .int, .int, .int]
  resolved := Array.replicate 87 none
  statics := none }

def pool8 : Array CpInfo := pool [(2, .class_ 4), (1, u "java/lang/CharSequence"), (42, .class_ 48), (0, u "java/lang/CharSequence$1CodePointIterator"), (10, .class_ 60), (0, u "java/lang/CharSequence$1CharIterator"), (5, .class_ 67), (0, u "java/lang/Object")] 63

/-- java/lang/CharSequence -/
def k8 : Class := { plain "java/lang/CharSequence" (some 0) with
  accessFlags := 1537
  interfaces := #[]
  cf := some (fileOf pool8 2 #[.nestMembers #[47, 59]] #[] 1537 66 #[] #[])
  fields := #[]
  methods := #[]
  instanceTypes := #[]
  staticTypes := #[]
  resolved := Array.replicate 131 none
  statics := none }

def pool9 : Array CpInfo := pool [(1, .class_ 2), (0, u "java/lang/constant/ConstantDesc"), (0, .class_ 4), (0, u "java/lang/Object")] 32

/-- java/lang/constant/ConstantDesc -/
def k9 : Class := { plain "java/lang/constant/ConstantDesc" (some 0) with
  accessFlags := 1537
  interfaces := #[]
  cf := some (fileOf pool9 1 #[] #[] 1537 3 #[] #[])
  fields := #[]
  methods := #[]
  instanceTypes := #[]
  staticTypes := #[]
  resolved := Array.replicate 37 none
  statics := none }

def pool10 : Array CpInfo := pool [(2, .class_ 4), (1, u "java/lang/Object"), (0, u "<init>"), (0, u "()V"), (3, .class_ 12), (1, u "java/lang/String"), (0, u "value"), (0, u "[B"), (2, u "coder"), (0, u "B"), (2, u "hash"), (0, u "I"), (2, u "hashIsZero"), (0, u "Z"), (13, u "COMPACT_STRINGS"), (534, .class_ 576), (0, u "java/lang/CharSequence"), (22, u "CASE_INSENSITIVE_ORDER"), (0, u "Ljava/util/Comparator;"), (500, u "serialPersistentFields"), (0, u "[Ljava/io/ObjectStreamField;"), (0, .class_ 1104), (0, u "java/lang/String$CaseInsensitiveComparator"), (1, .class_ 1107), (0, u "java/io/Serializable"), (0, .class_ 1109), (0, u "java/lang/Comparable"), (0, .class_ 1111), (0, u "java/lang/constant/Constable"), (0, .class_ 1113), (0, u "java/lang/constant/ConstantDesc"), (2, u "serialVersionUID"), (0, u "J"), (3, u "REPL"), (0, u "C"), (2, u "LATIN1"), (1, u "UTF16")] 323

def k10m0 : Method := { name := "<init>", desc := "()V", sig := { parameters := [], returnType := none }, accessFlags := 1, code := none }
/-- java/lang/String -/
def k10 : Class := { plain "java/lang/String" (some 0) with
  accessFlags := 49
  interfaces := #[4, 3, 8, 2, 9]
  cf := some (fileOf pool10 10 #[.nestMembers #[1103]] #[{ accessFlags := 1, nameIndex := 5, descriptorIndex := 6, attributes := #[] }] 49 2 #[1106, 1108, 575, 1110, 1112] #[{ accessFlags := 18, nameIndex := 13, descriptorIndex := 14, attributes := #[] }, { accessFlags := 18, nameIndex := 17, descriptorIndex := 18, attributes := #[] }, { accessFlags := 2, nameIndex := 21, descriptorIndex := 22, attributes := #[] }, { accessFlags := 2, nameIndex := 25, descriptorIndex := 26, attributes := #[] }, { accessFlags := 26, nameIndex := 1116, descriptorIndex := 1117, attributes := #[] }, { accessFlags := 24, nameIndex := 40, descriptorIndex := 26, attributes := #[] }, { accessFlags := 26, nameIndex := 1101, descriptorIndex := 1102, attributes := #[] }, { accessFlags := 26, nameIndex := 1121, descriptorIndex := 1122, attributes := #[] }, { accessFlags := 25, nameIndex := 599, descriptorIndex := 600, attributes := #[] }, { accessFlags := 24, nameIndex := 1125, descriptorIndex := 18, attributes := #[] }, { accessFlags := 24, nameIndex := 1127, descriptorIndex := 18, attributes := #[] }])
  fields := #[{ name := "value", type := (.array .byte), accessFlags := 18, slot := 0, constantValue := 0 }, { name := "coder", type := .byte, accessFlags := 18, slot := 1, constantValue := 0 }, { name := "hash", type := .int, accessFlags := 2, slot := 2, constantValue := 0 }, { name := "hashIsZero", type := .boolean, accessFlags := 2, slot := 3, constantValue := 0 }, { name := "serialVersionUID", type := .long, accessFlags := 26, slot := 0, constantValue := 0 }, { name := "COMPACT_STRINGS", type := .boolean, accessFlags := 24, slot := 1, constantValue := 0 }, { name := "serialPersistentFields", type := (.array (.object "java/io/ObjectStreamField")), accessFlags := 26, slot := 2, constantValue := 0 }, { name := "REPL", type := .char, accessFlags := 26, slot := 3, constantValue := 0 }, { name := "CASE_INSENSITIVE_ORDER", type := (.object "java/util/Comparator"), accessFlags := 25, slot := 4, constantValue := 0 }, { name := "LATIN1", type := .byte, accessFlags := 24, slot := 5, constantValue := 0 }, { name := "UTF16", type := .byte, accessFlags := 24, slot := 6, constantValue := 0 }]
  methods := #[k10m0]
  instanceTypes := #[(.array .byte), .byte, .int, .boolean]
  staticTypes := #[.long, .boolean, (.array (.object "java/io/ObjectStreamField")), .char, (.object "java/util/Comparator"), .byte, .byte]
  resolved := Array.replicate 1451 none
  statics := none }

def pool11 : Array CpInfo := pool [(1, .methodref 2 3), (0, .class_ 4), (0, .nameAndType 5 6), (0, u "java/lang/Object"), (0, u "<init>"), (0, u "()V"), (0, .fieldref 8 9), (0, .class_ 10), (0, .nameAndType 11 12), (0, u "com/example/keyfold/keyfold/JsonValue"), (0, u "tape"), (0, u "Lcom/example/keyfold/keyfold/JsonValue$Tape;"), (0, .fieldref 8 14), (0, .nameAndType 15 16), (0, u "index"), (0, u "I"), (0, .fieldref 18 19), (0, .class_ 20), (0, .nameAndType 21 16), (0, u "com/example/keyfold/keyfold/JsonValue$Tape"), (0, u "generation"), (0, .fieldref 8 19), (0, .fieldref 8 24), (0, .nameAndType 25 26), (0, u "KINDS"), (0, u "[Lcom/example/keyfold/keyfold/JsonValue$Kind;"), (0, .methodref 8 28), (0, .nameAndType 29 30), (0, u "field"), (0, u "(I)I"), (2, u "kind"), (0, u "()Lcom/example/keyfold/keyfold/JsonValue$Kind;"), (1, .class_ 38), (1, u "com/example/keyfold/keyfold/JsonValue$Kind"), (13, u "firstMember"), (0, u "()I"), (0, .class_ 55), (0, u "com/example/keyfold/keyfold/JsonValue$Member"), (21, .methodref 8 78), (0, .nameAndType 79 6), (0, u "check"), (0, .fieldref 18 81), (0, .nameAndType 82 83), (0, u "records"), (0, u "[I"), (6, u "(Lcom/example/keyfold/keyfold/JsonValue$Tape;I)V"), (0, .methodref 8 92), (0, .nameAndType 93 94), (0, u "isSpaced"), (0, u "()Z"), (4, u "compact"), (0, u "()[B"), (9, .fieldref 18 111), (0, .nameAndType 112 113), (0, u "source"), (0, u "[B"), (0, .methodref 8 115), (0, .nameAndType 116 53), (0, u "start"), (0, .methodref 8 118), (0, .nameAndType 119 53), (0, u "end"), (3, .methodref 124 125), (0, .class_ 126), (0, .nameAndType 127 128), (0, u "java/util/Arrays"), (0, u "copyOfRange"), (0, u "([BII)[B"), (0, .methodref 130 131), (0, .class_ 132), (0, .nameAndType 133 134), (0, u "com/example/keyfold/keyfold/JsonParser"), (0, u "isWhitespace"), (0, u "(B)Z"), (0, .methodref 124 136), (0, .nameAndType 137 138), (0, u "copyOf"), (0, u "([BI)[B"), (3, .fieldref 8 143), (0, .nameAndType 144 145), (0, u "$assertionsDisabled"), (0, u "Z"), (97, u "LONG_DIGITS"), (2, u "MOST_TEXT_BYTES")] 38

def k11c0 : Code := { maxStack := 2, maxLocals := 3, code := prog_47_method_1_code, exceptionTable := #[], attributes := #[] }
def k11m0 : Method := { name := "<init>", desc := "(Lcom/example/keyfold/keyfold/JsonValue$Tape;I)V", sig := { parameters := [(.object "com/example/keyfold/keyfold/JsonValue$Tape"), .int], returnType := none }, accessFlags := 0, code := some k11c0 }
def k11c1 : Code := { maxStack := 3, maxLocals := 1, code := prog_47_method_2_code, exceptionTable := #[], attributes := #[] }
def k11m1 : Method := { name := "kind", desc := "()Lcom/example/keyfold/keyfold/JsonValue$Kind;", sig := { parameters := [], returnType := some (.object "com/example/keyfold/keyfold/JsonValue$Kind") }, accessFlags := 0, code := some k11c1 }
def k11c2 : Code := { maxStack := 3, maxLocals := 2, code := prog_47_method_5_code, exceptionTable := #[], attributes := #[] }
def k11m2 : Method := { name := "firstMember", desc := "()I", sig := { parameters := [], returnType := some .int }, accessFlags := 0, code := some k11c2 }
def k11c3 : Code := { maxStack := 4, maxLocals := 9, code := prog_47_method_10_code, exceptionTable := #[], attributes := #[] }
def k11m3 : Method := { name := "compact", desc := "()[B", sig := { parameters := [], returnType := some (.array .byte) }, accessFlags := 0, code := some k11c3 }
def k11c4 : Code := { maxStack := 2, maxLocals := 1, code := prog_47_method_16_code, exceptionTable := #[], attributes := #[] }
def k11m4 : Method := { name := "isSpaced", desc := "()Z", sig := { parameters := [], returnType := some .boolean }, accessFlags := 2, code := some k11c4 }
def k11c5 : Code := { maxStack := 2, maxLocals := 1, code := prog_47_method_17_code, exceptionTable := #[], attributes := #[] }
def k11m5 : Method := { name := "start", desc := "()I", sig := { parameters := [], returnType := some .int }, accessFlags := 0, code := some k11c5 }
def k11c6 : Code := { maxStack := 2, maxLocals := 1, code := prog_47_method_18_code, exceptionTable := #[], attributes := #[] }
def k11m6 : Method := { name := "end", desc := "()I", sig := { parameters := [], returnType := some .int }, accessFlags := 0, code := some k11c6 }
def k11c7 : Code := { maxStack := 3, maxLocals := 2, code := prog_47_method_19_code, exceptionTable := #[], attributes := #[] }
def k11m7 : Method := { name := "field", desc := "(I)I", sig := { parameters := [.int], returnType := some .int }, accessFlags := 2, code := some k11c7 }
def k11c8 : Code := { maxStack := 3, maxLocals := 1, code := prog_47_method_20_code, exceptionTable := #[], attributes := #[] }
def k11m8 : Method := { name := "check", desc := "()V", sig := { parameters := [], returnType := none }, accessFlags := 2, code := some k11c8 }
/-- com/example/keyfold/keyfold/JsonValue -/
def k11 : Class := { plain "com/example/keyfold/keyfold/JsonValue" (some 0) with
  accessFlags := 48
  interfaces := #[]
  cf := some (fileOf pool11 8 #[.nestMembers #[18, 54, 36]] #[{ accessFlags := 0, nameIndex := 5, descriptorIndex := 90, attributes := #[] }, { accessFlags := 0, nameIndex := 33, descriptorIndex := 34, attributes := #[] }, { accessFlags := 0, nameIndex := 52, descriptorIndex := 53, attributes := #[] }, { accessFlags := 0, nameIndex := 99, descriptorIndex := 100, attributes := #[] }, { accessFlags := 2, nameIndex := 93, descriptorIndex := 94, attributes := #[] }, { accessFlags := 0, nameIndex := 116, descriptorIndex := 53, attributes := #[] }, { accessFlags := 0, nameIndex := 119, descriptorIndex := 53, attributes := #[] }, { accessFlags := 2, nameIndex := 29, descriptorIndex := 30, attributes := #[] }, { accessFlags := 2, nameIndex := 79, descriptorIndex := 6, attributes := #[] }] 48 2 #[] #[{ accessFlags := 26, nameIndex := 25, descriptorIndex := 26, attributes := #[] }, { accessFlags := 26, nameIndex := 243, descriptorIndex := 16, attributes := #[] }, { accessFlags := 26, nameIndex := 246, descriptorIndex := 16, attributes := #[] }, { accessFlags := 18, nameIndex := 11, descriptorIndex := 12, attributes := #[] }, { accessFlags := 18, nameIndex := 15, descriptorIndex := 16, attributes := #[] }, { accessFlags := 18, nameIndex := 21, descriptorIndex := 16, attributes := #[] }, { accessFlags := 4120, nameIndex := 144, descriptorIndex := 145, attributes := #[] }])
  fields := #[{ name := "KINDS", type := (.array (.object "com/example/keyfold/keyfold/JsonValue$Kind")), accessFlags := 26, slot := 0, constantValue := 0 }, { name := "LONG_DIGITS", type := .int, accessFlags := 26, slot := 1, constantValue := 0 }, { name := "MOST_TEXT_BYTES", type := .int, accessFlags := 26, slot := 2, constantValue := 0 }, { name := "tape", type := (.object "com/example/keyfold/keyfold/JsonValue$Tape"), accessFlags := 18, slot := 0, constantValue := 0 }, { name := "index", type := .int, accessFlags := 18, slot := 1, constantValue := 0 }, { name := "generation", type := .int, accessFlags := 18, slot := 2, constantValue := 0 }, { name := "$assertionsDisabled", type := .boolean, accessFlags := 4120, slot := 3, constantValue := 0 }]
  methods := #[k11m0, k11m1, k11m2, k11m3, k11m4, k11m5, k11m6, k11m7, k11m8]
  instanceTypes := #[(.object "com/example/keyfold/keyfold/JsonValue$Tape"), .int, .int]
  staticTypes := #[(.array (.object "com/example/keyfold/keyfold/JsonValue$Kind")), .int, .int, .boolean]
  resolved := (((Array.replicate 285 none).setIfInBounds 17 (some (.field 7 12))).setIfInBounds 80 (some (.field 7 9))).setIfInBounds 110 (some (.field 7 8))
  statics := some 1 }

def pool12 : Array CpInfo := pool [(2, .class_ 4), (1, u "java/lang/Object"), (0, u "<init>"), (0, u "()V"), (7, .class_ 16), (1, u "java/util/Arrays"), (57, .class_ 76), (1, u "java/util/Arrays$NaturalOrder"), (32, u "()Ljava/lang/Object;"), (3, .class_ 115), (1, u "java/util/Arrays$LegacyMergeSort"), (1, u "Z"), (10, .nameAndType 129 109), (0, u "clone"), (9, u "copyOfRange"), (10, .methodref 151 152), (0, .class_ 153), (0, .nameAndType 154 155), (0, u "java/lang/System"), (0, u "arraycopy"), (0, u "(Ljava/lang/Object;ILjava/lang/Object;II)V"), (146, u "copyOf"), (1, .methodref 305 306), (0, .class_ 307), (0, .nameAndType 308 309), (0, u "java/lang/Math"), (0, u "min"), (0, u "(II)I"), (0, .methodref 311 128), (0, .class_ 312), (0, u "[B"), (26, .methodref 14 340), (0, .nameAndType 341 342), (0, u "copyOfRangeByte"), (0, u "([BII)[B"), (0, .methodref 14 344), (0, .nameAndType 345 346), (0, u "checkLength"), (0, u "(II)V"), (28, .class_ 376), (0, u "java/util/Arrays$ArrayList"), (68, u "$assertionsDisabled"), (269, u "MIN_ARRAY_SORT_GRAN"), (0, u "I"), (2, u "INSERTIONSORT_THRESHOLD"), (149, u "([BI)[B"), (105, .class_ 976), (0, u "java/util/Arrays$ArrayItr")] 52

def k12m0 : Method := { name := "<init>", desc := "()V", sig := { parameters := [], returnType := none }, accessFlags := 2, code := none }
def k12c1 : Code := { maxStack := 6, maxLocals := 3, code := jdk_65_method_121_code, exceptionTable := #[], attributes := #[] }
def k12m1 : Method := { name := "copyOf", desc := "([BI)[B", sig := { parameters := [(.array .byte), .int], returnType := some (.array .byte) }, accessFlags := 9, code := some k12c1 }
def k12c2 : Code := { maxStack := 4, maxLocals := 2, code := jdk_65_method_131_code, exceptionTable := #[], attributes := #[] }
def k12m2 : Method := { name := "checkLength", desc := "(II)V", sig := { parameters := [.int, .int], returnType := none }, accessFlags := 10, code := some k12c2 }
def k12c3 : Code := { maxStack := 3, maxLocals := 3, code := jdk_65_method_132_code, exceptionTable := #[], attributes := #[] }
def k12m3 : Method := { name := "copyOfRange", desc := "([BII)[B", sig := { parameters := [(.array .byte), .int, .int], returnType := some (.array .byte) }, accessFlags := 9, code := some k12c3 }
def k12c4 : Code := { maxStack := 6, maxLocals := 5, code := jdk_65_method_133_code, exceptionTable := #[], attributes := #[] }
def k12m4 : Method := { name := "copyOfRangeByte", desc := "([BII)[B", sig := { parameters := [(.array .byte), .int, .int], returnType := some (.array .byte) }, accessFlags := 10, code := some k12c4 }
/-- java/util/Arrays -/
def k12 : Class := { plain "java/util/Arrays" (some 0) with
  accessFlags := 49
  interfaces := #[]
  cf := some (fileOf pool12 14 #[.nestMembers #[975, 375, 113, 74]] #[{ accessFlags := 2, nameIndex := 5, descriptorIndex := 6, attributes := #[] }, { accessFlags := 9, nameIndex := 302, descriptorIndex := 869, attributes := #[] }, { accessFlags := 10, nameIndex := 345, descriptorIndex := 346, attributes := #[] }, { accessFlags := 9, nameIndex := 139, descriptorIndex := 342, attributes := #[] }, { accessFlags := 10, nameIndex := 341, descriptorIndex := 342, attributes := #[] }] 49 2 #[] #[{ accessFlags := 26, nameIndex := 715, descriptorIndex := 716, attributes := #[] }, { accessFlags := 26, nameIndex := 719, descriptorIndex := 716, attributes := #[] }, { accessFlags := 4120, nameIndex := 445, descriptorIndex := 117, attributes := #[] }])
  fields := #[{ name := "MIN_ARRAY_SORT_GRAN", type := .int, accessFlags := 26, slot := 0, constantValue := 0 }, { name := "INSERTIONSORT_THRESHOLD", type := .int, accessFlags := 26, slot := 1, constantValue := 0 }, { name := "$assertionsDisabled", type := .boolean, accessFlags := 4120, slot := 2, constantValue := 0 }]
  methods := #[k12m0, k12m1, k12m2, k12m3, k12m4]
  instanceTypes := #[]
  staticTypes := #[.int, .int, .boolean]
  resolved := Array.replicate 1029 none
  statics := none }

def pool13 : Array CpInfo := pool [(1, .class_ 2), (0, u "java/lang/Math"), (1, .class_ 6), (1, u "java/lang/Object"), (0, u "<init>"), (0, u "()V"), (89, .class_ 100), (1, u "java/lang/Math$RandomNumberGeneratorHolder"), (71, u "negativeZeroFloatBits"), (0, u "J"), (2, u "negativeZeroDoubleBits"), (24, u "min"), (43, u "$assertionsDisabled"), (0, u "Z"), (88, u "(II)I"), (2, u "twoToTheDoubleScaleDown"), (0, u "D"), (4, u "twoToTheDoubleScaleUp"), (9, u "E"), (3, u "PI"), (2, u "TAU"), (2, u "DEGREES_TO_RADIANS"), (0, u "RADIANS_TO_DEGREES")] 94

def k13m0 : Method := { name := "<init>", desc := "()V", sig := { parameters := [], returnType := none }, accessFlags := 2, code := none }
def k13c1 : Code := { maxStack := 2, maxLocals := 2, code := jdk_29_method_69_code, exceptionTable := #[], attributes := #[] }
def k13m1 : Method := { name := "min", desc := "(II)I", sig := { parameters := [.int, .int], returnType := some .int }, accessFlags := 9, code := some k13c1 }
/-- java/lang/Math -/
def k13 : Class := { plain "java/lang/Math" (some 0) with
  accessFlags := 49
  interfaces := #[]
  cf := some (fileOf pool13 1 #[.nestMembers #[98]] #[{ accessFlags := 2, nameIndex := 7, descriptorIndex := 8, attributes := #[] }, { accessFlags := 9, nameIndex := 201, descriptorIndex := 335, attributes := #[] }] 49 4 #[] #[{ accessFlags := 25, nameIndex := 354, descriptorIndex := 339, attributes := #[] }, { accessFlags := 25, nameIndex := 358, descriptorIndex := 339, attributes := #[] }, { accessFlags := 25, nameIndex := 361, descriptorIndex := 339, attributes := #[] }, { accessFlags := 26, nameIndex := 364, descriptorIndex := 339, attributes := #[] }, { accessFlags := 26, nameIndex := 365, descriptorIndex := 339, attributes := #[] }, { accessFlags := 26, nameIndex := 172, descriptorIndex := 173, attributes := #[] }, { accessFlags := 26, nameIndex := 176, descriptorIndex := 173, attributes := #[] }, { accessFlags := 8, nameIndex := 344, descriptorIndex := 339, attributes := #[] }, { accessFlags := 8, nameIndex := 338, descriptorIndex := 339, attributes := #[] }, { accessFlags := 4120, nameIndex := 245, descriptorIndex := 246, attributes := #[] }])
  fields := #[{ name := "E", type := .double, accessFlags := 25, slot := 0, constantValue := 0 }, { name := "PI", type := .double, accessFlags := 25, slot := 1, constantValue := 0 }, { name := "TAU", type := .double, accessFlags := 25, slot := 2, constantValue := 0 }, { name := "DEGREES_TO_RADIANS", type := .double, accessFlags := 26, slot := 3, constantValue := 0 }, { name := "RADIANS_TO_DEGREES", type := .double, accessFlags := 26, slot := 4, constantValue := 0 }, { name := "negativeZeroFloatBits", type := .long, accessFlags := 26, slot := 5, constantValue := 0 }, { name := "negativeZeroDoubleBits", type := .long, accessFlags := 26, slot := 6, constantValue := 0 }, { name := "twoToTheDoubleScaleUp", type := .double, accessFlags := 8, slot := 7, constantValue := 0 }, { name := "twoToTheDoubleScaleDown", type := .double, accessFlags := 8, slot := 8, constantValue := 0 }, { name := "$assertionsDisabled", type := .boolean, accessFlags := 4120, slot := 9, constantValue := 0 }]
  methods := #[k13m0, k13m1]
  instanceTypes := #[]
  staticTypes := #[.double, .double, .double, .double, .double, .long, .long, .double, .double, .boolean]
  resolved := Array.replicate 460 none
  statics := none }

def pool14 : Array CpInfo := pool [(2, .class_ 4), (1, u "java/lang/Object"), (0, u "<init>"), (0, u "()V"), (1, .class_ 10), (1, u "java/lang/System"), (0, u "allowSecurityManager"), (0, u "I"), (16, u "cons"), (0, u "Ljava/io/Console;"), (77, .class_ 110), (1, u "java/lang/System$CallersHolder"), (43, u "initialErrStream"), (0, u "Ljava/io/PrintStream;"), (19, u "security"), (0, u "Ljava/lang/SecurityManager;"), (31, .class_ 209), (0, u "java/lang/System$1"), (7, u "props"), (0, u "Ljava/util/Properties;"), (2, u "lineSeparator"), (0, u "Ljava/lang/String;"), (96, .class_ 321), (1, u "java/lang/System$LoggerFinder"), (5, .class_ 328), (0, u "java/lang/System$Logger"), (67, u "err"), (2, u "out"), (91, u "notSupportedJnuEncoding"), (15, u "in"), (17, u "initialIn"), (0, u "Ljava/io/InputStream;"), (35, u "bootLayer"), (0, u "Ljava/lang/ModuleLayer;"), (99, .class_ 664), (0, u "java/lang/System$2"), (9, u "NEVER"), (2, u "MAYBE"), (49, u "arraycopy"), (0, u "(Ljava/lang/Object;ILjava/lang/Object;II)V"), (72, .class_ 802), (0, u "java/lang/System$Logger$Level")] 31

def k14m0 : Method := { name := "<init>", desc := "()V", sig := { parameters := [], returnType := none }, accessFlags := 2, code := none }
def k14m1 : Method := { name := "arraycopy", desc := "(Ljava/lang/Object;ILjava/lang/Object;II)V", sig := { parameters := [(.object "java/lang/Object"), .int, (.object "java/lang/Object"), .int, .int], returnType := none }, accessFlags := 265, code := none }
/-- java/lang/System -/
def k14 : Class := { plain "java/lang/System" (some 0) with
  accessFlags := 49
  interfaces := #[]
  cf := some (fileOf pool14 8 #[.nestMembers #[319, 327, 801, 108, 663, 208]] #[{ accessFlags := 2, nameIndex := 5, descriptorIndex := 6, attributes := #[] }, { accessFlags := 265, nameIndex := 727, descriptorIndex := 728, attributes := #[] }] 49 2 #[] #[{ accessFlags := 25, nameIndex := 507, descriptorIndex := 526, attributes := #[] }, { accessFlags := 25, nameIndex := 399, descriptorIndex := 155, attributes := #[] }, { accessFlags := 25, nameIndex := 396, descriptorIndex := 155, attributes := #[] }, { accessFlags := 10, nameIndex := 525, descriptorIndex := 526, attributes := #[] }, { accessFlags := 26, nameIndex := 674, descriptorIndex := 12, attributes := #[] }, { accessFlags := 26, nameIndex := 677, descriptorIndex := 12, attributes := #[] }, { accessFlags := 10, nameIndex := 11, descriptorIndex := 12, attributes := #[] }, { accessFlags := 74, nameIndex := 175, descriptorIndex := 176, attributes := #[] }, { accessFlags := 10, nameIndex := 491, descriptorIndex := 222, attributes := #[] }, { accessFlags := 74, nameIndex := 29, descriptorIndex := 30, attributes := #[] }, { accessFlags := 74, nameIndex := 154, descriptorIndex := 155, attributes := #[] }, { accessFlags := 10, nameIndex := 217, descriptorIndex := 218, attributes := #[] }, { accessFlags := 10, nameIndex := 221, descriptorIndex := 222, attributes := #[] }, { accessFlags := 8, nameIndex := 562, descriptorIndex := 563, attributes := #[] }])
  fields := #[{ name := "in", type := (.object "java/io/InputStream"), accessFlags := 25, slot := 0, constantValue := 0 }, { name := "out", type := (.object "java/io/PrintStream"), accessFlags := 25, slot := 1, constantValue := 0 }, { name := "err", type := (.object "java/io/PrintStream"), accessFlags := 25, slot := 2, constantValue := 0 }, { name := "initialIn", type := (.object "java/io/InputStream"), accessFlags := 10, slot := 3, constantValue := 0 }, { name := "NEVER", type := .int, accessFlags := 26, slot := 4, constantValue := 0 }, { name := "MAYBE", type := .int, accessFlags := 26, slot := 5, constantValue := 0 }, { name := "allowSecurityManager", type := .int, accessFlags := 10, slot := 6, constantValue := 0 }, { name := "security", type := (.object "java/lang/SecurityManager"), accessFlags := 74, slot := 7, constantValue := 0 }, { name := "notSupportedJnuEncoding", type := (.object "java/lang/String"), accessFlags := 10, slot := 8, constantValue := 0 }, { name := "cons", type := (.object "java/io/Console"), accessFlags := 74, slot := 9, constantValue := 0 }, { name := "initialErrStream", type := (.object "java/io/PrintStream"), accessFlags := 74, slot := 10, constantValue := 0 }, { name := "props", type := (.object "java/util/Properties"), accessFlags := 10, slot := 11, constantValue := 0 }, { name := "lineSeparator", type := (.object "java/lang/String"), accessFlags := 10, slot := 12, constantValue := 0 }, { name := "bootLayer", type := (.object "java/lang/ModuleLayer"), accessFlags := 8, slot := 13, constantValue := 0 }]
  methods := #[k14m0, k14m1]
  instanceTypes := #[]
  staticTypes := #[(.object "java/io/InputStream"), (.object "java/io/PrintStream"), (.object "java/io/PrintStream"), (.object "java/io/InputStream"), .int, .int, .int, (.object "java/lang/SecurityManager"), (.object "java/lang/String"), (.object "java/io/Console"), (.object "java/io/PrintStream"), (.object "java/util/Properties"), (.object "java/lang/String"), (.object "java/lang/ModuleLayer")]
  resolved := Array.replicate 834 none
  statics := none }

def pool15 : Array CpInfo := pool [(2, .class_ 4), (1, u "java/lang/Object"), (0, u "<init>"), (0, u "()V"), (4, .class_ 13), (1, u "com/example/keyfold/keyfold/JsonParser"), (0, u "tape"), (0, u "Lcom/example/keyfold/keyfold/JsonValue$Tape;"), (4, u "names"), (0, u "[Ljava/lang/String;"), (1, u "[B"), (2, u "nameBytes"), (0, u "[[B"), (2, u "bytes"), (2, u "start"), (0, u "I"), (2, u "end"), (2, u "depth"), (62, u "(B)Z"), (23, u "skipped"), (0, u "J"), (27, u "escapes"), (67, u "isWhitespace"), (47, u "MAX_DEPTH"), (2, u "NAMES")] 42

def k15m0 : Method := { name := "<init>", desc := "()V", sig := { parameters := [], returnType := none }, accessFlags := 0, code := none }
def k15c1 : Code := { maxStack := 2, maxLocals := 1, code := prog_46_method_3_code, exceptionTable := #[], attributes := #[] }
def k15m1 : Method := { name := "isWhitespace", desc := "(B)Z", sig := { parameters := [.byte], returnType := some .boolean }, accessFlags := 8, code := some k15c1 }
/-- com/example/keyfold/keyfold/JsonParser -/
def k15 : Class := { plain "com/example/keyfold/keyfold/JsonParser" (some 0) with
  accessFlags := 48
  interfaces := #[]
  cf := some (fileOf pool15 11 #[] #[{ accessFlags := 0, nameIndex := 5, descriptorIndex := 6, attributes := #[] }, { accessFlags := 8, nameIndex := 224, descriptorIndex := 103, attributes := #[] }] 48 2 #[] #[{ accessFlags := 24, nameIndex := 272, descriptorIndex := 34, attributes := #[] }, { accessFlags := 26, nameIndex := 275, descriptorIndex := 34, attributes := #[] }, { accessFlags := 18, nameIndex := 14, descriptorIndex := 15, attributes := #[] }, { accessFlags := 2, nameIndex := 30, descriptorIndex := 23, attributes := #[] }, { accessFlags := 2, nameIndex := 33, descriptorIndex := 34, attributes := #[] }, { accessFlags := 2, nameIndex := 37, descriptorIndex := 34, attributes := #[] }, { accessFlags := 2, nameIndex := 40, descriptorIndex := 34, attributes := #[] }, { accessFlags := 2, nameIndex := 127, descriptorIndex := 128, attributes := #[] }, { accessFlags := 2, nameIndex := 156, descriptorIndex := 128, attributes := #[] }, { accessFlags := 18, nameIndex := 20, descriptorIndex := 21, attributes := #[] }, { accessFlags := 18, nameIndex := 26, descriptorIndex := 27, attributes := #[] }])
  fields := #[{ name := "MAX_DEPTH", type := .int, accessFlags := 24, slot := 0, constantValue := 0 }, { name := "NAMES", type := .int, accessFlags := 26, slot := 1, constantValue := 0 }, { name := "tape", type := (.object "com/example/keyfold/keyfold/JsonValue$Tape"), accessFlags := 18, slot := 0, constantValue := 0 }, { name := "bytes", type := (.array .byte), accessFlags := 2, slot := 1, constantValue := 0 }, { name := "start", type := .int, accessFlags := 2, slot := 2, constantValue := 0 }, { name := "end", type := .int, accessFlags := 2, slot := 3, constantValue := 0 }, { name := "depth", type := .int, accessFlags := 2, slot := 4, constantValue := 0 }, { name := "skipped", type := .long, accessFlags := 2, slot := 5, constantValue := 0 }, { name := "escapes", type := .long, accessFlags := 2, slot := 6, constantValue := 0 }, { name := "names", type := (.array (.object "java/lang/String")), accessFlags := 18, slot := 7, constantValue := 0 }, { name := "nameBytes", type := (.array (.array .byte)), accessFlags := 18, slot := 8, constantValue := 0 }]
  methods := #[k15m0, k15m1]
  instanceTypes := #[(.object "com/example/keyfold/keyfold/JsonValue$Tape"), (.array .byte), .int, .int, .int, .long, .long, (.array (.object "java/lang/String")), (.array (.array .byte))]
  staticTypes := #[.int, .int]
  resolved := Array.replicate 318 none
  statics := none }

def pool16 : Array CpInfo := pool [(1, .class_ 2), (0, u "java/lang/Cloneable"), (0, .class_ 4), (0, u "java/lang/Object")] 2

/-- java/lang/Cloneable -/
def k16 : Class := { plain "java/lang/Cloneable" (some 0) with
  accessFlags := 1537
  interfaces := #[]
  cf := some (fileOf pool16 1 #[] #[] 1537 3 #[] #[])
  fields := #[]
  methods := #[]
  instanceTypes := #[]
  staticTypes := #[]
  resolved := Array.replicate 7 none
  statics := none }

/-- the primitive byte -/
def k17 : Class := { plain "byte" none with kind := .primitive 'B', accessFlags := 0x411 }
/-- [B -/
def k18 : Class := { plain "[B" (some 0) with kind := .array 17 .byte, interfaces := #[16, 4], accessFlags := 1041 }

/-- the primitive int -/
def k19 : Class := { plain "int" none with kind := .primitive 'I', accessFlags := 0x411 }
/-- [I -/
def k20 : Class := { plain "[I" (some 0) with kind := .array 19 .int, interfaces := #[16, 4], accessFlags := 1041 }

/-- [Lcom/example/keyfold/keyfold/JsonValue$Kind; -/
def k21 : Class := { plain "[Lcom/example/keyfold/keyfold/JsonValue$Kind;" (some 0) with kind := .array 6 (.object "com/example/keyfold/keyfold/JsonValue$Kind"), interfaces := #[16, 4], accessFlags := 1041 }

/-- [Ljava/lang/String; -/
def k22 : Class := { plain "[Ljava/lang/String;" (some 0) with kind := .array 10 (.object "java/lang/String"), interfaces := #[16, 4], accessFlags := 1041 }

def heap : Heap := #[{ cls := 6, slots := #[.ref 3, .ref 4, .ref 5, .ref 6, .ref 7, .ref 8, .ref 9, .null], vm := .statics 6 },
  { cls := 11, slots := #[.ref 2, .int 0, .int 0, .int 1], vm := .statics 11 },
  { cls := 21, slots := #[.ref 3, .ref 4, .ref 5, .ref 6, .ref 7, .ref 8, .ref 9], vm := .none },
  { cls := 6, slots := #[.null, .int 0, .int 0], vm := .none },
  { cls := 6, slots := #[.null, .int 1, .int 0], vm := .none },
  { cls := 6, slots := #[.null, .int 2, .int 0], vm := .none },
  { cls := 6, slots := #[.null, .int 3, .int 0], vm := .none },
  { cls := 6, slots := #[.null, .int 4, .int 0], vm := .none },
  { cls := 6, slots := #[.null, .int 5, .int 0], vm := .none },
  { cls := 6, slots := #[.null, .int 6, .int 0], vm := .none }]
def classes : Array Class := #[k0, k1, k2, k3, k4, k5, k6, k7, k8, k9, k10, k11, k12, k13, k14, k15, k16, k17, k18, k19, k20, k21, k22]
def interned : List (Array UInt16 × Addr) := []
def slotsUsed : Nat := 40
def theMethod : MethodId := ⟨1, 2⟩
def args0 : Array Value := #[.int 1, .int 1, .int 1, .int 1]
def aboutOver (below : List Frame) : State where
  vm := { classes := classes, interned := interned.toArray }
  heap := heap
  slotsUsed := slotsUsed
  threads := #[{ frames := .invoking theMethod args0 :: below }]
def below0 : List Frame := [.native { method := ⟨0, 0⟩, args := #[] }]
def about1 : State := aboutOver below0
def p0 : Program := .bare "" "" ""
def e0 : Env := launch0.env 0 0 0
theorem w_frames : about1.frames = Frame.invoking theMethod args0 :: below0 := rfl
set_option maxRecDepth 65536 in
theorem w_args : argsFit about1.vm theMethod args0 = true := by decide +kernel
set_option maxRecDepth 65536 in
theorem w_heap : heapFits about1 = true := by decide +kernel
set_option maxRecDepth 65536 in
theorem w_runnable : about1.curStatus? = some .runnable := by decide +kernel
set_option maxRecDepth 65536 in
theorem w_alone : about1.alone = true := by decide +kernel
set_option maxRecDepth 65536 in
theorem w_named : about1.methodNamed? x = some theMethod := by decide +kernel
set_option maxRecDepth 65536 in
theorem w_hears : about1.hears theMethod below0 = true := by decide +kernel
set_option maxRecDepth 65536 in
theorem w_ripe : about1.ripe theMethod args0 below0 = true := by decide +kernel
theorem w_running : about1.status = .running := rfl
set_option maxRecDepth 65536 in
theorem w_room : about1.hasRoom e0.platform room_1 = true :=
  launch0.hasRoom_least _ room_1 (by decide +kernel) (by decide +kernel) (by decide +kernel) (by decide +kernel) (by decide +kernel) (by decide +kernel)
theorem allAtoms_all (ts : List Jvm.Cond) (a : Array Jvm.Value) (st : Jvm.State) : (allAtoms ts).before a st = ts.all (fun c => c.before a st) := by
  induction ts with
  | nil => rfl
  | cons c t ih =>
    show (Jvm.Cond.and c (allAtoms t)).before a st = _
    rw [Jvm.Cond.before_and, ih, List.all_cons]
def words1 : List Jvm.Cond := Jvm.Cond.code x code maxLocals ret :: tables_1
/-- a 'code' word, met by the world's own term for the bytes: nothing is compared byte by byte -/
theorem code_word {y : MethodName} {bytes : ByteArray} {mx : Nat} {rt : Option FieldType} {a : Array Value} {s : State} {m : MethodId} {meth : Method} {c : Code} (h1 : s.methodNamed? y = some m) (h2 : s.vm.method? m = some meth) (h3 : meth.code = some c) (h4 : c.code = bytes)
    (h5 : (c.maxLocals == mx && c.exceptionTable.isEmpty && decide (c.maxStack ≤ mostOperands) && decide (meth.sig.returnType = rt) && !meth.locks && decide (parseMethodDescriptor y.desc = some meth.sig)) = true) : (Jvm.Cond.code y bytes mx rt).before a s = true := by
  simp only [Bool.and_eq_true, beq_iff_eq, Bool.not_eq_true', decide_eq_true_eq] at h5
  obtain ⟨⟨⟨⟨⟨g1, g2⟩, g3⟩, g4⟩, g5⟩, g6⟩ := h5
  simp [Cond.before, Cond.holds, Cond.value, h1, h2, h3, h4, g1, g2, g3, g4, g5, g6]
def isCode : Jvm.Cond → Bool
  | .code _ _ _ _ => true
  | _ => false
theorem all_split {L : List Jvm.Cond} {P : Jvm.Cond → Bool} (h1 : L.all (fun c => isCode c || P c) = true) (h2 : ∀ c ∈ L.filter isCode, P c = true) : L.all P = true := by
  refine List.all_eq_true.mpr fun c hc => ?_
  have h := List.all_eq_true.mp h1 c hc
  rcases Bool.eq_false_or_eq_true (isCode c) with hi | hi
  · exact h2 c (List.mem_filter.mpr ⟨hc, hi⟩)
  · simpa [hi] using h
set_option maxRecDepth 65536 in
theorem w_c0 : (Jvm.Cond.code x code maxLocals ret).before args0 about1 = true := code_word (m := ⟨1, 2⟩) (meth := k1m2) (c := k1c2) (by decide +kernel) rfl rfl rfl (by decide +kernel)
set_option maxRecDepth 65536 in
theorem w_c1 : (Jvm.Cond.code ({ cls := "com/example/keyfold/keyfold/TapeEndPinLaw", name := "kindOf", desc := "(I)Lcom/example/keyfold/keyfold/JsonValue$Kind;" } : Jvm.MethodName) method_2_code (1 : Nat) (Option.some (Jvm.ClassFile.FieldType.object "com/example/keyfold/keyfold/JsonValue$Kind"))).before args0 about1 = true := code_word (m := ⟨1, 1⟩) (meth := k1m1) (c := k1c1) (by decide +kernel) rfl rfl rfl (by decide +kernel)
set_option maxRecDepth 65536 in
theorem w_c2 : (Jvm.Cond.code ({ cls := "com/example/keyfold/keyfold/JsonValue$Tape", name := "<init>", desc := "()V" } : Jvm.MethodName) prog_50_method_1_code (1 : Nat) (Option.none : Option Jvm.ClassFile.FieldType)).before args0 about1 = true := code_word (m := ⟨7, 0⟩) (meth := k7m0) (c := k7c0) (by decide +kernel) rfl rfl rfl (by decide +kernel)
set_option maxRecDepth 65536 in
theorem w_c3 : (Jvm.Cond.code ({ cls := "java/lang/Object", name := "<init>", desc := "()V" } : Jvm.MethodName) object_method_1_code (1 : Nat) (Option.none : Option Jvm.ClassFile.FieldType)).before args0 about1 = true := code_word (m := ⟨0, 0⟩) (meth := k0m0) (c := k0c0) (by decide +kernel) rfl rfl rfl (by decide +kernel)
set_option maxRecDepth 65536 in
theorem w_c4 : (Jvm.Cond.code ({ cls := "com/example/keyfold/keyfold/JsonValue$Tape", name := "reset", desc := "([B)V" } : Jvm.MethodName) prog_50_method_2_code (2 : Nat) (Option.none : Option Jvm.ClassFile.FieldType)).before args0 about1 = true := code_word (m := ⟨7, 1⟩) (meth := k7m1) (c := k7c1) (by decide +kernel) rfl rfl rfl (by decide +kernel)
set_option maxRecDepth 65536 in
theorem w_c5 : (Jvm.Cond.code ({ cls := "com/example/keyfold/keyfold/JsonValue$Tape", name := "add", desc := "(Lcom/example/keyfold/keyfold/JsonValue$Kind;ILjava/lang/String;)I" } : Jvm.MethodName) prog_50_method_3_code (5 : Nat) (Option.some Jvm.ClassFile.FieldType.int)).before args0 about1 = true := code_word (m := ⟨7, 2⟩) (meth := k7m2) (c := k7c2) (by decide +kernel) rfl rfl rfl (by decide +kernel)
set_option maxRecDepth 65536 in
theorem w_c6 : (Jvm.Cond.code ({ cls := "java/lang/Enum", name := "ordinal", desc := "()I" } : Jvm.MethodName) jdk_37_method_2_code (1 : Nat) (Option.some Jvm.ClassFile.FieldType.int)).before args0 about1 = true := code_word (m := ⟨5, 0⟩) (meth := k5m0) (c := k5c0) (by decide +kernel) rfl rfl rfl (by decide +kernel)
set_option maxRecDepth 65536 in
theorem w_c7 : (Jvm.Cond.code ({ cls := "com/example/keyfold/keyfold/JsonValue$Tape", name := "end", desc := "(IIZ)V" } : Jvm.MethodName) prog_50_method_4_code (4 : Nat) (Option.none : Option Jvm.ClassFile.FieldType)).before args0 about1 = true := code_word (m := ⟨7, 3⟩) (meth := k7m3) (c := k7c3) (by decide +kernel) rfl rfl rfl (by decide +kernel)
set_option maxRecDepth 65536 in
theorem w_c8 : (Jvm.Cond.code ({ cls := "com/example/keyfold/keyfold/JsonValue$Tape", name := "first", desc := "()Lcom/example/keyfold/keyfold/JsonValue;" } : Jvm.MethodName) prog_50_method_6_code (1 : Nat) (Option.some (Jvm.ClassFile.FieldType.object "com/example/keyfold/keyfold/JsonValue"))).before args0 about1 = true := code_word (m := ⟨7, 4⟩) (meth := k7m4) (c := k7c4) (by decide +kernel) rfl rfl rfl (by decide +kernel)
set_option maxRecDepth 65536 in
theorem w_c9 : (Jvm.Cond.code ({ cls := "com/example/keyfold/keyfold/JsonValue", name := "<init>", desc := "(Lcom/example/keyfold/keyfold/JsonValue$Tape;I)V" } : Jvm.MethodName) prog_47_method_1_code (3 : Nat) (Option.none : Option Jvm.ClassFile.FieldType)).before args0 about1 = true := code_word (m := ⟨11, 0⟩) (meth := k11m0) (c := k11c0) (by decide +kernel) rfl rfl rfl (by decide +kernel)
set_option maxRecDepth 65536 in
theorem w_c10 : (Jvm.Cond.code ({ cls := "com/example/keyfold/keyfold/JsonValue", name := "kind", desc := "()Lcom/example/keyfold/keyfold/JsonValue$Kind;" } : Jvm.MethodName) prog_47_method_2_code (1 : Nat) (Option.some (Jvm.ClassFile.FieldType.object "com/example/keyfold/keyfold/JsonValue$Kind"))).before args0 about1 = true := code_word (m := ⟨11, 1⟩) (meth := k11m1) (c := k11c1) (by decide +kernel) rfl rfl rfl (by decide +kernel)
set_option maxRecDepth 65536 in
theorem w_c11 : (Jvm.Cond.code ({ cls := "com/example/keyfold/keyfold/JsonValue", name := "field", desc := "(I)I" } : Jvm.MethodName) prog_47_method_19_code (2 : Nat) (Option.some Jvm.ClassFile.FieldType.int)).before args0 about1 = true := code_word (m := ⟨11, 7⟩) (meth := k11m7) (c := k11c7) (by decide +kernel) rfl rfl rfl (by decide +kernel)
set_option maxRecDepth 65536 in
theorem w_c12 : (Jvm.Cond.code ({ cls := "com/example/keyfold/keyfold/JsonValue", name := "check", desc := "()V" } : Jvm.MethodName) prog_47_method_20_code (1 : Nat) (Option.none : Option Jvm.ClassFile.FieldType)).before args0 about1 = true := code_word (m := ⟨11, 8⟩) (meth := k11m8) (c := k11c8) (by decide +kernel) rfl rfl rfl (by decide +kernel)
set_option maxRecDepth 65536 in
theorem w_c13 : (Jvm.Cond.code ({ cls := "com/example/keyfold/keyfold/JsonValue", name := "start", desc := "()I" } : Jvm.MethodName) prog_47_method_17_code (1 : Nat) (Option.some Jvm.ClassFile.FieldType.int)).before args0 about1 = true := code_word (m := ⟨11, 5⟩) (meth := k11m5) (c := k11c5) (by decide +kernel) rfl rfl rfl (by decide +kernel)
set_option maxRecDepth 65536 in
theorem w_c14 : (Jvm.Cond.code ({ cls := "com/example/keyfold/keyfold/JsonValue", name := "end", desc := "()I" } : Jvm.MethodName) prog_47_method_18_code (1 : Nat) (Option.some Jvm.ClassFile.FieldType.int)).before args0 about1 = true := code_word (m := ⟨11, 6⟩) (meth := k11m6) (c := k11c6) (by decide +kernel) rfl rfl rfl (by decide +kernel)
set_option maxRecDepth 65536 in
theorem w_c15 : (Jvm.Cond.code ({ cls := "com/example/keyfold/keyfold/JsonValue", name := "firstMember", desc := "()I" } : Jvm.MethodName) prog_47_method_5_code (2 : Nat) (Option.some Jvm.ClassFile.FieldType.int)).before args0 about1 = true := code_word (m := ⟨11, 2⟩) (meth := k11m2) (c := k11c2) (by decide +kernel) rfl rfl rfl (by decide +kernel)
set_option maxRecDepth 65536 in
theorem w_c16 : (Jvm.Cond.code ({ cls := "com/example/keyfold/keyfold/JsonValue", name := "compact", desc := "()[B" } : Jvm.MethodName) prog_47_method_10_code (9 : Nat) (Option.some (Jvm.ClassFile.FieldType.array Jvm.ClassFile.FieldType.byte))).before args0 about1 = true := code_word (m := ⟨11, 3⟩) (meth := k11m3) (c := k11c3) (by decide +kernel) rfl rfl rfl (by decide +kernel)
set_option maxRecDepth 65536 in
theorem w_c17 : (Jvm.Cond.code ({ cls := "com/example/keyfold/keyfold/JsonValue", name := "isSpaced", desc := "()Z" } : Jvm.MethodName) prog_47_method_16_code (1 : Nat) (Option.some Jvm.ClassFile.FieldType.boolean)).before args0 about1 = true := code_word (m := ⟨11, 4⟩) (meth := k11m4) (c := k11c4) (by decide +kernel) rfl rfl rfl (by decide +kernel)
set_option maxRecDepth 65536 in
theorem w_c18 : (Jvm.Cond.code ({ cls := "java/util/Arrays", name := "copyOfRange", desc := "([BII)[B" } : Jvm.MethodName) jdk_65_method_132_code (3 : Nat) (Option.some (Jvm.ClassFile.FieldType.array Jvm.ClassFile.FieldType.byte))).before args0 about1 = true := code_word (m := ⟨12, 3⟩) (meth := k12m3) (c := k12c3) (by decide +kernel) rfl rfl rfl (by decide +kernel)
set_option maxRecDepth 65536 in
theorem w_c19 : (Jvm.Cond.code ({ cls := "java/util/Arrays", name := "copyOfRangeByte", desc := "([BII)[B" } : Jvm.MethodName) jdk_65_method_133_code (5 : Nat) (Option.some (Jvm.ClassFile.FieldType.array Jvm.ClassFile.FieldType.byte))).before args0 about1 = true := code_word (m := ⟨12, 4⟩) (meth := k12m4) (c := k12c4) (by decide +kernel) rfl rfl rfl (by decide +kernel)
set_option maxRecDepth 65536 in
theorem w_c20 : (Jvm.Cond.code ({ cls := "java/util/Arrays", name := "checkLength", desc := "(II)V" } : Jvm.MethodName) jdk_65_method_131_code (2 : Nat) (Option.none : Option Jvm.ClassFile.FieldType)).before args0 about1 = true := code_word (m := ⟨12, 2⟩) (meth := k12m2) (c := k12c2) (by decide +kernel) rfl rfl rfl (by decide +kernel)
set_option maxRecDepth 65536 in
theorem w_c21 : (Jvm.Cond.code ({ cls := "java/lang/Math", name := "min", desc := "(II)I" } : Jvm.MethodName) jdk_29_method_69_code (2 : Nat) (Option.some Jvm.ClassFile.FieldType.int)).before args0 about1 = true := code_word (m := ⟨13, 1⟩) (meth := k13m1) (c := k13c1) (by decide +kernel) rfl rfl rfl (by decide +kernel)
set_option maxRecDepth 65536 in
theorem w_c22 : (Jvm.Cond.code ({ cls := "com/example/keyfold/keyfold/JsonParser", name := "isWhitespace", desc := "(B)Z" } : Jvm.MethodName) prog_46_method_3_code (1 : Nat) (Option.some Jvm.ClassFile.FieldType.boolean)).before args0 about1 = true := code_word (m := ⟨15, 1⟩) (meth := k15m1) (c := k15c1) (by decide +kernel) rfl rfl rfl (by decide +kernel)
set_option maxRecDepth 65536 in
theorem w_c23 : (Jvm.Cond.code ({ cls := "java/util/Arrays", name := "copyOf", desc := "([BI)[B" } : Jvm.MethodName) jdk_65_method_121_code (3 : Nat) (Option.some (Jvm.ClassFile.FieldType.array Jvm.ClassFile.FieldType.byte))).before args0 about1 = true := code_word (m := ⟨12, 1⟩) (meth := k12m1) (c := k12c1) (by decide +kernel) rfl rfl rfl (by decide +kernel)
def codes1 : List Jvm.Cond := [Jvm.Cond.code x code maxLocals ret, Jvm.Cond.code ({ cls := "com/example/keyfold/keyfold/TapeEndPinLaw", name := "kindOf", desc := "(I)Lcom/example/keyfold/keyfold/JsonValue$Kind;" } : Jvm.MethodName) method_2_code (1 : Nat) (Option.some (Jvm.ClassFile.FieldType.object "com/example/keyfold/keyfold/JsonValue$Kind")), Jvm.Cond.code ({ cls := "com/example/keyfold/keyfold/JsonValue$Tape", name := "<init>", desc := "()V" } : Jvm.MethodName) prog_50_method_1_code (1 : Nat) (Option.none : Option Jvm.ClassFile.FieldType), Jvm.Cond.code ({ cls := "java/lang/Object", name := "<init>", desc := "()V" } : Jvm.MethodName) object_method_1_code (1 : Nat) (Option.none : Option Jvm.ClassFile.FieldType), Jvm.Cond.code ({ cls := "com/example/keyfold/keyfold/JsonValue$Tape", name := "reset", desc := "([B)V" } : Jvm.MethodName) prog_50_method_2_code (2 : Nat) (Option.none : Option Jvm.ClassFile.FieldType), Jvm.Cond.code ({ cls := "com/example/keyfold/keyfold/JsonValue$Tape", name := "add", desc := "(Lcom/example/keyfold/keyfold/JsonValue$Kind;ILjava/lang/String;)I" } : Jvm.MethodName) prog_50_method_3_code (5 : Nat) (Option.some Jvm.ClassFile.FieldType.int), Jvm.Cond.code ({ cls := "java/lang/Enum", name := "ordinal", desc := "()I" } : Jvm.MethodName) jdk_37_method_2_code (1 : Nat) (Option.some Jvm.ClassFile.FieldType.int), Jvm.Cond.code ({ cls := "com/example/keyfold/keyfold/JsonValue$Tape", name := "end", desc := "(IIZ)V" } : Jvm.MethodName) prog_50_method_4_code (4 : Nat) (Option.none : Option Jvm.ClassFile.FieldType), Jvm.Cond.code ({ cls := "com/example/keyfold/keyfold/JsonValue$Tape", name := "first", desc := "()Lcom/example/keyfold/keyfold/JsonValue;" } : Jvm.MethodName) prog_50_method_6_code (1 : Nat) (Option.some (Jvm.ClassFile.FieldType.object "com/example/keyfold/keyfold/JsonValue")), Jvm.Cond.code ({ cls := "com/example/keyfold/keyfold/JsonValue", name := "<init>", desc := "(Lcom/example/keyfold/keyfold/JsonValue$Tape;I)V" } : Jvm.MethodName) prog_47_method_1_code (3 : Nat) (Option.none : Option Jvm.ClassFile.FieldType), Jvm.Cond.code ({ cls := "com/example/keyfold/keyfold/JsonValue", name := "kind", desc := "()Lcom/example/keyfold/keyfold/JsonValue$Kind;" } : Jvm.MethodName) prog_47_method_2_code (1 : Nat) (Option.some (Jvm.ClassFile.FieldType.object "com/example/keyfold/keyfold/JsonValue$Kind")), Jvm.Cond.code ({ cls := "com/example/keyfold/keyfold/JsonValue", name := "field", desc := "(I)I" } : Jvm.MethodName) prog_47_method_19_code (2 : Nat) (Option.some Jvm.ClassFile.FieldType.int), Jvm.Cond.code ({ cls := "com/example/keyfold/keyfold/JsonValue", name := "check", desc := "()V" } : Jvm.MethodName) prog_47_method_20_code (1 : Nat) (Option.none : Option Jvm.ClassFile.FieldType), Jvm.Cond.code ({ cls := "com/example/keyfold/keyfold/JsonValue", name := "start", desc := "()I" } : Jvm.MethodName) prog_47_method_17_code (1 : Nat) (Option.some Jvm.ClassFile.FieldType.int), Jvm.Cond.code ({ cls := "com/example/keyfold/keyfold/JsonValue", name := "end", desc := "()I" } : Jvm.MethodName) prog_47_method_18_code (1 : Nat) (Option.some Jvm.ClassFile.FieldType.int), Jvm.Cond.code ({ cls := "com/example/keyfold/keyfold/JsonValue", name := "firstMember", desc := "()I" } : Jvm.MethodName) prog_47_method_5_code (2 : Nat) (Option.some Jvm.ClassFile.FieldType.int), Jvm.Cond.code ({ cls := "com/example/keyfold/keyfold/JsonValue", name := "compact", desc := "()[B" } : Jvm.MethodName) prog_47_method_10_code (9 : Nat) (Option.some (Jvm.ClassFile.FieldType.array Jvm.ClassFile.FieldType.byte)), Jvm.Cond.code ({ cls := "com/example/keyfold/keyfold/JsonValue", name := "isSpaced", desc := "()Z" } : Jvm.MethodName) prog_47_method_16_code (1 : Nat) (Option.some Jvm.ClassFile.FieldType.boolean), Jvm.Cond.code ({ cls := "java/util/Arrays", name := "copyOfRange", desc := "([BII)[B" } : Jvm.MethodName) jdk_65_method_132_code (3 : Nat) (Option.some (Jvm.ClassFile.FieldType.array Jvm.ClassFile.FieldType.byte)), Jvm.Cond.code ({ cls := "java/util/Arrays", name := "copyOfRangeByte", desc := "([BII)[B" } : Jvm.MethodName) jdk_65_method_133_code (5 : Nat) (Option.some (Jvm.ClassFile.FieldType.array Jvm.ClassFile.FieldType.byte)), Jvm.Cond.code ({ cls := "java/util/Arrays", name := "checkLength", desc := "(II)V" } : Jvm.MethodName) jdk_65_method_131_code (2 : Nat) (Option.none : Option Jvm.ClassFile.FieldType), Jvm.Cond.code ({ cls := "java/lang/Math", name := "min", desc := "(II)I" } : Jvm.MethodName) jdk_29_method_69_code (2 : Nat) (Option.some Jvm.ClassFile.FieldType.int), Jvm.Cond.code ({ cls := "com/example/keyfold/keyfold/JsonParser", name := "isWhitespace", desc := "(B)Z" } : Jvm.MethodName) prog_46_method_3_code (1 : Nat) (Option.some Jvm.ClassFile.FieldType.boolean), Jvm.Cond.code ({ cls := "java/util/Arrays", name := "copyOf", desc := "([BI)[B" } : Jvm.MethodName) jdk_65_method_121_code (3 : Nat) (Option.some (Jvm.ClassFile.FieldType.array Jvm.ClassFile.FieldType.byte))]
set_option maxRecDepth 65536 in
theorem codes_eq : words1.filter isCode = codes1 := rfl
theorem w_codes : ∀ c ∈ words1.filter isCode, c.before args0 about1 = true := by
  rw [codes_eq]
  intro c hc
  simp only [codes1, List.mem_cons, List.not_mem_nil, or_false] at hc
  rcases hc with rfl | rfl | rfl | rfl | rfl | rfl | rfl | rfl | rfl | rfl | rfl | rfl | rfl | rfl | rfl | rfl | rfl | rfl | rfl | rfl | rfl | rfl | rfl | rfl
  · exact w_c0
  · exact w_c1
  · exact w_c2
  · exact w_c3
  · exact w_c4
  · exact w_c5
  · exact w_c6
  · exact w_c7
  · exact w_c8
  · exact w_c9
  · exact w_c10
  · exact w_c11
  · exact w_c12
  · exact w_c13
  · exact w_c14
  · exact w_c15
  · exact w_c16
  · exact w_c17
  · exact w_c18
  · exact w_c19
  · exact w_c20
  · exact w_c21
  · exact w_c22
  · exact w_c23
set_option maxRecDepth 65536 in
theorem w_t1 : (words1.take 24).all (fun c => isCode c || c.before args0 about1) = true := by decide +kernel
set_option maxRecDepth 65536 in
theorem w_t2 : ((words1.drop 24).take 24).all (fun c => isCode c || c.before args0 about1) = true := by decide +kernel
set_option maxRecDepth 65536 in
theorem w_t3 : (((words1.drop 24).drop 24).take 24).all (fun c => isCode c || c.before args0 about1) = true := by decide +kernel
set_option maxRecDepth 65536 in
theorem w_t4 : ((((words1.drop 24).drop 24).drop 24).take 24).all (fun c => isCode c || c.before args0 about1) = true := by decide +kernel
set_option maxRecDepth 65536 in
theorem w_t5 : (((((words1.drop 24).drop 24).drop 24).drop 24).take 24).all (fun c => isCode c || c.before args0 about1) = true := by decide +kernel
set_option maxRecDepth 65536 in
theorem w_t6 : ((((((words1.drop 24).drop 24).drop 24).drop 24).drop 24).take 24).all (fun c => isCode c || c.before args0 about1) = true := by decide +kernel
set_option maxRecDepth 65536 in
theorem w_t7 : ((((((words1.drop 24).drop 24).drop 24).drop 24).drop 24).drop 24).all (fun c => isCode c || c.before args0 about1) = true := by decide +kernel
theorem w_tables : (allAtoms (Jvm.Cond.code x code maxLocals ret :: tables_1)).before args0 about1 = true := by
  rw [allAtoms_all]
  show words1.all (fun c => c.before args0 about1) = true
  refine all_split ?_ w_codes
  rw [← List.take_append_drop 24 words1, List.all_append, w_t1, ← List.take_append_drop 24 (words1.drop 24), List.all_append, w_t2, ← List.take_append_drop 24 ((words1.drop 24).drop 24), List.all_append, w_t3, ← List.take_append_drop 24 (((words1.drop 24).drop 24).drop 24), List.all_append, w_t4, ← List.take_append_drop 24 ((((words1.drop 24).drop 24).drop 24).drop 24), List.all_append, w_t5, ← List.take_append_drop 24 (((((words1.drop 24).drop 24).drop 24).drop 24).drop 24), List.all_append, w_t6, w_t7]
  rfl
set_option maxRecDepth 65536 in
theorem w_case : (Jvm.Cond.and given_1 narrow_1).before args0 about1 = true := by decide +kernel
theorem w_applies : (headSpec (Jvm.Cond.code x code maxLocals ret :: tables_1) room_1).applies x e0.platform about1 = true :=
  (Spec.applies_iff w_frames).mpr ⟨w_running, w_runnable, w_alone, w_named, w_hears, w_ripe, w_room, w_tables⟩
theorem atStart : AtStart classFile x code maxLocals ret World_1 tables_1 room_1 Calls_1 rest_1 Pre_1 launch0 p0 e0 about1 theMethod args0 below0 :=
  ⟨lists_1, trivial, launch0.admits_env _ _ _, launch0.least_env, fairChoices_fair.cas, fairChoices_fair.clock, w_frames, w_args, w_heap, w_applies, trivial, trivial, w_case⟩
end start1
theorem witness_1 : WitnessClaimed_1 := ⟨start1.p0, start1.e0, start1.about1, start1.theMethod, start1.args0, start1.below0, start1.atStart⟩
end Jvm.Pilot.@@N@@
