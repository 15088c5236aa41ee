import JvmDerived
import JvmDerived.Pilot.@@N@@Statement
import JvmDerived.Pilot.@@N@@Code
set_option linter.unusedVariables false
set_option linter.unusedSimpArgs false
namespace Jvm.RoadKit
open Sem ClassFile Op Lib Jvm.Stand Jvm.Free Jvm.LawKit
section New
variable {p : Program} {l : Launch} {e : Env} {R : Room} {s : State} {m : MethodId} {args : Array Value} {below : List Frame} {meth : Method} {c : Code} {T : State} {locs : List Loc} {cells slots : Nat}
theorem retI (X : Stand p l e R s m args below meth c T locs cells slots) (hx : p.tables.exec = Jvm.exec) {pc : Nat} {Ls : Array Slot} {z : Int32} {rest : List Value} (hret : meth.sig.returnType = some .int) (hd : decode c.code pc = .ok (.ireturn, 1)) {fs : List Frame}
    (hl : ∀ (f : JFrame) (acts : List Action), f.method = m → f.locked = none → f.entered = [] → (doReturn e (T.setTop f) acts (some (.int z))).1 = T.setFrames fs) : Steps p.tables e below (T.setTop (mkF m pc Ls (.int z :: rest))) (T.setFrames fs) := by
  have hm' : T.vm.method? m = some meth := X.method'
  have hn : narrow .int (.int z) = .int z := rfl
  show Steps p.tables e below (T.setTop { method := m, pc := pc, locals := Ls, stack := _ :: rest, locked := none }) _
  jvm_step X.here [X.here.top, hx, hd, hm', hret, hn]
  first | (intro acts; rw [hl _ acts rfl rfl rfl]) | rw [hl _ _ rfl rfl rfl]
  exact Steps.refl _
end New
end Jvm.RoadKit
namespace Jvm.Pilot.@@N@@
open Jvm Jvm.ClassFile Sem Op Lib Jvm.Free Jvm.Stand Jvm.LawKit Jvm.RoadKit Bundle Jvm.Pilot.@@N@@.Jvm.D
set_option maxRecDepth 65536
set_option maxHeartbeats 40000000
abbrev sU : String := "com/example/corral/corral/ownership/Units"
abbrev sB : String := "java/util/BitSet"
def QL (n0 : Nat) (v : Option Value) (h : Heap) (L : List Loc) : Prop := v = some (.int 1) ∧ Fr n0 L
abbrev vI (x : Int32) : Slot := .val (.int x)
abbrev vJ (x : Int64) : Slot := .val (.long x)
abbrev vR (a : Addr) : Slot := .val (.ref a)
abbrev HwT (a0 : Array Value) (Z : State) : Prop := ∀ d ∈ tables_1, d.before a0 Z = true
theorem gG {p : Program} {l : Launch} {e : Env} {R : Room} {s : State} {m : MethodId} {args : Array Value} {below : List Frame} {meth : Method} {c : Code} {T : State} {locs : List Loc} {cells slots : Nat} {Z : State} {a0 : Array Value} {h : Heap} (X : Stand p l e R s m args below meth c T locs cells slots) (hx : p.tables.exec = Jvm.exec) (hZ : Z.Warmed39 s.vm) {own O n d : String} {index : Nat} (hown : s.vm.findClass own = some m.cls) (w : (Cond.fieldLink own index O n d).before a0 Z = true) (eT : T.heap = h) {a : Addr} {v : Value} (F : Fld Z h a O n d v) {g : JFrame} (hg : g.method = m) {rest : List Value} (hs : g.stack = .ref a :: rest) (hd : decode c.code g.pc = .ok (.getfield index, 3)) : ∃ T', Stand p l e R s m args below meth c T' locs cells slots ∧ T'.heap = h ∧ ∀ target, Steps p.tables e below (T'.setTop { g with pc := g.pc + 3, stack := v :: rest }) target → Steps p.tables e below (T.setTop g) target := getF X hx hZ hown (host := "") (Or.inl w) Via.refl eT F hg hs hd
theorem wq {a0 : Array Value} {Z : State} (hw : ∀ d ∈ tables_1, d.before a0 Z = true) (i : Nat) {d : Jvm.Cond} (h : tables_1[i]? = some d) : d.before a0 Z = true := hw _ (List.mem_of_getElem? h)
abbrev Mt (l : Launch) (Z : State) (y : MethodName) (cd : ByteArray) (ml : Nat) (rt : Option FieldType) (ws : List Jvm.Cond) (R : Room) (A : Array Value) (h0 : Heap) (Q : Option Value → Heap → List Loc → Prop) : Prop := MetFree l y (head1 (Jvm.Cond.code y cd ml rt :: ws) R) (fun a U => a = A ∧ Z.Warmed39 U.vm ∧ U.heap = h0) (fun _ _ _ _ _ => True) (fun _ U o U' => ∃ v L, o = .returned v ∧ Q v U'.heap L ∧ FrameEnd U o U' L R.cells R.slots)
theorem own_sel {Z : State} {a0 : Array Value} {y : MethodName} {n : Nat} (wi : (Jvm.Cond.instantiable y.cls n).before a0 Z = true) (wp : (Jvm.Cond.privateMethod y).before a0 Z = true) (wm : (Jvm.Cond.instanceMethod y).before a0 Z = true) (hy : y.cls ≠ "java/lang/invoke/MethodHandle" ∧ y.cls ≠ "java/lang/invoke/VarHandle") : (Jvm.Cond.selects y.cls y y).before a0 Z = true := by
  obtain ⟨c, k, h1, h2, -, h4, -⟩ := Cond.instantiable_spec wi
  simp only [Bool.or_eq_false_iff] at h4
  exact Stand.selects_self_of_private h1 h2 h4.1 (Cond.privateMethod_at wp) wm hy
-- sets of units: a bit in two words
def own_bt (u : Int32) : Int64 := ((1 : Int64) <<< (u &&& 0x3f).toInt64)
def own_in (u : Int32) (m0 m1 : Int64) : Prop := ¬ ((if u < (64 : Int32) then m0 else m1) &&& own_bt u) = (0 : Int64)
def own_s0 (u : Int32) (m : Int64) : Int64 := if u < (64 : Int32) then m ||| own_bt u else m
def own_s1 (u : Int32) (m : Int64) : Int64 := if u < (64 : Int32) then m else m ||| own_bt u
def own_c0 (u : Int32) (m : Int64) : Int64 := if u < (64 : Int32) then m &&& (own_bt u ^^^ (-1 : Int64)) else m
def own_c1 (u : Int32) (m : Int64) : Int64 := if u < (64 : Int32) then m else m &&& (own_bt u ^^^ (-1 : Int64))
def own_r (u : Int32) : Prop := 0 ≤ u.toInt ∧ u.toInt < 128
def own_k (u : Int32) : Nat := u.toInt.toNat % 64
theorem own_k_lt (u : Int32) : own_k u < 64 := Nat.mod_lt _ (by decide)
theorem own_bt_bv {u : Int32} (h : own_r u) : (own_bt u).toBitVec = 1#64 <<< own_k u := by
  have h1 := c_mask u 0x3f 6 (by decide) (by decide)
  have h2 : (u &&& 0x3f).toInt = (own_k u : Int) := by rw [h1]; unfold own_k own_r at *; omega
  have h3 : (u &&& 0x3f).toInt64.toInt = (own_k u : Int) := by rw [Int32.toInt_toInt64]; exact h2
  have hk := own_k_lt u
  have h4 : (u &&& 0x3f).toInt64.toBitVec.toNat = own_k u := by
    have a : (u &&& 0x3f).toInt64.toInt = (u &&& 0x3f).toInt64.toBitVec.toInt := rfl
    have b := (u &&& 0x3f).toInt64.toBitVec.isLt
    rw [a, BitVec.toInt_eq_toNat_cond] at h3
    split at h3 <;> omega
  unfold own_bt
  rw [Int64.toBitVec_shiftLeft]
  have h5 : ((u &&& 0x3f).toInt64.toBitVec.smod 64#64).toNat = own_k u := by
    generalize (u &&& 0x3f).toInt64.toBitVec = q at h4 ⊢
    rw [BitVec.smod_eq]
    have m1 : q.msb = false := by rw [BitVec.msb_eq_decide]; exact decide_eq_false (by omega)
    rw [m1]
    have m2 : (64#64).msb = false := by decide
    rw [m2]; simp [BitVec.toNat_umod, h4, Nat.mod_eq_of_lt hk]
  show (1#64 <<< ((u &&& 0x3f).toInt64.toBitVec.smod 64#64)) = _
  rw [BitVec.shiftLeft_eq', h5]
theorem own_and0 {m : Int64} {u : Int32} (h : own_r u) : (m &&& own_bt u) = (0 : Int64) ↔ m.toBitVec.getLsbD (own_k u) = false := by
  have hk := own_k_lt u
  rw [← Int64.toBitVec_inj, Int64.toBitVec_and, own_bt_bv h]
  constructor
  · intro q
    have e := congrArg (fun x => x.getLsbD (own_k u)) q
    simpa [hk, BitVec.getLsbD_shiftLeft] using e
  · intro q
    apply BitVec.eq_of_getLsbD_eq
    intro j hj
    by_cases e : j = own_k u
    · subst e; simp [q]
    · have : (1#64 <<< own_k u).getLsbD j = false := by
        simp only [BitVec.getLsbD_shiftLeft, BitVec.getLsbD_one]
        simp; omega
      simp [this]

theorem own_bt_get {u : Int32} (h : own_r u) (j : Nat) (hj : j < 64) : (own_bt u).toBitVec.getLsbD j = decide (j = own_k u) := by
  have hk := own_k_lt u
  rw [own_bt_bv h, BitVec.getLsbD_shiftLeft, BitVec.getLsbD_one]
  by_cases e : j = own_k u
  · subst e; simp [hk]
  · simp [e]; omega
theorem own_in_iff {u : Int32} {m0 m1 : Int64} (h : own_r u) : own_in u m0 m1 ↔ (if u < (64 : Int32) then m0 else m1).toBitVec.getLsbD (own_k u) = true := by
  unfold own_in; rw [own_and0 h, Bool.not_eq_false]
theorem own_or_get {u : Int32} {m : Int64} (h : own_r u) (j : Nat) (hj : j < 64) : (m ||| own_bt u).toBitVec.getLsbD j = (m.toBitVec.getLsbD j || decide (j = own_k u)) := by
  rw [Int64.toBitVec_or, BitVec.getLsbD_or, own_bt_get h j hj]
theorem own_cl_get {u : Int32} {m : Int64} (h : own_r u) (j : Nat) (hj : j < 64) : (m &&& (own_bt u ^^^ (-1 : Int64))).toBitVec.getLsbD j = (m.toBitVec.getLsbD j && !decide (j = own_k u)) := by
  rw [Int64.toBitVec_and, Int64.toBitVec_xor, BitVec.getLsbD_and, BitVec.getLsbD_xor, own_bt_get h j hj]
  have e : (-1 : Int64).toBitVec = BitVec.allOnes 64 := by decide
  rw [e, BitVec.getLsbD_allOnes]; simp [hj]
theorem own_lt64 {u : Int32} : u < (64 : Int32) ↔ u.toInt < 64 := by rw [Int32.lt_iff_toInt_lt]; rfl
theorem own_same {u x : Int32} (hu : own_r u) (hx : own_r x) (s : (u < (64 : Int32)) ↔ (x < (64 : Int32))) : own_k x = own_k u ↔ x = u := by
  rw [own_lt64, own_lt64] at s
  unfold own_k own_r at *
  constructor
  · intro q; apply Int32.toInt_inj.mp; omega
  · intro q; rw [q]
def Mk (l : List Int32) (m0 m1 : Int64) : Prop := ∀ x : Int32, own_r x → (own_in x m0 m1 ↔ x ∈ l)
theorem Mk.add {l l' : List Int32} {u : Int32} {m0 m1 : Int64} (hu : own_r u) (h : Mk l m0 m1) (hl : ∀ x, x ∈ l' ↔ x = u ∨ x ∈ l) : Mk l' (own_s0 u m0) (own_s1 u m1) := by
  intro x hx
  rw [hl x, ← h x hx, own_in_iff hx, own_in_iff hx]
  unfold own_s0 own_s1
  by_cases a : u < (64 : Int32) <;> by_cases b : x < (64 : Int32) <;> simp only [a, b, if_true, if_false]
  · rw [own_or_get hu _ (own_k_lt x)]; simp [own_same hu hx (by simp [a, b]), or_comm]
  · have : x ≠ u := fun q => b (q ▸ a)
    simp [this]
  · have : x ≠ u := fun q => a (q ▸ b)
    simp [this]
  · rw [own_or_get hu _ (own_k_lt x)]; simp [own_same hu hx (by simp [a, b]), or_comm]
theorem Mk.del {l l' : List Int32} {u : Int32} {m0 m1 : Int64} (hu : own_r u) (h : Mk l m0 m1) (hl : ∀ x, x ∈ l' ↔ x ≠ u ∧ x ∈ l) : Mk l' (own_c0 u m0) (own_c1 u m1) := by
  intro x hx
  rw [hl x, ← h x hx, own_in_iff hx, own_in_iff hx]
  unfold own_c0 own_c1
  by_cases a : u < (64 : Int32) <;> by_cases b : x < (64 : Int32) <;> simp only [a, b, if_true, if_false]
  · rw [own_cl_get hu _ (own_k_lt x)]; simp [own_same hu hx (by simp [a, b]), and_comm]
  · have : x ≠ u := fun q => b (q ▸ a)
    simp [this]
  · have : x ≠ u := fun q => a (q ▸ b)
    simp [this]
  · rw [own_cl_get hu _ (own_k_lt x)]; simp [own_same hu hx (by simp [a, b]), and_comm]
theorem own_zero {m0 m1 : Int64} {b : Bool} (h : ∀ x : Int32, own_r x → (x < (64 : Int32) ↔ b = true) → ¬ (if b then m0 else m1).toBitVec.getLsbD (own_k x) = true) : (if b then m0 else m1) = (0 : Int64) := by
  rw [← Int64.toBitVec_inj]
  apply BitVec.eq_of_getLsbD_eq
  intro j hj
  have e0 : ∀ n : Nat, n < 128 → (Int32.ofNat n).toInt = n := fun n hn => Int32.toInt_ofNat_of_lt (by omega)
  have q := h (Int32.ofNat (if b then j else 64 + j)) (by unfold own_r; rw [e0 _ (by split <;> omega)]; split <;> omega) (by rw [own_lt64, e0 _ (by split <;> omega)]; cases b <;> simp <;> omega)
  have k : own_k (Int32.ofNat (if b then j else 64 + j)) = j := by unfold own_k; rw [e0 _ (by split <;> omega)]; cases b <;> simp <;> omega
  rw [k] at q
  simpa using q
theorem Mk.nil {m0 m1 : Int64} (h : Mk [] m0 m1) : m0 = (0 : Int64) ∧ m1 = (0 : Int64) := by
  constructor
  · have := own_zero (m0 := m0) (m1 := m1) (b := true) (fun x hx s q => by
      have := (h x hx).mp ((own_in_iff hx).mpr (by rw [if_pos (s.mpr rfl)]; exact q)); cases this)
    exact this
  · have := own_zero (m0 := m0) (m1 := m1) (b := false) (fun x hx s q => by
      have := (h x hx).mp ((own_in_iff hx).mpr (by rw [if_neg (fun z => by have := s.mp z; cases this)]; exact q)); cases this)
    exact this
theorem Mk.cons {l : List Int32} {x : Int32} {m0 m1 : Int64} (h : Mk l m0 m1) (hx : own_r x) (hm : x ∈ l) : ¬ (m0 = (0 : Int64) ∧ m1 = (0 : Int64)) := by
  rintro ⟨rfl, rfl⟩
  have q := (own_in_iff hx).mp ((h x hx).mpr hm)
  split at q <;> simp at q
theorem Mk.zero : Mk [] (0 : Int64) (0 : Int64) := fun x hx => by
  rw [own_in_iff hx]; split <;> simp
theorem Mk.hi {l : List Int32} {m0 m1 : Int64} (h : Mk l m0 m1) (hl : ∀ x ∈ l, own_r x ∧ x < (64 : Int32)) : m1 = (0 : Int64) := by
  have := own_zero (m0 := m0) (m1 := m1) (b := false) (fun x hx s q => by
      have n : ¬ x < (64 : Int32) := fun z => by have := s.mp z; cases this
      have := (h x hx).mp ((own_in_iff hx).mpr (by rw [if_neg n]; exact q))
      exact n (hl x this).2)
  exact this
theorem own_sI {s : State} {args : Array Value} {C n d : String} {k : Int32} (hi : (Jvm.Cond.initialized C).before args s = true ∧ (Jvm.Cond.laysStatic C n d).before args s = true) (h : (Jvm.Cond.eq (.static C n d) (.int k)).value args s none s [] = some true) : Sta s s.heap C n d (.int k) := by
  obtain ⟨x, y, e1, e2, k1, k2⟩ := cmp_v (Or.inl h)
  cases (Term.int_eval k).symm.trans e2
  obtain ⟨z, rfl⟩ := k2
  have q : (Jvm.Cond.eq (.static C n d) (.int k)).value args s none s [] = some (decide (z = k)) := by simp [Cond.value, e1, Term.int_eval]
  rw [q] at h
  have hz : z = k := by simpa using h
  subst hz; exact Sta.start e1 (Or.inr hi)
def Q_i (r1 : Int32) (h0 : Heap) (n0 : Nat) (v : Option Value) (h : Heap) (L : List Loc) : Prop := v = some (.int r1) ∧ Fr n0 L ∧ h = h0
def Q_j (r1 : Int64) (h0 : Heap) (n0 : Nat) (v : Option Value) (h : Heap) (L : List Loc) : Prop := v = some (.long r1) ∧ Fr n0 L ∧ h = h0
def Q_n  (h0 : Heap) (n0 : Nat) (v : Option Value) (h : Heap) (L : List Loc) : Prop := v = none ∧ Fr n0 L ∧ h = h0
def own_mx (x y : Int32) : Int32 := if x < y then y else x
def own_bb (x : Int32) : Int64 := ((x.toInt64 / (64 : Int64)) + (1 : Int64)) * (8 : Int64)
theorem own_bb_val {x : Int32} (h0 : 0 ≤ x.toInt) (h1 : x.toInt ≤ 128) : (own_bb x).toInt = (x.toInt / 64 + 1) * 8 := by
  unfold own_bb
  have e8 : (8 : Int64).toInt = 8 := rfl
  have e1 : (1 : Int64).toInt = 1 := rfl
  have e64 : (64 : Int64).toInt = 64 := rfl
  have a := c_i2l x
  have d : (x.toInt64 / (64 : Int64)).toInt = x.toInt / 64 := by
    rw [Int64.toInt_div, a, e64, Int.tdiv_eq_ediv_of_nonneg h0]
    apply Int.bmod_eq_of_le <;> omega
  have b := c_ladd (x.toInt64 / (64 : Int64)) 1
  have b' := rng64 ((x.toInt64 / (64 : Int64)) + (1 : Int64))
  have c := c_lmul ((x.toInt64 / (64 : Int64)) + (1 : Int64)) 8
  have c' := rng64 (((x.toInt64 / (64 : Int64)) + (1 : Int64)) * (8 : Int64))
  rw [e1, d] at b; rw [e8] at c
  have q : ((x.toInt64 / (64 : Int64)) + (1 : Int64)).toInt = x.toInt / 64 + 1 := by omega
  rw [q] at c; omega
theorem own_bb_lt {x : Int32} (h : own_r x) (n : Int64) : own_bb x < n ↔ (x.toInt / 64 + 1) * 8 < n.toInt := by
  rw [Int64.lt_iff_toInt_lt, own_bb_val h.1 (by unfold own_r at h; omega)]
theorem own_mx_r {x y : Int32} (h1 : own_r x) (h2 : own_r y) : own_r (own_mx x y) := by unfold own_mx; split <;> assumption
theorem own_mx_le (x y : Int32) : x.toInt ≤ (own_mx x y).toInt ∧ y.toInt ≤ (own_mx x y).toInt := by
  unfold own_mx; by_cases h : x < y
  · rw [if_pos h]; rw [Int32.lt_iff_toInt_lt] at h; omega
  · rw [if_neg h]; rw [Int32.lt_iff_toInt_lt] at h; omega
theorem own_w0 {u : Int32} (h : own_r u) (q : u < (64 : Int32)) : (u >>> ((6 : Int32) &&& 31)) = (0 : Int32) := by
  apply Int32.toInt_inj.mp; rw [c_ishr u 6 6 (by decide)]; rw [own_lt64] at q; have e : (0 : Int32).toInt = 0 := rfl; unfold own_r at h; omega
theorem own_w1 {u : Int32} (h : own_r u) (q : ¬ u < (64 : Int32)) : (u >>> ((6 : Int32) &&& 31)) = (1 : Int32) := by
  apply Int32.toInt_inj.mp; rw [c_ishr u 6 6 (by decide)]; rw [own_lt64] at q; have e : (1 : Int32).toInt = 1 := rfl; unfold own_r at h; omega
theorem own_v0 {u : Int32} (h : own_r u) (q : u < (64 : Int32)) : ((u.toUInt32 >>> ((6 : Int32) &&& 31).toUInt32).toInt32) = (0 : Int32) := by
  apply Int32.toInt_inj.mp; rw [c_iushr u 6 6 (by decide) (by decide)]; rw [own_lt64] at q; have e : (0 : Int32).toInt = 0 := rfl; unfold own_r at h; omega
theorem own_v1 {u : Int32} (h : own_r u) (q : ¬ u < (64 : Int32)) : ((u.toUInt32 >>> ((6 : Int32) &&& 31).toUInt32).toInt32) = (1 : Int32) := by
  apply Int32.toInt_inj.mp; rw [c_iushr u 6 6 (by decide) (by decide)]; rw [own_lt64] at q; have e : (1 : Int32).toInt = 1 := rfl; unfold own_r at h; omega
theorem own_ge0 {u : Int32} (h : own_r u) : ¬ u < (0 : Int32) := fun q => by rw [Int32.lt_iff_toInt_lt] at q; have e : (0 : Int32).toInt = 0 := rfl; unfold own_r at h; omega
theorem own_or_ne {u : Int32} {m : Int64} (h : own_r u) : ¬ (m ||| own_bt u) = (0 : Int64) := fun q => by
  have e := own_or_get (m := m) h (own_k u) (own_k_lt u)
  rw [q] at e; simp at e
theorem own_s0p {u : Int32} {m : Int64} (q : u < (64 : Int32)) : own_s0 u m = m ||| own_bt u := if_pos q
theorem own_s0n {u : Int32} {m : Int64} (q : ¬ u < (64 : Int32)) : own_s0 u m = m := if_neg q
theorem own_s1p {u : Int32} {m : Int64} (q : u < (64 : Int32)) : own_s1 u m = m := if_pos q
theorem own_s1n {u : Int32} {m : Int64} (q : ¬ u < (64 : Int32)) : own_s1 u m = m ||| own_bt u := if_neg q
theorem own_c0p {u : Int32} {m : Int64} (q : u < (64 : Int32)) : own_c0 u m = m &&& (own_bt u ^^^ (-1 : Int64)) := if_pos q
theorem own_c0n {u : Int32} {m : Int64} (q : ¬ u < (64 : Int32)) : own_c0 u m = m := if_neg q
theorem own_c1p {u : Int32} {m : Int64} (q : u < (64 : Int32)) : own_c1 u m = m := if_pos q
theorem own_c1n {u : Int32} {m : Int64} (q : ¬ u < (64 : Int32)) : own_c1 u m = m &&& (own_bt u ^^^ (-1 : Int64)) := if_neg q
theorem own_inp {u : Int32} {m0 m1 : Int64} (q : u < (64 : Int32)) : own_in u m0 m1 ↔ ¬ (m0 &&& own_bt u) = (0 : Int64) := by unfold own_in; rw [if_pos q]
theorem own_inn {u : Int32} {m0 m1 : Int64} (q : ¬ u < (64 : Int32)) : own_in u m0 m1 ↔ ¬ (m1 &&& own_bt u) = (0 : Int64) := by unfold own_in; rw [if_neg q]
theorem own_and_0 (m : Int64) : ((0 : Int64) &&& m) = (0 : Int64) := Int64.zero_and
abbrev y_0 : MethodName := (⟨"java/lang/Math", "max", "(II)I"⟩ : MethodName)
theorem ef_0 (m : MethodId) (x0 : Int32) (x1 : Int32) : entryFrame m #[(.int x0), (.int x1)] 2 = mkF m 0 #[.val (.int x0), .val (.int x1)] [] := by first | (simp [entryFrame, mkF, argsToLocals, Value.category]; done) | rfl
abbrev C0 := jdk_29_method_65_code
theorem dc0_0 : decode C0 0 = .ok (.iload_n 0, 1) := by decide +kernel
theorem dc0_1 : decode C0 1 = .ok (.iload_n 1, 1) := by decide +kernel
theorem dc0_2 : decode C0 2 = .ok (.if_icmp .lt 7, 3) := by decide +kernel
theorem dc0_9 : decode C0 9 = .ok (.iload_n 1, 1) := by decide +kernel
theorem dc0_10 : decode C0 10 = .ok (.ireturn, 1) := by decide +kernel
theorem dc0_5 : decode C0 5 = .ok (.iload_n 0, 1) := by decide +kernel
theorem dc0_6 : decode C0 6 = .ok (.goto 4, 3) := by decide +kernel
theorem rmMx (l : Launch) (Z : State) (a0 : Array Value) (hw : HwT a0 Z) (ws : List Jvm.Cond) (x1 x2 : Int32) (h0 : Heap) (n0 : Nat) (O0 : Old Z n0 h0) :
    Mt l Z y_0 jdk_29_method_65_code 2 (some .int) ws ({ frames := 0, cells := 0, slots := 0, locals := 0 } : Room) #[(.int x1), (.int x2)] h0 (Q_i (own_mx x1 x2) h0 n0) := by
  refine MetFree.of_bodySF (Jvm.Free.JP.mathPlain rfl (by decide +kernel)) hisR ?_
  intro p e s m args below meth c s₁ Bd hml0 hP hK
  obtain ⟨rfl, hZ, hh⟩ := hP
  have hx := Bd.exec
  have hby := Bd.bytes
  have hml : c.maxLocals = 2 := hml0
  have hown : s.vm.findClass "java/lang/Math" = some m.cls := findClass_of_methodNamed Bd.named
  have hnm := (name_of_methodNamed Bd.named Bd.method).1
  have X0 : Stand p l e ({ frames := 0, cells := 0, slots := 0, locals := 0 } : Room) s m #[(.int x1), (.int x2)] below meth c s₁ [] 0 0 := Stand.of_body Bd
  have e0 : s₁.heap = h0 := by rw [← hh, Bd.state]; rfl
  have N0 := Fr.nil n0
  have pre0 := fun t (k : Steps p.tables e below (s₁.setTop _) t) => castTop (ef_0 m x1 x2) k
  have pre101 : ∀ t, Steps p.tables e below (s₁.setTop (mkF m 2 #[vI x1, vI x2] [(.int x2), (.int x1)])) t → Steps p.tables e below (s₁.setTop (entryFrame m #[(.int x1), (.int x2)] 2)) t := fun t kt => pre0 t (by
      show Steps p.tables e below (s₁.setTop (mkF m 0 #[vI x1, vI x2] [])) _
      refine XS.iloadN X0.here hx rfl (hb hby dc0_0) rfl ?_
      show Steps p.tables e below (s₁.setTop (mkF m 1 #[vI x1, vI x2] [(.int x1)])) _
      refine XS.iloadN X0.here hx rfl (hb hby dc0_1) rfl ?_
      exact kt)
  by_cases hc102 : x1 < x2
  · skip
    obtain ⟨fs, hr, hrun, hended, hW, hsame⟩ := X0.leave (v := some (.int x2)) (fun h => by rw [Bd.returns] at h; cases h)
    refine ⟨_, _, pre101 _ ?_, hrun, hended, _, _, rfl, ?_, ⟨_, rfl⟩, hW, hsame.mono (by decide) (by decide)⟩
    · skip
      show Steps p.tables e below (s₁.setTop (mkF m 2 #[vI x1, vI x2] [(.int x2), (.int x1)])) _
      refine XS.icmpYes X0.here hx rfl (pc0 := 2) (pc' := 9) rfl (hb hby dc0_2) rfl (tlt hc102).1 (by decide) (by decide) ?_
      refine XS.iloadN X0.here hx rfl (hb hby dc0_9) rfl ?_
      exact retI X0 hx Bd.returns (hb hby dc0_10) hr
    · show Q_i (own_mx x1 x2) h0 n0 _ s₁.heap _
      rw [e0]
      exact ⟨by rw [own_mx, if_pos hc102], N0, rfl⟩
  · skip
    obtain ⟨fs, hr, hrun, hended, hW, hsame⟩ := X0.leave (v := some (.int x1)) (fun h => by rw [Bd.returns] at h; cases h)
    refine ⟨_, _, pre101 _ ?_, hrun, hended, _, _, rfl, ?_, ⟨_, rfl⟩, hW, hsame.mono (by decide) (by decide)⟩
    · skip
      show Steps p.tables e below (s₁.setTop (mkF m 2 #[vI x1, vI x2] [(.int x2), (.int x1)])) _
      refine XS.icmpNo X0.here hx rfl (hb hby dc0_2) rfl (flt hc102).1 ?_
      refine XS.iloadN X0.here hx rfl (hb hby dc0_5) rfl ?_
      refine XS.goto X0.here hx rfl (pc0 := 6) (pc' := 10) rfl (hb hby dc0_6) (by decide) (by decide) ?_
      exact retI X0 hx Bd.returns (hb hby dc0_10) hr
    · show Q_i (own_mx x1 x2) h0 n0 _ s₁.heap _
      rw [e0]
      exact ⟨by rw [own_mx, if_neg hc102], N0, rfl⟩
theorem rmMxL22 (l : Launch) (Z : State) (a0 : Array Value) (hw : HwT a0 Z) (ws : List Jvm.Cond)  (h0 : Heap) (n0 : Nat) (O0 : Old Z n0 h0) :
    Mt l Z y_0 jdk_29_method_65_code 2 (some .int) ws ({ frames := 0, cells := 0, slots := 0, locals := 0 } : Room) #[(.int (2 : Int32)), (.int (2 : Int32))] h0 (Q_i (2 : Int32) h0 n0) := by
  refine MetFree.of_bodySF (Jvm.Free.JP.mathPlain rfl (by decide +kernel)) hisR ?_
  intro p e s m args below meth c s₁ Bd hml0 hP hK
  obtain ⟨rfl, hZ, hh⟩ := hP
  have hx := Bd.exec
  have hby := Bd.bytes
  have hml : c.maxLocals = 2 := hml0
  have hown : s.vm.findClass "java/lang/Math" = some m.cls := findClass_of_methodNamed Bd.named
  have hnm := (name_of_methodNamed Bd.named Bd.method).1
  have X0 : Stand p l e ({ frames := 0, cells := 0, slots := 0, locals := 0 } : Room) s m #[(.int (2 : Int32)), (.int (2 : Int32))] below meth c s₁ [] 0 0 := Stand.of_body Bd
  have e0 : s₁.heap = h0 := by rw [← hh, Bd.state]; rfl
  have N0 := Fr.nil n0
  have pre0 := fun t (k : Steps p.tables e below (s₁.setTop _) t) => castTop (ef_0 m (2 : Int32) (2 : Int32)) k
  obtain ⟨fs, hr, hrun, hended, hW, hsame⟩ := X0.leave (v := some (.int (2 : Int32))) (fun h => by rw [Bd.returns] at h; cases h)
  refine ⟨_, _, pre0 _ ?_, hrun, hended, _, _, rfl, ?_, ⟨_, rfl⟩, hW, hsame.mono (by decide) (by decide)⟩
  · skip
    show Steps p.tables e below (s₁.setTop (mkF m 0 #[vI (2 : Int32), vI (2 : Int32)] [])) _
    refine XS.iloadN X0.here hx rfl (hb hby dc0_0) rfl ?_
    refine XS.iloadN X0.here hx rfl (hb hby dc0_1) rfl ?_
    refine XS.icmpNo X0.here hx rfl (hb hby dc0_2) rfl (by decide) ?_
    refine XS.iloadN X0.here hx rfl (hb hby dc0_5) rfl ?_
    refine XS.goto X0.here hx rfl (pc0 := 6) (pc' := 10) rfl (hb hby dc0_6) (by decide) (by decide) ?_
    show Steps p.tables e below (s₁.setTop (mkF m 10 #[vI (2 : Int32), vI (2 : Int32)] [(.int (2 : Int32))])) _
    exact retI X0 hx Bd.returns (hb hby dc0_10) hr
  · show Q_i (2 : Int32) h0 n0 _ s₁.heap _
    rw [e0]
    exact ⟨rfl, N0, rfl⟩
abbrev y_1 : MethodName := (⟨"java/lang/Math", "min", "(II)I"⟩ : MethodName)
abbrev C1 := jdk_29_method_69_code
theorem dc1_0 : decode C1 0 = .ok (.iload_n 0, 1) := by decide +kernel
theorem dc1_1 : decode C1 1 = .ok (.iload_n 1, 1) := by decide +kernel
theorem dc1_2 : decode C1 2 = .ok (.if_icmp .gt 7, 3) := by decide +kernel
theorem dc1_5 : decode C1 5 = .ok (.iload_n 0, 1) := by decide +kernel
theorem dc1_6 : decode C1 6 = .ok (.goto 4, 3) := by decide +kernel
theorem dc1_10 : decode C1 10 = .ok (.ireturn, 1) := by decide +kernel
theorem rmMnL12 (l : Launch) (Z : State) (a0 : Array Value) (hw : HwT a0 Z) (ws : List Jvm.Cond)  (h0 : Heap) (n0 : Nat) (O0 : Old Z n0 h0) :
    Mt l Z y_1 jdk_29_method_69_code 2 (some .int) ws ({ frames := 0, cells := 0, slots := 0, locals := 0 } : Room) #[(.int (1 : Int32)), (.int (2 : Int32))] h0 (Q_i (1 : Int32) h0 n0) := by
  refine MetFree.of_bodySF (Jvm.Free.JP.mathPlain rfl (by decide +kernel)) hisR ?_
  intro p e s m args below meth c s₁ Bd hml0 hP hK
  obtain ⟨rfl, hZ, hh⟩ := hP
  have hx := Bd.exec
  have hby := Bd.bytes
  have hml : c.maxLocals = 2 := hml0
  have hown : s.vm.findClass "java/lang/Math" = some m.cls := findClass_of_methodNamed Bd.named
  have hnm := (name_of_methodNamed Bd.named Bd.method).1
  have X0 : Stand p l e ({ frames := 0, cells := 0, slots := 0, locals := 0 } : Room) s m #[(.int (1 : Int32)), (.int (2 : Int32))] below meth c s₁ [] 0 0 := Stand.of_body Bd
  have e0 : s₁.heap = h0 := by rw [← hh, Bd.state]; rfl
  have N0 := Fr.nil n0
  have pre0 := fun t (k : Steps p.tables e below (s₁.setTop _) t) => castTop (ef_0 m (1 : Int32) (2 : Int32)) k
  obtain ⟨fs, hr, hrun, hended, hW, hsame⟩ := X0.leave (v := some (.int (1 : Int32))) (fun h => by rw [Bd.returns] at h; cases h)
  refine ⟨_, _, pre0 _ ?_, hrun, hended, _, _, rfl, ?_, ⟨_, rfl⟩, hW, hsame.mono (by decide) (by decide)⟩
  · skip
    show Steps p.tables e below (s₁.setTop (mkF m 0 #[vI (1 : Int32), vI (2 : Int32)] [])) _
    refine XS.iloadN X0.here hx rfl (hb hby dc1_0) rfl ?_
    refine XS.iloadN X0.here hx rfl (hb hby dc1_1) rfl ?_
    refine XS.icmpNo X0.here hx rfl (hb hby dc1_2) rfl (by decide) ?_
    refine XS.iloadN X0.here hx rfl (hb hby dc1_5) rfl ?_
    refine XS.goto X0.here hx rfl (pc0 := 6) (pc' := 10) rfl (hb hby dc1_6) (by decide) (by decide) ?_
    show Steps p.tables e below (s₁.setTop (mkF m 10 #[vI (1 : Int32), vI (2 : Int32)] [(.int (1 : Int32))])) _
    exact retI X0 hx Bd.returns (hb hby dc1_10) hr
  · show Q_i (1 : Int32) h0 n0 _ s₁.heap _
    rw [e0]
    exact ⟨rfl, N0, rfl⟩
theorem rmMnL24 (l : Launch) (Z : State) (a0 : Array Value) (hw : HwT a0 Z) (ws : List Jvm.Cond)  (h0 : Heap) (n0 : Nat) (O0 : Old Z n0 h0) :
    Mt l Z y_1 jdk_29_method_69_code 2 (some .int) ws ({ frames := 0, cells := 0, slots := 0, locals := 0 } : Room) #[(.int (2 : Int32)), (.int (4 : Int32))] h0 (Q_i (2 : Int32) h0 n0) := by
  refine MetFree.of_bodySF (Jvm.Free.JP.mathPlain rfl (by decide +kernel)) hisR ?_
  intro p e s m args below meth c s₁ Bd hml0 hP hK
  obtain ⟨rfl, hZ, hh⟩ := hP
  have hx := Bd.exec
  have hby := Bd.bytes
  have hml : c.maxLocals = 2 := hml0
  have hown : s.vm.findClass "java/lang/Math" = some m.cls := findClass_of_methodNamed Bd.named
  have hnm := (name_of_methodNamed Bd.named Bd.method).1
  have X0 : Stand p l e ({ frames := 0, cells := 0, slots := 0, locals := 0 } : Room) s m #[(.int (2 : Int32)), (.int (4 : Int32))] below meth c s₁ [] 0 0 := Stand.of_body Bd
  have e0 : s₁.heap = h0 := by rw [← hh, Bd.state]; rfl
  have N0 := Fr.nil n0
  have pre0 := fun t (k : Steps p.tables e below (s₁.setTop _) t) => castTop (ef_0 m (2 : Int32) (4 : Int32)) k
  obtain ⟨fs, hr, hrun, hended, hW, hsame⟩ := X0.leave (v := some (.int (2 : Int32))) (fun h => by rw [Bd.returns] at h; cases h)
  refine ⟨_, _, pre0 _ ?_, hrun, hended, _, _, rfl, ?_, ⟨_, rfl⟩, hW, hsame.mono (by decide) (by decide)⟩
  · skip
    show Steps p.tables e below (s₁.setTop (mkF m 0 #[vI (2 : Int32), vI (4 : Int32)] [])) _
    refine XS.iloadN X0.here hx rfl (hb hby dc1_0) rfl ?_
    refine XS.iloadN X0.here hx rfl (hb hby dc1_1) rfl ?_
    refine XS.icmpNo X0.here hx rfl (hb hby dc1_2) rfl (by decide) ?_
    refine XS.iloadN X0.here hx rfl (hb hby dc1_5) rfl ?_
    refine XS.goto X0.here hx rfl (pc0 := 6) (pc' := 10) rfl (hb hby dc1_6) (by decide) (by decide) ?_
    show Steps p.tables e below (s₁.setTop (mkF m 10 #[vI (2 : Int32), vI (4 : Int32)] [(.int (2 : Int32))])) _
    exact retI X0 hx Bd.returns (hb hby dc1_10) hr
  · show Q_i (2 : Int32) h0 n0 _ s₁.heap _
    rw [e0]
    exact ⟨rfl, N0, rfl⟩
theorem dc1_9 : decode C1 9 = .ok (.iload_n 1, 1) := by decide +kernel
theorem rmMnL42 (l : Launch) (Z : State) (a0 : Array Value) (hw : HwT a0 Z) (ws : List Jvm.Cond)  (h0 : Heap) (n0 : Nat) (O0 : Old Z n0 h0) :
    Mt l Z y_1 jdk_29_method_69_code 2 (some .int) ws ({ frames := 0, cells := 0, slots := 0, locals := 0 } : Room) #[(.int (4 : Int32)), (.int (2 : Int32))] h0 (Q_i (2 : Int32) h0 n0) := by
  refine MetFree.of_bodySF (Jvm.Free.JP.mathPlain rfl (by decide +kernel)) hisR ?_
  intro p e s m args below meth c s₁ Bd hml0 hP hK
  obtain ⟨rfl, hZ, hh⟩ := hP
  have hx := Bd.exec
  have hby := Bd.bytes
  have hml : c.maxLocals = 2 := hml0
  have hown : s.vm.findClass "java/lang/Math" = some m.cls := findClass_of_methodNamed Bd.named
  have hnm := (name_of_methodNamed Bd.named Bd.method).1
  have X0 : Stand p l e ({ frames := 0, cells := 0, slots := 0, locals := 0 } : Room) s m #[(.int (4 : Int32)), (.int (2 : Int32))] below meth c s₁ [] 0 0 := Stand.of_body Bd
  have e0 : s₁.heap = h0 := by rw [← hh, Bd.state]; rfl
  have N0 := Fr.nil n0
  have pre0 := fun t (k : Steps p.tables e below (s₁.setTop _) t) => castTop (ef_0 m (4 : Int32) (2 : Int32)) k
  obtain ⟨fs, hr, hrun, hended, hW, hsame⟩ := X0.leave (v := some (.int (2 : Int32))) (fun h => by rw [Bd.returns] at h; cases h)
  refine ⟨_, _, pre0 _ ?_, hrun, hended, _, _, rfl, ?_, ⟨_, rfl⟩, hW, hsame.mono (by decide) (by decide)⟩
  · skip
    show Steps p.tables e below (s₁.setTop (mkF m 0 #[vI (4 : Int32), vI (2 : Int32)] [])) _
    refine XS.iloadN X0.here hx rfl (hb hby dc1_0) rfl ?_
    refine XS.iloadN X0.here hx rfl (hb hby dc1_1) rfl ?_
    refine XS.icmpYes X0.here hx rfl (pc0 := 2) (pc' := 9) rfl (hb hby dc1_2) rfl (by decide) (by decide) (by decide) ?_
    refine XS.iloadN X0.here hx rfl (hb hby dc1_9) rfl ?_
    exact retI X0 hx Bd.returns (hb hby dc1_10) hr
  · show Q_i (2 : Int32) h0 n0 _ s₁.heap _
    rw [e0]
    exact ⟨rfl, N0, rfl⟩
abbrev y_2 : MethodName := (⟨"com/example/corral/corral/ownership/Units", "bitBytes", "(I)J"⟩ : MethodName)
theorem pn_0 : plainName "com/example/corral/corral/ownership/Units" = true := by first | (simp [plainName, overriddenIn]; done) | decide +kernel
theorem ef_1 (m : MethodId) (x0 : Int32) : entryFrame m #[(.int x0)] 1 = mkF m 0 #[.val (.int x0)] [] := by first | (simp [entryFrame, mkF, argsToLocals, Value.category]; done) | rfl
abbrev C2 := prog_25_method_10_code
theorem dc2_0 : decode C2 0 = .ok (.iload_n 0, 1) := by decide +kernel
theorem dc2_1 : decode C2 1 = .ok (.i2l, 1) := by decide +kernel
theorem dc2_2 : decode C2 2 = .ok (.ldc2_w 85, 3) := by decide +kernel
theorem dc2_5 : decode C2 5 = .ok (.ldiv, 1) := by decide +kernel
theorem dc2_6 : decode C2 6 = .ok (.lconst 1, 1) := by decide +kernel
theorem dc2_7 : decode C2 7 = .ok (.ladd, 1) := by decide +kernel
theorem dc2_8 : decode C2 8 = .ok (.ldc2_w 87, 3) := by decide +kernel
theorem dc2_11 : decode C2 11 = .ok (.lmul, 1) := by decide +kernel
theorem dc2_12 : decode C2 12 = .ok (.lreturn, 1) := by decide +kernel
theorem rmBb (l : Launch) (Z : State) (a0 : Array Value) (hw : HwT a0 Z) (ws : List Jvm.Cond) (x1 : Int32) (h0 : Heap) (n0 : Nat) (O0 : Old Z n0 h0) :
    Mt l Z y_2 prog_25_method_10_code 1 (some .long) ws ({ frames := 0, cells := 0, slots := 0, locals := 0 } : Room) #[(.int x1)] h0 (Q_j (own_bb x1) h0 n0) := by
  refine MetFree.of_bodySF (plainFor_of_name pn_0) hisR ?_
  intro p e s m args below meth c s₁ Bd hml0 hP hK
  obtain ⟨rfl, hZ, hh⟩ := hP
  have hx := Bd.exec
  have hby := Bd.bytes
  have hml : c.maxLocals = 1 := hml0
  have hown : s.vm.findClass sU = some m.cls := findClass_of_methodNamed Bd.named
  have hnm := (name_of_methodNamed Bd.named Bd.method).1
  have X0 : Stand p l e ({ frames := 0, cells := 0, slots := 0, locals := 0 } : Room) s m #[(.int x1)] below meth c s₁ [] 0 0 := Stand.of_body Bd
  have e0 : s₁.heap = h0 := by rw [← hh, Bd.state]; rfl
  have N0 := Fr.nil n0
  have pre0 := fun t (k : Steps p.tables e below (s₁.setTop _) t) => castTop (ef_1 m x1) k
  obtain ⟨fs, hr, hrun, hended, hW, hsame⟩ := X0.leave (v := some (.long ((((x1.toInt64) / (64 : Int64)) + (1 : Int64)) * (8 : Int64)))) (fun h => by rw [Bd.returns] at h; cases h)
  refine ⟨_, _, pre0 _ ?_, hrun, hended, _, _, rfl, ?_, ⟨_, rfl⟩, hW, hsame.mono (by decide) (by decide)⟩
  · skip
    show Steps p.tables e below (s₁.setTop (mkF m 0 #[vI x1] [])) _
    refine XS.iloadN X0.here hx rfl (hb hby dc2_0) rfl ?_
    refine XS.i2l X0.here hx rfl (hb hby dc2_1) rfl ?_
    show Steps p.tables e below (s₁.setTop (mkF m 2 #[vI x1] [(.long (x1.toInt64))])) _
    refine X0.ldc2Long hx hown (mvT hZ (wq hw 48 rfl)) (g := (mkF m 2 #[vI x1] [(.long (x1.toInt64))])) rfl (hb hby dc2_2) _ ?_
    refine XS.ldiv X0.here hx rfl (hb hby dc2_5) rfl (by decide) ?_
    refine XS.lconst X0.here hx rfl (hb hby dc2_6) ?_
    refine XS.ladd X0.here hx rfl (hb hby dc2_7) rfl ?_
    refine X0.ldc2Long hx hown (mvT hZ (wq hw 49 rfl)) (g := (mkF m 8 #[vI x1] [(.long (((x1.toInt64) / (64 : Int64)) + (1 : Int64)))])) rfl (hb hby dc2_8) _ ?_
    refine XS.lmul X0.here hx rfl (hb hby dc2_11) rfl ?_
    exact retOut X0 hx (t := .long) Bd.returns rfl (Or.inr (Or.inl ⟨rfl, rfl, _, rfl⟩)) (hb hby dc2_12) hr
  · show Q_j (own_bb x1) h0 n0 _ s₁.heap _
    rw [e0]
    exact ⟨rfl, N0, rfl⟩
abbrev y_3 : MethodName := (⟨"java/util/BitSet", "wordIndex", "(I)I"⟩ : MethodName)
theorem pn_1 : plainName "java/util/BitSet" = true := by first | (simp [plainName, overriddenIn]; done) | decide +kernel
abbrev C3 := jdk_92_method_1_code
theorem dc3_0 : decode C3 0 = .ok (.iload_n 0, 1) := by decide +kernel
theorem dc3_1 : decode C3 1 = .ok (.bipush 6, 2) := by decide +kernel
theorem dc3_3 : decode C3 3 = .ok (.ishr, 1) := by decide +kernel
theorem dc3_4 : decode C3 4 = .ok (.ireturn, 1) := by decide +kernel
theorem rmWi (l : Launch) (Z : State) (a0 : Array Value) (hw : HwT a0 Z) (ws : List Jvm.Cond) (x1 r1 : Int32) (h0 : Heap) (n0 : Nat) (O0 : Old Z n0 h0) (hr1 : (x1 >>> ((6 : Int32) &&& 31)) = r1) :
    Mt l Z y_3 jdk_92_method_1_code 1 (some .int) ws ({ frames := 0, cells := 0, slots := 0, locals := 0 } : Room) #[(.int x1)] h0 (Q_i r1 h0 n0) := by
  refine MetFree.of_bodySF (plainFor_of_name pn_1) hisR ?_
  intro p e s m args below meth c s₁ Bd hml0 hP hK
  obtain ⟨rfl, hZ, hh⟩ := hP
  have hx := Bd.exec
  have hby := Bd.bytes
  have hml : c.maxLocals = 1 := hml0
  have hown : s.vm.findClass sB = some m.cls := findClass_of_methodNamed Bd.named
  have hnm := (name_of_methodNamed Bd.named Bd.method).1
  have X0 : Stand p l e ({ frames := 0, cells := 0, slots := 0, locals := 0 } : Room) s m #[(.int x1)] below meth c s₁ [] 0 0 := Stand.of_body Bd
  have e0 : s₁.heap = h0 := by rw [← hh, Bd.state]; rfl
  have N0 := Fr.nil n0
  have pre0 := fun t (k : Steps p.tables e below (s₁.setTop _) t) => castTop (ef_1 m x1) k
  obtain ⟨fs, hr, hrun, hended, hW, hsame⟩ := X0.leave (v := some (.int (x1 >>> ((6 : Int32) &&& 31)))) (fun h => by rw [Bd.returns] at h; cases h)
  refine ⟨_, _, pre0 _ ?_, hrun, hended, _, _, rfl, ?_, ⟨_, rfl⟩, hW, hsame.mono (by decide) (by decide)⟩
  · skip
    show Steps p.tables e below (s₁.setTop (mkF m 0 #[vI x1] [])) _
    refine XS.iloadN X0.here hx rfl (hb hby dc3_0) rfl ?_
    refine XS.bipush X0.here hx rfl (hb hby dc3_1) ?_
    refine XS.ishr X0.here hx rfl (hb hby dc3_3) rfl ?_
    exact retI X0 hx Bd.returns (hb hby dc3_4) hr
  · show Q_i r1 h0 n0 _ s₁.heap _
    rw [e0]
    exact ⟨by rw [← hr1], N0, rfl⟩
def Q_nz (n1 : Int) (h0 : Heap) (n0 : Nat) (v : Option Value) (h : Heap) (L : List Loc) : Prop := ∃ r : Int32, v = some (.int r) ∧ Fr n0 L ∧ h = h0 ∧ 0 ≤ r.toInt ∧ r.toInt ≤ n1
theorem own_us {x y q : Int32} {kk : Nat} (hy : ((x.toUInt32 >>> (q &&& 31).toUInt32).toInt32) = y) (hk : q.toBitVec.toNat % 32 = kk) (h0 : 0 < kk) (hx : 0 ≤ x.toInt) : y.toInt = x.toInt / (2 ^ kk : Nat) := by
  have a := c_iushr x q kk hk h0; have b := rng32 x; rw [hy] at a; rw [a, Int.emod_eq_of_lt hx (by omega)]
def Rc (p : Program) (l : Launch) (e : Env) (R : Room) (s : State) (m : MethodId) (args : Array Value) (below : List Frame) (meth : Method) (c : Code) (n0 : Nat) (Z : State) (cells slots : Nat) (st0 : State) (F : JFrame) (h : Heap) : Prop :=
  ∃ (T : State) (L : List Loc), Stand p l e R s m args below meth c T L cells slots ∧ T.heap = h ∧ Fr n0 L ∧ Old Z n0 h ∧ ∀ t, Steps p.tables e below (T.setTop F) t → Steps p.tables e below st0 t
abbrev C4 := jdk_33_method_47_code
theorem dc4_18 : decode C4 18 = .ok (.iload_n 0, 1) := by decide +kernel
theorem dc4_19 : decode C4 19 = .ok (.ldc_w 264, 3) := by decide +kernel
theorem dc4_22 : decode C4 22 = .ok (.if_icmp .lt 11, 3) := by decide +kernel
theorem dc4_25 : decode C4 25 = .ok (.iinc 1 (-16), 3) := by decide +kernel
theorem dc4_28 : decode C4 28 = .ok (.iload_n 0, 1) := by decide +kernel
theorem dc4_29 : decode C4 29 = .ok (.bipush 16, 2) := by decide +kernel
theorem dc4_31 : decode C4 31 = .ok (.iushr, 1) := by decide +kernel
theorem dc4_32 : decode C4 32 = .ok (.istore_n 0, 1) := by decide +kernel
theorem nz0 {p : Program} {l : Launch} {e : Env} {R : Room} {s : State} {m : MethodId} {args : Array Value} {below : List Frame} {meth : Method} {c : Code} {Z : State} {a0 : Array Value} {n0 : Nat} {cells slots : Nat} {st0 : State} (hx : p.tables.exec = Jvm.exec) (hZ : Z.Warmed39 s.vm) (hw : ∀ d ∈ tables_1, d.before a0 Z = true) (hby : c.code = jdk_33_method_47_code) (hml : c.maxLocals = 2) (hown : s.vm.findClass "java/lang/Integer" = some m.cls) {h0 : Heap} (x1 n1 : Int32) (G0 : Rc p l e R s m args below meth c n0 Z cells slots st0 (mkF m 18 #[vI x1, vI n1] []) h0) (hx0 : 0 ≤ x1.toInt) (hx1 : x1.toInt < 2147483648) (hn0 : 31 ≤ n1.toInt) (hn1 : n1.toInt ≤ 31) :
    ∃ x' n' : Int32, Rc p l e R s m args below meth c n0 Z cells slots st0 (mkF m 33 #[vI x', vI n'] []) h0 ∧ 0 ≤ x'.toInt ∧ x'.toInt < 65536 ∧ 15 ≤ n'.toInt ∧ n'.toInt ≤ 31 := by
  obtain ⟨T0, L0, X0, e0, N0, O0, pre0⟩ := G0
  have pre101 : ∀ t, Steps p.tables e below (T0.setTop (mkF m 22 #[vI x1, vI n1] [(.int (65536 : Int32)), (.int x1)])) t → Steps p.tables e below (st0) t := fun t kt => pre0 t (by
      show Steps p.tables e below (T0.setTop (mkF m 18 #[vI x1, vI n1] [])) _
      refine XS.iloadN X0.here hx rfl (hb hby dc4_18) rfl ?_
      refine X0.ldcwInt hx hown (mvT hZ (wq hw 151 rfl)) (g := (mkF m 19 #[vI x1, vI n1] [(.int x1)])) rfl (hb hby dc4_19) _ ?_
      exact kt)
  by_cases hc102 : x1 < (65536 : Int32)
  · skip
    have pre103 : ∀ t, Steps p.tables e below (T0.setTop (mkF m 33 #[vI x1, vI n1] [])) t → Steps p.tables e below (st0) t := fun t kt => pre101 t (by
        show Steps p.tables e below (T0.setTop (mkF m 22 #[vI x1, vI n1] [(.int (65536 : Int32)), (.int x1)])) _
        refine XS.icmpYes X0.here hx rfl (pc0 := 22) (pc' := 33) rfl (hb hby dc4_22) rfl (tlt hc102).1 (by decide) (by decide) ?_
        exact kt)
    have q := hc102
    rw [Int32.lt_iff_toInt_lt] at q
    have e : (65536 : Int32).toInt = 65536 := rfl
    exact ⟨_, _, ⟨_, _, X0, e0, N0, O0, pre103⟩, by omega, by omega, by omega, by omega⟩
  · skip
    obtain ⟨y1, hy⟩ : ∃ y, ((x1.toUInt32 >>> ((16 : Int32) &&& 31).toUInt32).toInt32) = y := ⟨_, rfl⟩
    have dy := own_us hy (kk := 16) (by decide) (by decide) hx0
    have pre104 : ∀ t, Steps p.tables e below (T0.setTop (mkF m 33 #[vI y1, vI (n1 + (-16 : Int32))] [])) t → Steps p.tables e below (st0) t := fun t kt => pre101 t (by
        show Steps p.tables e below (T0.setTop (mkF m 22 #[vI x1, vI n1] [(.int (65536 : Int32)), (.int x1)])) _
        refine XS.icmpNo X0.here hx rfl (hb hby dc4_22) rfl (flt hc102).1 ?_
        refine XS.iinc X0.here hx rfl (hb hby dc4_25) rfl (l' := #[vI x1, vI (n1 + (-16 : Int32))]) rfl ?_
        refine XS.iloadN X0.here hx rfl (hb hby dc4_28) rfl ?_
        refine XS.bipush X0.here hx rfl (hb hby dc4_29) ?_
        refine XS.iushr X0.here hx rfl (hb hby dc4_31) rfl ?_
        show Steps p.tables e below (T0.setTop (mkF m 32 #[vI x1, vI (n1 + (-16 : Int32))] [(.int ((x1.toUInt32 >>> ((16 : Int32) &&& 31).toUInt32).toInt32))])) _
        rw [hy]
        refine XS.istoreN X0.here hx rfl (hb hby dc4_32) rfl (l' := #[vI y1, vI (n1 + (-16 : Int32))]) rfl ?_
        exact kt)
    have q := hc102
    rw [Int32.lt_iff_toInt_lt] at q
    have e : (65536 : Int32).toInt = 65536 := rfl
    have e2 : (-16 : Int32).toInt = -16 := rfl
    have a1 := c_iadd n1 (-16)
    have a2 := rng32 (n1 + (-16 : Int32))
    exact ⟨_, _, ⟨_, _, X0, e0, N0, O0, pre104⟩, by omega, by omega, by omega, by omega⟩
theorem dc4_33 : decode C4 33 = .ok (.iload_n 0, 1) := by decide +kernel
theorem dc4_34 : decode C4 34 = .ok (.sipush 256, 3) := by decide +kernel
theorem dc4_37 : decode C4 37 = .ok (.if_icmp .lt 11, 3) := by decide +kernel
theorem dc4_40 : decode C4 40 = .ok (.iinc 1 (-8), 3) := by decide +kernel
theorem dc4_43 : decode C4 43 = .ok (.iload_n 0, 1) := by decide +kernel
theorem dc4_44 : decode C4 44 = .ok (.bipush 8, 2) := by decide +kernel
theorem dc4_46 : decode C4 46 = .ok (.iushr, 1) := by decide +kernel
theorem dc4_47 : decode C4 47 = .ok (.istore_n 0, 1) := by decide +kernel
theorem nz1 {p : Program} {l : Launch} {e : Env} {R : Room} {s : State} {m : MethodId} {args : Array Value} {below : List Frame} {meth : Method} {c : Code} {Z : State} {a0 : Array Value} {n0 : Nat} {cells slots : Nat} {st0 : State} (hx : p.tables.exec = Jvm.exec) (hZ : Z.Warmed39 s.vm) (hw : ∀ d ∈ tables_1, d.before a0 Z = true) (hby : c.code = jdk_33_method_47_code) (hml : c.maxLocals = 2) (hown : s.vm.findClass "java/lang/Integer" = some m.cls) {h0 : Heap} (x1 n1 : Int32) (G0 : Rc p l e R s m args below meth c n0 Z cells slots st0 (mkF m 33 #[vI x1, vI n1] []) h0) (hx0 : 0 ≤ x1.toInt) (hx1 : x1.toInt < 65536) (hn0 : 15 ≤ n1.toInt) (hn1 : n1.toInt ≤ 31) :
    ∃ x' n' : Int32, Rc p l e R s m args below meth c n0 Z cells slots st0 (mkF m 48 #[vI x', vI n'] []) h0 ∧ 0 ≤ x'.toInt ∧ x'.toInt < 256 ∧ 7 ≤ n'.toInt ∧ n'.toInt ≤ 31 := by
  obtain ⟨T0, L0, X0, e0, N0, O0, pre0⟩ := G0
  have pre101 : ∀ t, Steps p.tables e below (T0.setTop (mkF m 37 #[vI x1, vI n1] [(.int (256 : Int32)), (.int x1)])) t → Steps p.tables e below (st0) t := fun t kt => pre0 t (by
      show Steps p.tables e below (T0.setTop (mkF m 33 #[vI x1, vI n1] [])) _
      refine XS.iloadN X0.here hx rfl (hb hby dc4_33) rfl ?_
      refine XS.sipush X0.here hx rfl (hb hby dc4_34) ?_
      exact kt)
  by_cases hc102 : x1 < (256 : Int32)
  · skip
    have pre103 : ∀ t, Steps p.tables e below (T0.setTop (mkF m 48 #[vI x1, vI n1] [])) t → Steps p.tables e below (st0) t := fun t kt => pre101 t (by
        show Steps p.tables e below (T0.setTop (mkF m 37 #[vI x1, vI n1] [(.int (256 : Int32)), (.int x1)])) _
        refine XS.icmpYes X0.here hx rfl (pc0 := 37) (pc' := 48) rfl (hb hby dc4_37) rfl (tlt hc102).1 (by decide) (by decide) ?_
        exact kt)
    have q := hc102
    rw [Int32.lt_iff_toInt_lt] at q
    have e : (256 : Int32).toInt = 256 := rfl
    exact ⟨_, _, ⟨_, _, X0, e0, N0, O0, pre103⟩, by omega, by omega, by omega, by omega⟩
  · skip
    obtain ⟨y1, hy⟩ : ∃ y, ((x1.toUInt32 >>> ((8 : Int32) &&& 31).toUInt32).toInt32) = y := ⟨_, rfl⟩
    have dy := own_us hy (kk := 8) (by decide) (by decide) hx0
    have pre104 : ∀ t, Steps p.tables e below (T0.setTop (mkF m 48 #[vI y1, vI (n1 + (-8 : Int32))] [])) t → Steps p.tables e below (st0) t := fun t kt => pre101 t (by
        show Steps p.tables e below (T0.setTop (mkF m 37 #[vI x1, vI n1] [(.int (256 : Int32)), (.int x1)])) _
        refine XS.icmpNo X0.here hx rfl (hb hby dc4_37) rfl (flt hc102).1 ?_
        refine XS.iinc X0.here hx rfl (hb hby dc4_40) rfl (l' := #[vI x1, vI (n1 + (-8 : Int32))]) rfl ?_
        refine XS.iloadN X0.here hx rfl (hb hby dc4_43) rfl ?_
        refine XS.bipush X0.here hx rfl (hb hby dc4_44) ?_
        refine XS.iushr X0.here hx rfl (hb hby dc4_46) rfl ?_
        show Steps p.tables e below (T0.setTop (mkF m 47 #[vI x1, vI (n1 + (-8 : Int32))] [(.int ((x1.toUInt32 >>> ((8 : Int32) &&& 31).toUInt32).toInt32))])) _
        rw [hy]
        refine XS.istoreN X0.here hx rfl (hb hby dc4_47) rfl (l' := #[vI y1, vI (n1 + (-8 : Int32))]) rfl ?_
        exact kt)
    have q := hc102
    rw [Int32.lt_iff_toInt_lt] at q
    have e : (256 : Int32).toInt = 256 := rfl
    have e2 : (-8 : Int32).toInt = -8 := rfl
    have a1 := c_iadd n1 (-8)
    have a2 := rng32 (n1 + (-8 : Int32))
    exact ⟨_, _, ⟨_, _, X0, e0, N0, O0, pre104⟩, by omega, by omega, by omega, by omega⟩
theorem dc4_48 : decode C4 48 = .ok (.iload_n 0, 1) := by decide +kernel
theorem dc4_49 : decode C4 49 = .ok (.bipush 16, 2) := by decide +kernel
theorem dc4_51 : decode C4 51 = .ok (.if_icmp .lt 10, 3) := by decide +kernel
theorem dc4_54 : decode C4 54 = .ok (.iinc 1 (-4), 3) := by decide +kernel
theorem dc4_57 : decode C4 57 = .ok (.iload_n 0, 1) := by decide +kernel
theorem dc4_58 : decode C4 58 = .ok (.iconst 4, 1) := by decide +kernel
theorem dc4_59 : decode C4 59 = .ok (.iushr, 1) := by decide +kernel
theorem dc4_60 : decode C4 60 = .ok (.istore_n 0, 1) := by decide +kernel
theorem nz2 {p : Program} {l : Launch} {e : Env} {R : Room} {s : State} {m : MethodId} {args : Array Value} {below : List Frame} {meth : Method} {c : Code} {Z : State} {a0 : Array Value} {n0 : Nat} {cells slots : Nat} {st0 : State} (hx : p.tables.exec = Jvm.exec) (hZ : Z.Warmed39 s.vm) (hw : ∀ d ∈ tables_1, d.before a0 Z = true) (hby : c.code = jdk_33_method_47_code) (hml : c.maxLocals = 2) (hown : s.vm.findClass "java/lang/Integer" = some m.cls) {h0 : Heap} (x1 n1 : Int32) (G0 : Rc p l e R s m args below meth c n0 Z cells slots st0 (mkF m 48 #[vI x1, vI n1] []) h0) (hx0 : 0 ≤ x1.toInt) (hx1 : x1.toInt < 256) (hn0 : 7 ≤ n1.toInt) (hn1 : n1.toInt ≤ 31) :
    ∃ x' n' : Int32, Rc p l e R s m args below meth c n0 Z cells slots st0 (mkF m 61 #[vI x', vI n'] []) h0 ∧ 0 ≤ x'.toInt ∧ x'.toInt < 16 ∧ 3 ≤ n'.toInt ∧ n'.toInt ≤ 31 := by
  obtain ⟨T0, L0, X0, e0, N0, O0, pre0⟩ := G0
  have pre101 : ∀ t, Steps p.tables e below (T0.setTop (mkF m 51 #[vI x1, vI n1] [(.int (16 : Int32)), (.int x1)])) t → Steps p.tables e below (st0) t := fun t kt => pre0 t (by
      show Steps p.tables e below (T0.setTop (mkF m 48 #[vI x1, vI n1] [])) _
      refine XS.iloadN X0.here hx rfl (hb hby dc4_48) rfl ?_
      refine XS.bipush X0.here hx rfl (hb hby dc4_49) ?_
      exact kt)
  by_cases hc102 : x1 < (16 : Int32)
  · skip
    have pre103 : ∀ t, Steps p.tables e below (T0.setTop (mkF m 61 #[vI x1, vI n1] [])) t → Steps p.tables e below (st0) t := fun t kt => pre101 t (by
        show Steps p.tables e below (T0.setTop (mkF m 51 #[vI x1, vI n1] [(.int (16 : Int32)), (.int x1)])) _
        refine XS.icmpYes X0.here hx rfl (pc0 := 51) (pc' := 61) rfl (hb hby dc4_51) rfl (tlt hc102).1 (by decide) (by decide) ?_
        exact kt)
    have q := hc102
    rw [Int32.lt_iff_toInt_lt] at q
    have e : (16 : Int32).toInt = 16 := rfl
    exact ⟨_, _, ⟨_, _, X0, e0, N0, O0, pre103⟩, by omega, by omega, by omega, by omega⟩
  · skip
    obtain ⟨y1, hy⟩ : ∃ y, ((x1.toUInt32 >>> ((4 : Int32) &&& 31).toUInt32).toInt32) = y := ⟨_, rfl⟩
    have dy := own_us hy (kk := 4) (by decide) (by decide) hx0
    have pre104 : ∀ t, Steps p.tables e below (T0.setTop (mkF m 61 #[vI y1, vI (n1 + (-4 : Int32))] [])) t → Steps p.tables e below (st0) t := fun t kt => pre101 t (by
        show Steps p.tables e below (T0.setTop (mkF m 51 #[vI x1, vI n1] [(.int (16 : Int32)), (.int x1)])) _
        refine XS.icmpNo X0.here hx rfl (hb hby dc4_51) rfl (flt hc102).1 ?_
        refine XS.iinc X0.here hx rfl (hb hby dc4_54) rfl (l' := #[vI x1, vI (n1 + (-4 : Int32))]) rfl ?_
        refine XS.iloadN X0.here hx rfl (hb hby dc4_57) rfl ?_
        refine XS.iconst X0.here hx rfl (hb hby dc4_58) ?_
        refine XS.iushr X0.here hx rfl (hb hby dc4_59) rfl ?_
        show Steps p.tables e below (T0.setTop (mkF m 60 #[vI x1, vI (n1 + (-4 : Int32))] [(.int ((x1.toUInt32 >>> ((4 : Int32) &&& 31).toUInt32).toInt32))])) _
        rw [hy]
        refine XS.istoreN X0.here hx rfl (hb hby dc4_60) rfl (l' := #[vI y1, vI (n1 + (-4 : Int32))]) rfl ?_
        exact kt)
    have q := hc102
    rw [Int32.lt_iff_toInt_lt] at q
    have e : (16 : Int32).toInt = 16 := rfl
    have e2 : (-4 : Int32).toInt = -4 := rfl
    have a1 := c_iadd n1 (-4)
    have a2 := rng32 (n1 + (-4 : Int32))
    exact ⟨_, _, ⟨_, _, X0, e0, N0, O0, pre104⟩, by omega, by omega, by omega, by omega⟩
theorem dc4_61 : decode C4 61 = .ok (.iload_n 0, 1) := by decide +kernel
theorem dc4_62 : decode C4 62 = .ok (.iconst 4, 1) := by decide +kernel
theorem dc4_63 : decode C4 63 = .ok (.if_icmp .lt 10, 3) := by decide +kernel
theorem dc4_66 : decode C4 66 = .ok (.iinc 1 (-2), 3) := by decide +kernel
theorem dc4_69 : decode C4 69 = .ok (.iload_n 0, 1) := by decide +kernel
theorem dc4_70 : decode C4 70 = .ok (.iconst 2, 1) := by decide +kernel
theorem dc4_71 : decode C4 71 = .ok (.iushr, 1) := by decide +kernel
theorem dc4_72 : decode C4 72 = .ok (.istore_n 0, 1) := by decide +kernel
theorem nz3 {p : Program} {l : Launch} {e : Env} {R : Room} {s : State} {m : MethodId} {args : Array Value} {below : List Frame} {meth : Method} {c : Code} {Z : State} {a0 : Array Value} {n0 : Nat} {cells slots : Nat} {st0 : State} (hx : p.tables.exec = Jvm.exec) (hZ : Z.Warmed39 s.vm) (hw : ∀ d ∈ tables_1, d.before a0 Z = true) (hby : c.code = jdk_33_method_47_code) (hml : c.maxLocals = 2) (hown : s.vm.findClass "java/lang/Integer" = some m.cls) {h0 : Heap} (x1 n1 : Int32) (G0 : Rc p l e R s m args below meth c n0 Z cells slots st0 (mkF m 61 #[vI x1, vI n1] []) h0) (hx0 : 0 ≤ x1.toInt) (hx1 : x1.toInt < 16) (hn0 : 3 ≤ n1.toInt) (hn1 : n1.toInt ≤ 31) :
    ∃ x' n' : Int32, Rc p l e R s m args below meth c n0 Z cells slots st0 (mkF m 73 #[vI x', vI n'] []) h0 ∧ 0 ≤ x'.toInt ∧ x'.toInt < 4 ∧ 1 ≤ n'.toInt ∧ n'.toInt ≤ 31 := by
  obtain ⟨T0, L0, X0, e0, N0, O0, pre0⟩ := G0
  have pre101 : ∀ t, Steps p.tables e below (T0.setTop (mkF m 63 #[vI x1, vI n1] [(.int (4 : Int32)), (.int x1)])) t → Steps p.tables e below (st0) t := fun t kt => pre0 t (by
      show Steps p.tables e below (T0.setTop (mkF m 61 #[vI x1, vI n1] [])) _
      refine XS.iloadN X0.here hx rfl (hb hby dc4_61) rfl ?_
      refine XS.iconst X0.here hx rfl (hb hby dc4_62) ?_
      exact kt)
  by_cases hc102 : x1 < (4 : Int32)
  · skip
    have pre103 : ∀ t, Steps p.tables e below (T0.setTop (mkF m 73 #[vI x1, vI n1] [])) t → Steps p.tables e below (st0) t := fun t kt => pre101 t (by
        show Steps p.tables e below (T0.setTop (mkF m 63 #[vI x1, vI n1] [(.int (4 : Int32)), (.int x1)])) _
        refine XS.icmpYes X0.here hx rfl (pc0 := 63) (pc' := 73) rfl (hb hby dc4_63) rfl (tlt hc102).1 (by decide) (by decide) ?_
        exact kt)
    have q := hc102
    rw [Int32.lt_iff_toInt_lt] at q
    have e : (4 : Int32).toInt = 4 := rfl
    exact ⟨_, _, ⟨_, _, X0, e0, N0, O0, pre103⟩, by omega, by omega, by omega, by omega⟩
  · skip
    obtain ⟨y1, hy⟩ : ∃ y, ((x1.toUInt32 >>> ((2 : Int32) &&& 31).toUInt32).toInt32) = y := ⟨_, rfl⟩
    have dy := own_us hy (kk := 2) (by decide) (by decide) hx0
    have pre104 : ∀ t, Steps p.tables e below (T0.setTop (mkF m 73 #[vI y1, vI (n1 + (-2 : Int32))] [])) t → Steps p.tables e below (st0) t := fun t kt => pre101 t (by
        show Steps p.tables e below (T0.setTop (mkF m 63 #[vI x1, vI n1] [(.int (4 : Int32)), (.int x1)])) _
        refine XS.icmpNo X0.here hx rfl (hb hby dc4_63) rfl (flt hc102).1 ?_
        refine XS.iinc X0.here hx rfl (hb hby dc4_66) rfl (l' := #[vI x1, vI (n1 + (-2 : Int32))]) rfl ?_
        refine XS.iloadN X0.here hx rfl (hb hby dc4_69) rfl ?_
        refine XS.iconst X0.here hx rfl (hb hby dc4_70) ?_
        refine XS.iushr X0.here hx rfl (hb hby dc4_71) rfl ?_
        show Steps p.tables e below (T0.setTop (mkF m 72 #[vI x1, vI (n1 + (-2 : Int32))] [(.int ((x1.toUInt32 >>> ((2 : Int32) &&& 31).toUInt32).toInt32))])) _
        rw [hy]
        refine XS.istoreN X0.here hx rfl (hb hby dc4_72) rfl (l' := #[vI y1, vI (n1 + (-2 : Int32))]) rfl ?_
        exact kt)
    have q := hc102
    rw [Int32.lt_iff_toInt_lt] at q
    have e : (4 : Int32).toInt = 4 := rfl
    have e2 : (-2 : Int32).toInt = -2 := rfl
    have a1 := c_iadd n1 (-2)
    have a2 := rng32 (n1 + (-2 : Int32))
    exact ⟨_, _, ⟨_, _, X0, e0, N0, O0, pre104⟩, by omega, by omega, by omega, by omega⟩
abbrev y_4 : MethodName := (⟨"java/lang/Integer", "numberOfLeadingZeros", "(I)I"⟩ : MethodName)
theorem pn_2 : plainName "java/lang/Integer" = true := by first | (simp [plainName, overriddenIn]; done) | decide +kernel
theorem ef_2 (m : MethodId) (x0 : Int32) : entryFrame m #[(.int x0)] 2 = mkF m 0 #[.val (.int x0), .unset] [] := by first | (simp [entryFrame, mkF, argsToLocals, Value.category]; done) | rfl
theorem dc4_0 : decode C4 0 = .ok (.iload_n 0, 1) := by decide +kernel
theorem dc4_1 : decode C4 1 = .ok (.ifCond .gt 14, 3) := by decide +kernel
theorem dc4_15 : decode C4 15 = .ok (.bipush 31, 2) := by decide +kernel
theorem dc4_17 : decode C4 17 = .ok (.istore_n 1, 1) := by decide +kernel
theorem dc4_73 : decode C4 73 = .ok (.iload_n 1, 1) := by decide +kernel
theorem dc4_74 : decode C4 74 = .ok (.iload_n 0, 1) := by decide +kernel
theorem dc4_75 : decode C4 75 = .ok (.iconst 1, 1) := by decide +kernel
theorem dc4_76 : decode C4 76 = .ok (.iushr, 1) := by decide +kernel
theorem dc4_77 : decode C4 77 = .ok (.isub, 1) := by decide +kernel
theorem dc4_78 : decode C4 78 = .ok (.ireturn, 1) := by decide +kernel
theorem dc4_4 : decode C4 4 = .ok (.iload_n 0, 1) := by decide +kernel
theorem dc4_5 : decode C4 5 = .ok (.ifCond .ne 8, 3) := by decide +kernel
theorem dc4_8 : decode C4 8 = .ok (.bipush 32, 2) := by decide +kernel
theorem dc4_10 : decode C4 10 = .ok (.goto 4, 3) := by decide +kernel
theorem dc4_14 : decode C4 14 = .ok (.ireturn, 1) := by decide +kernel
theorem dc4_13 : decode C4 13 = .ok (.iconst 0, 1) := by decide +kernel
theorem rmIn (l : Launch) (Z : State) (a0 : Array Value) (hw : HwT a0 Z) (ws : List Jvm.Cond) (x1 : Int32) (h0 : Heap) (n0 : Nat) (O0 : Old Z n0 h0) :
    Mt l Z y_4 jdk_33_method_47_code 2 (some .int) ws ({ frames := 0, cells := 0, slots := 0, locals := 0 } : Room) #[(.int x1)] h0 (Q_nz 32 h0 n0) := by
  refine MetFree.of_bodySF (plainFor_of_name pn_2) hisR ?_
  intro p e s m args below meth c s₁ Bd hml0 hP hK
  obtain ⟨rfl, hZ, hh⟩ := hP
  have hx := Bd.exec
  have hby := Bd.bytes
  have hml : c.maxLocals = 2 := hml0
  have hown : s.vm.findClass "java/lang/Integer" = some m.cls := findClass_of_methodNamed Bd.named
  have hnm := (name_of_methodNamed Bd.named Bd.method).1
  have X0 : Stand p l e ({ frames := 0, cells := 0, slots := 0, locals := 0 } : Room) s m #[(.int x1)] below meth c s₁ [] 0 0 := Stand.of_body Bd
  have e0 : s₁.heap = h0 := by rw [← hh, Bd.state]; rfl
  have N0 := Fr.nil n0
  have pre0 := fun t (k : Steps p.tables e below (s₁.setTop _) t) => castTop (ef_2 m x1) k
  have pre101 : ∀ t, Steps p.tables e below (s₁.setTop (mkF m 1 #[vI x1, .unset] [(.int x1)])) t → Steps p.tables e below (s₁.setTop (entryFrame m #[(.int x1)] 2)) t := fun t kt => pre0 t (by
      show Steps p.tables e below (s₁.setTop (mkF m 0 #[vI x1, .unset] [])) _
      refine XS.iloadN X0.here hx rfl (hb hby dc4_0) rfl ?_
      exact kt)
  by_cases hc102 : (0 : Int32) < x1
  · skip
    have pre103 : ∀ t, Steps p.tables e below (s₁.setTop (mkF m 18 #[vI x1, vI (31 : Int32)] [])) t → Steps p.tables e below (s₁.setTop (entryFrame m #[(.int x1)] 2)) t := fun t kt => pre101 t (by
        show Steps p.tables e below (s₁.setTop (mkF m 1 #[vI x1, .unset] [(.int x1)])) _
        refine XS.ifYes X0.here hx rfl (pc0 := 1) (pc' := 15) rfl (hb hby dc4_1) rfl ((if0 _ _).trans (tlt hc102).2.2.1) (by decide) (by decide) ?_
        refine XS.bipush X0.here hx rfl (hb hby dc4_15) ?_
        refine XS.istoreN X0.here hx rfl (hb hby dc4_17) rfl (l' := #[vI x1, vI (31 : Int32)]) rfl ?_
        exact kt)
    have px1 : 0 ≤ x1.toInt := by have q := hc102; rw [Int32.lt_iff_toInt_lt] at q; have e : (0 : Int32).toInt = 0 := rfl; omega
    obtain ⟨x2, n2, G2, p2, q2, r2, s2⟩ := nz0 hx hZ hw hby hml hown x1 (31 : Int32) ⟨_, _, X0, e0, N0, O0, pre103⟩ px1 (rng32 x1).2 (by decide) (by decide)
    obtain ⟨x3, n3, G3, p3, q3, r3, s3⟩ := nz1 hx hZ hw hby hml hown x2 n2 G2 p2 q2 r2 s2
    obtain ⟨x4, n4, G4, p4, q4, r4, s4⟩ := nz2 hx hZ hw hby hml hown x3 n3 G3 p3 q3 r3 s3
    obtain ⟨x5, n5, G5, p5, q5, r5, s5⟩ := nz3 hx hZ hw hby hml hown x4 n4 G4 p4 q4 r4 s4
    have G104 := G5
    obtain ⟨h104, hh104⟩ : ∃ z, z = h0 := ⟨_, rfl⟩
    rw [← hh104] at G104
    obtain ⟨T104, L104, X104, e104, N104, O104, pre104⟩ := G104
    obtain ⟨y1, hy⟩ : ∃ y, ((x5.toUInt32 >>> ((1 : Int32) &&& 31).toUInt32).toInt32) = y := ⟨_, rfl⟩
    have dy := own_us hy (kk := 1) (by decide) (by decide) p5
    obtain ⟨fs, hr, hrun, hended, hW, hsame⟩ := X104.leave (v := some (.int (n5 - y1))) (fun h => by rw [Bd.returns] at h; cases h)
    refine ⟨_, _, pre104 _ ?_, hrun, hended, _, _, rfl, ?_, ⟨_, rfl⟩, hW, hsame.mono (by decide) (by decide)⟩
    · skip
      show Steps p.tables e below (T104.setTop (mkF m 73 #[vI x5, vI n5] [])) _
      refine XS.iloadN X104.here hx rfl (hb hby dc4_73) rfl ?_
      refine XS.iloadN X104.here hx rfl (hb hby dc4_74) rfl ?_
      refine XS.iconst X104.here hx rfl (hb hby dc4_75) ?_
      refine XS.iushr X104.here hx rfl (hb hby dc4_76) rfl ?_
      show Steps p.tables e below (T104.setTop (mkF m 77 #[vI x5, vI n5] [(.int ((x5.toUInt32 >>> ((1 : Int32) &&& 31).toUInt32).toInt32)), (.int n5)])) _
      rw [hy]
      refine XS.isub X104.here hx rfl (hb hby dc4_77) rfl ?_
      exact retI X104 hx Bd.returns (hb hby dc4_78) hr
    · show Q_nz 32 h0 n0 _ T104.heap _
      rw [e104]
      have sb := c_isub n5 y1
      have rg := rng32 (n5 - y1)
      exact ⟨_, rfl, N104, hh104, by omega, by omega⟩
  · skip
    have pre105 : ∀ t, Steps p.tables e below (s₁.setTop (mkF m 5 #[vI x1, .unset] [(.int x1)])) t → Steps p.tables e below (s₁.setTop (entryFrame m #[(.int x1)] 2)) t := fun t kt => pre101 t (by
        show Steps p.tables e below (s₁.setTop (mkF m 1 #[vI x1, .unset] [(.int x1)])) _
        refine XS.ifNo X0.here hx rfl (hb hby dc4_1) rfl ((if0 _ _).trans (flt hc102).2.2.1) ?_
        show Steps p.tables e below (s₁.setTop (mkF m 4 #[vI x1, .unset] [])) _
        refine XS.iloadN X0.here hx rfl (hb hby dc4_4) rfl ?_
        exact kt)
    by_cases hc106 : x1 = (0 : Int32)
    · skip
      obtain ⟨fs, hr, hrun, hended, hW, hsame⟩ := X0.leave (v := some (.int (32 : Int32))) (fun h => by rw [Bd.returns] at h; cases h)
      refine ⟨_, _, pre105 _ ?_, hrun, hended, _, _, rfl, ?_, ⟨_, rfl⟩, hW, hsame.mono (by decide) (by decide)⟩
      · skip
        show Steps p.tables e below (s₁.setTop (mkF m 5 #[vI x1, .unset] [(.int x1)])) _
        refine XS.ifNo X0.here hx rfl (hb hby dc4_5) rfl ((if0 _ _).trans (teq hc106).2) ?_
        refine XS.bipush X0.here hx rfl (hb hby dc4_8) ?_
        refine XS.goto X0.here hx rfl (pc0 := 10) (pc' := 14) rfl (hb hby dc4_10) (by decide) (by decide) ?_
        exact retI X0 hx Bd.returns (hb hby dc4_14) hr
      · show Q_nz 32 h0 n0 _ s₁.heap _
        rw [e0]
        exact ⟨_, rfl, N0, rfl, by decide, by decide⟩
    · skip
      obtain ⟨fs, hr, hrun, hended, hW, hsame⟩ := X0.leave (v := some (.int (0 : Int32))) (fun h => by rw [Bd.returns] at h; cases h)
      refine ⟨_, _, pre105 _ ?_, hrun, hended, _, _, rfl, ?_, ⟨_, rfl⟩, hW, hsame.mono (by decide) (by decide)⟩
      · skip
        show Steps p.tables e below (s₁.setTop (mkF m 5 #[vI x1, .unset] [(.int x1)])) _
        refine XS.ifYes X0.here hx rfl (pc0 := 5) (pc' := 13) rfl (hb hby dc4_5) rfl ((if0 _ _).trans (feq hc106).2) (by decide) (by decide) ?_
        refine XS.iconst X0.here hx rfl (hb hby dc4_13) ?_
        exact retI X0 hx Bd.returns (hb hby dc4_14) hr
      · show Q_nz 32 h0 n0 _ s₁.heap _
        rw [e0]
        exact ⟨_, rfl, N0, rfl, by decide, by decide⟩
abbrev y_5 : MethodName := (⟨"java/lang/Long", "numberOfLeadingZeros", "(J)I"⟩ : MethodName)
theorem pn_3 : plainName "java/lang/Long" = true := by first | (simp [plainName, overriddenIn]; done) | decide +kernel
theorem ef_3 (m : MethodId) (x0 : Int64) : entryFrame m #[(.long x0)] 3 = mkF m 0 #[.val (.long x0), .second, .unset] [] := by first | (simp [entryFrame, mkF, argsToLocals, Value.category]; done) | rfl
abbrev C5 := jdk_35_method_48_code
theorem dc5_0 : decode C5 0 = .ok (.lload_n 0, 1) := by decide +kernel
theorem dc5_1 : decode C5 1 = .ok (.bipush 32, 2) := by decide +kernel
theorem dc5_3 : decode C5 3 = .ok (.lushr, 1) := by decide +kernel
theorem dc5_4 : decode C5 4 = .ok (.l2i, 1) := by decide +kernel
theorem dc5_5 : decode C5 5 = .ok (.istore_n 2, 1) := by decide +kernel
theorem dc5_6 : decode C5 6 = .ok (.iload_n 2, 1) := by decide +kernel
theorem dc5_7 : decode C5 7 = .ok (.ifCond .ne 14, 3) := by decide +kernel
theorem dc5_10 : decode C5 10 = .ok (.bipush 32, 2) := by decide +kernel
theorem dc5_12 : decode C5 12 = .ok (.lload_n 0, 1) := by decide +kernel
theorem dc5_13 : decode C5 13 = .ok (.l2i, 1) := by decide +kernel
theorem dc5_14 : decode C5 14 = .ok (.invokestatic 308, 3) := by decide +kernel
theorem pd_0 : parseMethodDescriptor "(I)I" = some ⟨[.int], some .int⟩ := by decide +kernel
theorem dc5_17 : decode C5 17 = .ok (.iadd, 1) := by decide +kernel
theorem dc5_18 : decode C5 18 = .ok (.goto 7, 3) := by decide +kernel
theorem dc5_25 : decode C5 25 = .ok (.ireturn, 1) := by decide +kernel
theorem dc5_21 : decode C5 21 = .ok (.iload_n 2, 1) := by decide +kernel
theorem dc5_22 : decode C5 22 = .ok (.invokestatic 308, 3) := by decide +kernel
theorem rmLn (l : Launch) (Z : State) (a0 : Array Value) (hw : HwT a0 Z) (ws : List Jvm.Cond) (x1 : Int64) (h0 : Heap) (n0 : Nat) (O0 : Old Z n0 h0) :
    Mt l Z y_5 jdk_35_method_48_code 3 (some .int) ws ({ frames := 1, cells := 0, slots := 0, locals := 14 } : Room) #[(.long x1)] h0 (Q_nz 64 h0 n0) := by
  refine MetFree.of_bodySF (plainFor_of_name pn_3) hisR ?_
  intro p e s m args below meth c s₁ Bd hml0 hP hK
  obtain ⟨rfl, hZ, hh⟩ := hP
  have hx := Bd.exec
  have hby := Bd.bytes
  have hml : c.maxLocals = 3 := hml0
  have hown : s.vm.findClass "java/lang/Long" = some m.cls := findClass_of_methodNamed Bd.named
  have hnm := (name_of_methodNamed Bd.named Bd.method).1
  have X0 : Stand p l e ({ frames := 1, cells := 0, slots := 0, locals := 14 } : Room) s m #[(.long x1)] below meth c s₁ [] 0 0 := Stand.of_body Bd
  have e0 : s₁.heap = h0 := by rw [← hh, Bd.state]; rfl
  have N0 := Fr.nil n0
  have pre0 := fun t (k : Steps p.tables e below (s₁.setTop _) t) => castTop (ef_3 m x1) k
  have pre101 : ∀ t, Steps p.tables e below (s₁.setTop (mkF m 7 #[vJ x1, .second, vI (((x1.toUInt64 >>> ((32 : Int32) &&& 0x3f).toInt64.toUInt64).toInt64).toInt32)] [(.int (((x1.toUInt64 >>> ((32 : Int32) &&& 0x3f).toInt64.toUInt64).toInt64).toInt32))])) t → Steps p.tables e below (s₁.setTop (entryFrame m #[(.long x1)] 3)) t := fun t kt => pre0 t (by
      show Steps p.tables e below (s₁.setTop (mkF m 0 #[vJ x1, .second, .unset] [])) _
      refine XS.lloadN X0.here hx rfl (hb hby dc5_0) rfl ?_
      refine XS.bipush X0.here hx rfl (hb hby dc5_1) ?_
      refine XS.lushr X0.here hx rfl (hb hby dc5_3) rfl ?_
      refine XS.l2i X0.here hx rfl (hb hby dc5_4) rfl ?_
      show Steps p.tables e below (s₁.setTop (mkF m 5 #[vJ x1, .second, .unset] [(.int (((x1.toUInt64 >>> ((32 : Int32) &&& 0x3f).toInt64.toUInt64).toInt64).toInt32))])) _
      refine XS.istoreN X0.here hx rfl (hb hby dc5_5) rfl (l' := #[vJ x1, .second, vI (((x1.toUInt64 >>> ((32 : Int32) &&& 0x3f).toInt64.toUInt64).toInt64).toInt32)]) rfl ?_
      refine XS.iloadN X0.here hx rfl (hb hby dc5_6) rfl ?_
      exact kt)
  by_cases hc102 : (((x1.toUInt64 >>> ((32 : Int32) &&& 0x3f).toInt64.toUInt64).toInt64).toInt32) = (0 : Int32)
  · skip
    obtain ⟨_, _, ⟨T103, L103, k103, n103⟩, -, X103, ⟨Lc103, hQ103, l103, y103, z103⟩, st103⟩ := Jvm.LawKit.callS X0 hx (y := y_4) hown (mvT hZ (wq hw 147 rfl)) (mvT hZ (wq hw 148 rfl)) (mvT hZ (wq hw 149 rfl)) (mvT hZ (wq hw 150 rfl)) (by decide) (backOf (W := 1) (rmIn l Z a0 hw [] (x1.toInt32) h0 n0 O0) hZ (wq hw 150 rfl) (wq hw 149 rfl) (by decide) (by decide)) (g := (mkF m 14 #[vJ x1, .second, vI (((x1.toUInt64 >>> ((32 : Int32) &&& 0x3f).toInt64.toUInt64).toInt64).toInt32)] [(.int (x1.toInt32)), (.int (32 : Int32))])) rfl (by rw [hml]; rfl) (argsL := [(.int (x1.toInt32))]) (rest := [(.int (32 : Int32))]) (lenOf pd_0 rfl) rfl (by show 2 * 0 + _ ≤ _; exact Nat.le_of_eq rfl) (hb hby dc5_14) (fun _ _ => ⟨rfl, e0, (by decide : 0 + 0 ≤ _), (by decide : 0 + 0 ≤ _)⟩)
    dsimp only [Pt.U, Pt.locs, Pt.cells, Pt.slots] at X103 l103 y103 z103 st103 hQ103
    subst l103 y103 z103
    obtain ⟨r103, rfl, N103q, hh103, lo103, hi103⟩ := hQ103
    have N103 := Fr.app N0 N103q
    obtain ⟨fs, hr, hrun, hended, hW, hsame⟩ := X103.leave (v := some (.int ((32 : Int32) + r103))) (fun h => by rw [Bd.returns] at h; cases h)
    refine ⟨_, _, pre101 _ ?_, hrun, hended, _, _, rfl, ?_, ⟨_, rfl⟩, hW, hsame.mono (by decide) (by decide)⟩
    · skip
      show Steps p.tables e below (s₁.setTop (mkF m 7 #[vJ x1, .second, vI (((x1.toUInt64 >>> ((32 : Int32) &&& 0x3f).toInt64.toUInt64).toInt64).toInt32)] [(.int (((x1.toUInt64 >>> ((32 : Int32) &&& 0x3f).toInt64.toUInt64).toInt64).toInt32))])) _
      refine XS.ifNo X0.here hx rfl (hb hby dc5_7) rfl ((if0 _ _).trans (teq hc102).2) ?_
      refine XS.bipush X0.here hx rfl (hb hby dc5_10) ?_
      refine XS.lloadN X0.here hx rfl (hb hby dc5_12) rfl ?_
      refine XS.l2i X0.here hx rfl (hb hby dc5_13) rfl ?_
      refine st103 _ ?_
      refine XS.iadd X103.here hx rfl (hb hby dc5_17) rfl ?_
      refine XS.goto X103.here hx rfl (pc0 := 18) (pc' := 25) rfl (hb hby dc5_18) (by decide) (by decide) ?_
      exact retI X103 hx Bd.returns (hb hby dc5_25) hr
    · show Q_nz 64 h0 n0 _ T103.heap _
      rw [hh103]
      have e : (32 : Int32).toInt = 32 := rfl
      have a := c_iadd 32 r103
      have b := rng32 ((32 : Int32) + r103)
      exact ⟨_, rfl, N103, rfl, by omega, by omega⟩
  · skip
    obtain ⟨_, _, ⟨T104, L104, k104, n104⟩, -, X104, ⟨Lc104, hQ104, l104, y104, z104⟩, st104⟩ := Jvm.LawKit.callS X0 hx (y := y_4) hown (mvT hZ (wq hw 147 rfl)) (mvT hZ (wq hw 148 rfl)) (mvT hZ (wq hw 149 rfl)) (mvT hZ (wq hw 150 rfl)) (by decide) (backOf (W := 0) (rmIn l Z a0 hw [] (((x1.toUInt64 >>> ((32 : Int32) &&& 0x3f).toInt64.toUInt64).toInt64).toInt32) h0 n0 O0) hZ (wq hw 150 rfl) (wq hw 149 rfl) (by decide) (by decide)) (g := (mkF m 22 #[vJ x1, .second, vI (((x1.toUInt64 >>> ((32 : Int32) &&& 0x3f).toInt64.toUInt64).toInt64).toInt32)] [(.int (((x1.toUInt64 >>> ((32 : Int32) &&& 0x3f).toInt64.toUInt64).toInt64).toInt32))])) rfl (by rw [hml]; rfl) (argsL := [(.int (((x1.toUInt64 >>> ((32 : Int32) &&& 0x3f).toInt64.toUInt64).toInt64).toInt32))]) (rest := []) (lenOf pd_0 rfl) rfl (by show 2 * 0 + _ ≤ _; exact Nat.le_of_eq rfl) (hb hby dc5_22) (fun _ _ => ⟨rfl, e0, (by decide : 0 + 0 ≤ _), (by decide : 0 + 0 ≤ _)⟩)
    dsimp only [Pt.U, Pt.locs, Pt.cells, Pt.slots] at X104 l104 y104 z104 st104 hQ104
    subst l104 y104 z104
    obtain ⟨r104, rfl, N104q, hh104, lo104, hi104⟩ := hQ104
    have N104 := Fr.app N0 N104q
    obtain ⟨fs, hr, hrun, hended, hW, hsame⟩ := X104.leave (v := some (.int r104)) (fun h => by rw [Bd.returns] at h; cases h)
    refine ⟨_, _, pre101 _ ?_, hrun, hended, _, _, rfl, ?_, ⟨_, rfl⟩, hW, hsame.mono (by decide) (by decide)⟩
    · skip
      show Steps p.tables e below (s₁.setTop (mkF m 7 #[vJ x1, .second, vI (((x1.toUInt64 >>> ((32 : Int32) &&& 0x3f).toInt64.toUInt64).toInt64).toInt32)] [(.int (((x1.toUInt64 >>> ((32 : Int32) &&& 0x3f).toInt64.toUInt64).toInt64).toInt32))])) _
      refine XS.ifYes X0.here hx rfl (pc0 := 7) (pc' := 21) rfl (hb hby dc5_7) rfl ((if0 _ _).trans (feq hc102).2) (by decide) (by decide) ?_
      show Steps p.tables e below (s₁.setTop (mkF m 21 #[vJ x1, .second, vI (((x1.toUInt64 >>> ((32 : Int32) &&& 0x3f).toInt64.toUInt64).toInt64).toInt32)] [])) _
      refine XS.iloadN X0.here hx rfl (hb hby dc5_21) rfl ?_
      refine st104 _ ?_
      exact retI X104 hx Bd.returns (hb hby dc5_25) hr
    · show Q_nz 64 h0 n0 _ T104.heap _
      rw [hh104]
      exact ⟨_, rfl, N104, rfl, lo104, by omega⟩
abbrev y_6 : MethodName := (⟨"java/util/BitSet", "checkInvariants", "()V"⟩ : MethodName)
theorem ef_4 (m : MethodId) (x0 : Addr) : entryFrame m #[(.ref x0)] 1 = mkF m 0 #[.val (.ref x0)] [] := by first | (simp [entryFrame, mkF, argsToLocals, Value.category]; done) | rfl
abbrev C6 := jdk_92_method_2_code
theorem dc6_0 : decode C6 0 = .ok (.getstatic 3, 3) := by decide +kernel
theorem dc6_3 : decode C6 3 = .ok (.ifCond .ne 34, 3) := by decide +kernel
theorem dc6_37 : decode C6 37 = .ok (.getstatic 3, 3) := by decide +kernel
theorem dc6_40 : decode C6 40 = .ok (.ifCond .ne 30, 3) := by decide +kernel
theorem dc6_70 : decode C6 70 = .ok (.getstatic 3, 3) := by decide +kernel
theorem dc6_73 : decode C6 73 = .ok (.ifCond .ne 37, 3) := by decide +kernel
theorem dc6_110 : decode C6 110 = .ok (.return_, 1) := by decide +kernel
theorem rmCk (l : Launch) (Z : State) (a0 : Array Value) (hw : HwT a0 Z) (ws : List Jvm.Cond) (c1 : Addr) (h0 : Heap) (n0 : Nat) (O0 : Old Z n0 h0) (SB : Sta Z Z.heap sB "$assertionsDisabled" "Z" (.int (1 : Int32))) :
    Mt l Z y_6 jdk_92_method_2_code 1 none ws ({ frames := 0, cells := 0, slots := 0, locals := 0 } : Room) #[(.ref c1)] h0 (Q_n h0 n0) := by
  refine MetFree.of_bodySF (plainFor_of_name pn_1) hisR ?_
  intro p e s m args below meth c s₁ Bd hml0 hP hK
  obtain ⟨rfl, hZ, hh⟩ := hP
  have hx := Bd.exec
  have hby := Bd.bytes
  have hml : c.maxLocals = 1 := hml0
  have hown : s.vm.findClass sB = some m.cls := findClass_of_methodNamed Bd.named
  have hnm := (name_of_methodNamed Bd.named Bd.method).1
  have X0 : Stand p l e ({ frames := 0, cells := 0, slots := 0, locals := 0 } : Room) s m #[(.ref c1)] below meth c s₁ [] 0 0 := Stand.of_body Bd
  have e0 : s₁.heap = h0 := by rw [← hh, Bd.state]; rfl
  have N0 := Fr.nil n0
  have pre0 := fun t (k : Steps p.tables e below (s₁.setTop _) t) => castTop (ef_4 m c1) k
  obtain ⟨T101, X101, e101, st101⟩ := getS2 X0 hx hZ hown (host := "") (Or.inl (wq hw 110 rfl)) Via.refl e0 (Sta.ext O0.2 SB) (g := (mkF m 0 #[vR c1] [])) rfl (hb hby dc6_0)
  obtain ⟨T102, X102, e102, st102⟩ := getS2 X101 hx hZ hown (host := "") (Or.inl (wq hw 110 rfl)) Via.refl e101 (Sta.ext O0.2 SB) (g := (mkF m 37 #[vR c1] [])) rfl (hb hby dc6_37)
  obtain ⟨T103, X103, e103, st103⟩ := getS2 X102 hx hZ hown (host := "") (Or.inl (wq hw 110 rfl)) Via.refl e102 (Sta.ext O0.2 SB) (g := (mkF m 70 #[vR c1] [])) rfl (hb hby dc6_70)
  obtain ⟨fs, hr, hrun, hended, hW, hsame⟩ := X103.leave (v := none) (fun _ => rfl)
  refine ⟨_, _, pre0 _ ?_, hrun, hended, _, _, rfl, ?_, ⟨_, rfl⟩, hW, hsame.mono (by decide) (by decide)⟩
  · skip
    show Steps p.tables e below (s₁.setTop (mkF m 0 #[vR c1] [])) _
    refine st101 _ ?_
    refine XS.ifYes X101.here hx rfl (pc0 := 3) (pc' := 37) rfl (hb hby dc6_3) rfl (by decide) (by decide) (by decide) ?_
    refine st102 _ ?_
    refine XS.ifYes X102.here hx rfl (pc0 := 40) (pc' := 70) rfl (hb hby dc6_40) rfl (by decide) (by decide) (by decide) ?_
    show Steps p.tables e below (T102.setTop (mkF m 70 #[vR c1] [])) _
    refine st103 _ ?_
    refine XS.ifYes X103.here hx rfl (pc0 := 73) (pc' := 110) rfl (hb hby dc6_73) rfl (by decide) (by decide) (by decide) ?_
    exact X103.returnOut hx Bd.returns (hb hby dc6_110) hr
  · show Q_n h0 n0 _ T103.heap _
    rw [e103]
    exact ⟨rfl, N0, rfl⟩
def Q_Cj (Z : State) (x0 : Int64) (h0 : Heap) (n0 : Nat) (v : Option Value) (h : Heap) (L : List Loc) : Prop := ∃ (d2 : Addr) (k2 : ClassId), v = some (.ref d2) ∧ Fr n0 L ∧ n0 ≤ d2 ∧ h0.size ≤ d2 ∧ Keep h0 h [] ∧ Arv Z h d2 k2 .long (2 : Int32) [(.long x0), (.long (0 : Int64))] (.long (0 : Int64))
abbrev y_7 : MethodName := (⟨"java/util/Arrays", "copyOf", "([JI)[J"⟩ : MethodName)
theorem pn_4 : plainName "java/util/Arrays" = true := by first | (simp [plainName, overriddenIn]; done) | decide +kernel
theorem ef_5 (m : MethodId) (x0 : Addr) (x1 : Int32) : entryFrame m #[(.ref x0), (.int x1)] 3 = mkF m 0 #[.val (.ref x0), .val (.int x1), .unset] [] := by first | (simp [entryFrame, mkF, argsToLocals, Value.category]; done) | rfl
abbrev C7 := jdk_65_method_124_code
theorem dc7_0 : decode C7 0 = .ok (.iload_n 1, 1) := by decide +kernel
theorem dc7_1 : decode C7 1 = .ok (.aload_n 0, 1) := by decide +kernel
theorem dc7_2 : decode C7 2 = .ok (.arraylength, 1) := by decide +kernel
theorem dc7_3 : decode C7 3 = .ok (.if_icmp .ne 11, 3) := by decide +kernel
theorem dc7_14 : decode C7 14 = .ok (.iload_n 1, 1) := by decide +kernel
theorem dc7_15 : decode C7 15 = .ok (.newarray .long, 2) := by decide +kernel
theorem dc7_17 : decode C7 17 = .ok (.astore_n 2, 1) := by decide +kernel
theorem dc7_18 : decode C7 18 = .ok (.aload_n 0, 1) := by decide +kernel
theorem dc7_19 : decode C7 19 = .ok (.iconst 0, 1) := by decide +kernel
theorem dc7_20 : decode C7 20 = .ok (.aload_n 2, 1) := by decide +kernel
theorem dc7_21 : decode C7 21 = .ok (.iconst 0, 1) := by decide +kernel
theorem dc7_22 : decode C7 22 = .ok (.aload_n 0, 1) := by decide +kernel
theorem dc7_23 : decode C7 23 = .ok (.arraylength, 1) := by decide +kernel
theorem dc7_24 : decode C7 24 = .ok (.iload_n 1, 1) := by decide +kernel
theorem dc7_25 : decode C7 25 = .ok (.invokestatic 304, 3) := by decide +kernel
theorem pd_1 : parseMethodDescriptor "(II)I" = some ⟨[.int, .int], some .int⟩ := by decide +kernel
theorem dc7_28 : decode C7 28 = .ok (.invokestatic 150, 3) := by decide +kernel
theorem dc7_31 : decode C7 31 = .ok (.aload_n 2, 1) := by decide +kernel
theorem dc7_32 : decode C7 32 = .ok (.areturn, 1) := by decide +kernel
theorem rmCj (l : Launch) (Z : State) (a0 : Array Value) (hw : HwT a0 Z) (ws : List Jvm.Cond) (d1 : Addr) (kd : ClassId) (x0 : Int64) (h0 : Heap) (n0 : Nat) (O0 : Old Z n0 h0) (Vd : Arv Z h0 d1 kd .long (1 : Int32) [(.long x0)] (.long (0 : Int64))) :
    Mt l Z y_7 jdk_65_method_124_code 3 (some (.array .long)) ws ({ frames := 1, cells := 1, slots := 2, locals := 18 } : Room) #[(.ref d1), (.int (2 : Int32))] h0 (Q_Cj Z x0 h0 n0) := by
  refine MetFree.of_bodySF (plainFor_of_name pn_4) hisR ?_
  intro p e s m args below meth c s₁ Bd hml0 hP hK
  obtain ⟨rfl, hZ, hh⟩ := hP
  have hx := Bd.exec
  have hby := Bd.bytes
  have hml : c.maxLocals = 3 := hml0
  have hown : s.vm.findClass "java/util/Arrays" = some m.cls := findClass_of_methodNamed Bd.named
  have hnm := (name_of_methodNamed Bd.named Bd.method).1
  have X0 : Stand p l e ({ frames := 1, cells := 1, slots := 2, locals := 18 } : Room) s m #[(.ref d1), (.int (2 : Int32))] below meth c s₁ [] 0 0 := Stand.of_body Bd
  have e0 : s₁.heap = h0 := by rw [← hh, Bd.state]; rfl
  have N0 := Fr.nil n0
  have pre0 := fun t (k : Steps p.tables e below (s₁.setTop _) t) => castTop (ef_5 m d1 (2 : Int32)) k
  obtain ⟨cl101, Ar101, q101, S101, N101_, H101, G101⟩ := id Vd
  obtain ⟨T102, h102, k102, X102, e102, E102, A102, st102⟩ := newP X0 hx hZ (wq hw 12 rfl) e0 (g := (mkF m 15 #[vR d1, vI (2 : Int32), .unset] [(.int (2 : Int32))])) rfl (hb hby dc7_15) rfl (by decide) (cap := 2) (by decide) (by decide) (by decide) (by decide)
  obtain ⟨b102, g102⟩ : ∃ z, z = h0.size := ⟨_, rfl⟩
  rw [← g102] at A102 st102
  have gb102 : n0 ≤ b102 := by rw [g102, ← O0.1]; exact O0.2.1
  have ne102_d1 : d1 ≠ b102 := by rw [g102]; exact Nat.ne_of_lt (Vd).lt
  have sz102 : h0.size ≤ b102 := by rw [g102]; exact ((Keep.refl h0 [])).1
  have V102 : Arv Z h102 b102 k102 .long (2 : Int32) [(.long (0 : Int64)), (.long (0 : Int64))] (.long (0 : Int64)) := (Arv.new A102 (by decide)).pad (pad_rep [] (.long (0 : Int64)) 2)
  have f103 := (Vd.ext E102)
  obtain ⟨cl104, Ar104, q104, S104, N104_, H104, G104⟩ := id f103
  have O105 : Old Z n0 h102 := (O0.ext E102)
  obtain ⟨_, _, ⟨T106, L106, k106, n106⟩, -, X106, ⟨Lc106, hQ106, l106, y106, z106⟩, st106⟩ := Jvm.LawKit.callS X102 hx (y := y_1) hown (mvT hZ (wq hw 61 rfl)) (mvT hZ (wq hw 62 rfl)) (mvT hZ (wq hw 56 rfl)) (mvT hZ (wq hw 63 rfl)) (by decide) (backOf (W := 4) (rmMnL12 l Z a0 hw [] h102 n0 O105) hZ (wq hw 63 rfl) (wq hw 56 rfl) (by decide) (by decide)) (g := (mkF m 25 #[vR d1, vI (2 : Int32), vR b102] [(.int (2 : Int32)), (.int (1 : Int32)), (.int (0 : Int32)), (.ref b102), (.int (0 : Int32)), (.ref d1)])) rfl (by rw [hml]; rfl) (argsL := [(.int (1 : Int32)), (.int (2 : Int32))]) (rest := [(.int (0 : Int32)), (.ref b102), (.int (0 : Int32)), (.ref d1)]) (lenOf pd_1 rfl) rfl (by show 2 * 0 + _ ≤ _; exact Nat.le_of_eq rfl) (hb hby dc7_25) (fun _ _ => ⟨rfl, e102, (by decide : 1 + 0 ≤ _), (by decide : 2 + 0 ≤ _)⟩)
  dsimp only [Pt.U, Pt.locs, Pt.cells, Pt.slots] at X106 l106 y106 z106 st106 hQ106
  subst l106 y106 z106
  obtain ⟨rfl, N106q, hh106⟩ := hQ106
  have N106 := Fr.app N0 N106q
  obtain ⟨T107, h107, L107, X107, e107, N107, K107, V107_, st107⟩ := cpA X106 hx hZ hown (wq hw 64 rfl) (wq hw 53 rfl) (wq hw 51 rfl) (wq hw 52 rfl) hh106 f103 V102 (Or.inl ⟨rfl, rfl⟩) (by decide) (by decide) (by decide) (by decide) (by decide) rfl (Nat.le_trans (by decide) (by decide : (2 : Int32).toNatClampNeg ≤ 2)) N106 gb102 (g := (mkF m 28 #[vR d1, vI (2 : Int32), vR b102] [(.int (1 : Int32)), (.int (0 : Int32)), (.ref b102), (.int (0 : Int32)), (.ref d1)])) rfl (by rw [hml]; rfl) rfl (hb hby dc7_28) (by decide) (W := 0) (by show 2 * 0 + _ ≤ _; exact Nat.le_of_eq rfl) (by decide)
  have V107 : Arv Z h107 b102 k102 .long (2 : Int32) [(.long x0), (.long (0 : Int64))] (.long (0 : Int64)) := V107_
  obtain ⟨fs, hr, hrun, hended, hW, hsame⟩ := X107.leave (v := some (.ref b102)) (fun h => by rw [Bd.returns] at h; cases h)
  have K108 : Keep h0 h107 [] := (Keep.trans (Keep.ext (Keep.refl h0 []) E102) K107 (allS (P := fun x => x ∈ [] ∨ h0.size ≤ x) (Or.inr sz102) all0))
  refine ⟨_, _, pre0 _ ?_, hrun, hended, _, _, rfl, ?_, ⟨_, rfl⟩, hW, hsame.mono (by decide) (by decide)⟩
  · skip
    show Steps p.tables e below (s₁.setTop (mkF m 0 #[vR d1, vI (2 : Int32), .unset] [])) _
    refine XS.iloadN X0.here hx rfl (hb hby dc7_0) rfl ?_
    refine XS.aloadN X0.here hx rfl (hb hby dc7_1) rfl rfl ?_
    refine X0.arraylength hx (by rw [e0]; exact Ar101.1) (State.isArrayOf_alike hZ.alike Ar101.2.1) (g := (mkF m 2 #[vR d1, vI (2 : Int32), .unset] [(.ref d1), (.int (2 : Int32))])) rfl rfl (hb hby dc7_2) _ ?_
    rw [len_of S101 N101_]
    refine XS.icmpYes X0.here hx rfl (pc0 := 3) (pc' := 14) rfl (hb hby dc7_3) rfl (by decide) (by decide) (by decide) ?_
    refine XS.iloadN X0.here hx rfl (hb hby dc7_14) rfl ?_
    show Steps p.tables e below (s₁.setTop (mkF m 15 #[vR d1, vI (2 : Int32), .unset] [(.int (2 : Int32))])) _
    refine st102 _ ?_
    refine XS.astoreN X102.here hx rfl (hb hby dc7_17) rfl rfl (l' := #[vR d1, vI (2 : Int32), vR b102]) rfl ?_
    refine XS.aloadN X102.here hx rfl (hb hby dc7_18) rfl rfl ?_
    refine XS.iconst X102.here hx rfl (hb hby dc7_19) ?_
    refine XS.aloadN X102.here hx rfl (hb hby dc7_20) rfl rfl ?_
    refine XS.iconst X102.here hx rfl (hb hby dc7_21) ?_
    refine XS.aloadN X102.here hx rfl (hb hby dc7_22) rfl rfl ?_
    refine X102.arraylength hx (by rw [e102]; exact Ar104.1) (State.isArrayOf_alike hZ.alike Ar104.2.1) (g := (mkF m 23 #[vR d1, vI (2 : Int32), vR b102] [(.ref d1), (.int (0 : Int32)), (.ref b102), (.int (0 : Int32)), (.ref d1)])) rfl rfl (hb hby dc7_23) _ ?_
    rw [len_of S104 N104_]
    refine XS.iloadN X102.here hx rfl (hb hby dc7_24) rfl ?_
    refine st106 _ ?_
    refine st107 _ ?_
    refine XS.aloadN X107.here hx rfl (hb hby dc7_31) rfl rfl ?_
    show Steps p.tables e below (T107.setTop (mkF m 32 #[vR d1, vI (2 : Int32), vR b102] [(.ref b102)])) _
    exact retOut X107 hx (t := (.array .long)) Bd.returns rfl (Or.inr (Or.inr (Or.inr (Or.inr ⟨rfl, rfl, rfl⟩)))) (hb hby dc7_32) hr
  · show Q_Cj Z x0 h0 n0 _ T107.heap _
    rw [e107]
    exact ⟨_, _, rfl, N107, gb102, sz102, K108, V107⟩
def Q_Ci12 (Z : State) (x0 : Int32) (h0 : Heap) (n0 : Nat) (v : Option Value) (h : Heap) (L : List Loc) : Prop := ∃ (d2 : Addr) (k2 : ClassId), v = some (.ref d2) ∧ Fr n0 L ∧ n0 ≤ d2 ∧ h0.size ≤ d2 ∧ Keep h0 h [] ∧ Arv Z h d2 k2 .int (2 : Int32) [(.int x0), (.int (0 : Int32))] (.int (0 : Int32))
abbrev y_8 : MethodName := (⟨"java/util/Arrays", "copyOf", "([II)[I"⟩ : MethodName)
abbrev C8 := jdk_65_method_123_code
theorem dc8_0 : decode C8 0 = .ok (.iload_n 1, 1) := by decide +kernel
theorem dc8_1 : decode C8 1 = .ok (.aload_n 0, 1) := by decide +kernel
theorem dc8_2 : decode C8 2 = .ok (.arraylength, 1) := by decide +kernel
theorem dc8_3 : decode C8 3 = .ok (.if_icmp .ne 11, 3) := by decide +kernel
theorem dc8_14 : decode C8 14 = .ok (.iload_n 1, 1) := by decide +kernel
theorem dc8_15 : decode C8 15 = .ok (.newarray .int, 2) := by decide +kernel
theorem dc8_17 : decode C8 17 = .ok (.astore_n 2, 1) := by decide +kernel
theorem dc8_18 : decode C8 18 = .ok (.aload_n 0, 1) := by decide +kernel
theorem dc8_19 : decode C8 19 = .ok (.iconst 0, 1) := by decide +kernel
theorem dc8_20 : decode C8 20 = .ok (.aload_n 2, 1) := by decide +kernel
theorem dc8_21 : decode C8 21 = .ok (.iconst 0, 1) := by decide +kernel
theorem dc8_22 : decode C8 22 = .ok (.aload_n 0, 1) := by decide +kernel
theorem dc8_23 : decode C8 23 = .ok (.arraylength, 1) := by decide +kernel
theorem dc8_24 : decode C8 24 = .ok (.iload_n 1, 1) := by decide +kernel
theorem dc8_25 : decode C8 25 = .ok (.invokestatic 304, 3) := by decide +kernel
theorem dc8_28 : decode C8 28 = .ok (.invokestatic 150, 3) := by decide +kernel
theorem dc8_31 : decode C8 31 = .ok (.aload_n 2, 1) := by decide +kernel
theorem dc8_32 : decode C8 32 = .ok (.areturn, 1) := by decide +kernel
theorem rmCi12 (l : Launch) (Z : State) (a0 : Array Value) (hw : HwT a0 Z) (ws : List Jvm.Cond) (d1 : Addr) (kd : ClassId) (x0 : Int32) (h0 : Heap) (n0 : Nat) (O0 : Old Z n0 h0) (Vd : Arv Z h0 d1 kd .int (1 : Int32) [(.int x0)] (.int (0 : Int32))) :
    Mt l Z y_8 jdk_65_method_123_code 3 (some (.array .int)) ws ({ frames := 1, cells := 1, slots := 2, locals := 18 } : Room) #[(.ref d1), (.int (2 : Int32))] h0 (Q_Ci12 Z x0 h0 n0) := by
  refine MetFree.of_bodySF (plainFor_of_name pn_4) hisR ?_
  intro p e s m args below meth c s₁ Bd hml0 hP hK
  obtain ⟨rfl, hZ, hh⟩ := hP
  have hx := Bd.exec
  have hby := Bd.bytes
  have hml : c.maxLocals = 3 := hml0
  have hown : s.vm.findClass "java/util/Arrays" = some m.cls := findClass_of_methodNamed Bd.named
  have hnm := (name_of_methodNamed Bd.named Bd.method).1
  have X0 : Stand p l e ({ frames := 1, cells := 1, slots := 2, locals := 18 } : Room) s m #[(.ref d1), (.int (2 : Int32))] below meth c s₁ [] 0 0 := Stand.of_body Bd
  have e0 : s₁.heap = h0 := by rw [← hh, Bd.state]; rfl
  have N0 := Fr.nil n0
  have pre0 := fun t (k : Steps p.tables e below (s₁.setTop _) t) => castTop (ef_5 m d1 (2 : Int32)) k
  obtain ⟨cl101, Ar101, q101, S101, N101_, H101, G101⟩ := id Vd
  obtain ⟨T102, h102, k102, X102, e102, E102, A102, st102⟩ := newP X0 hx hZ (wq hw 9 rfl) e0 (g := (mkF m 15 #[vR d1, vI (2 : Int32), .unset] [(.int (2 : Int32))])) rfl (hb hby dc8_15) rfl (by decide) (cap := 2) (by decide) (by decide) (by decide) (by decide)
  obtain ⟨b102, g102⟩ : ∃ z, z = h0.size := ⟨_, rfl⟩
  rw [← g102] at A102 st102
  have gb102 : n0 ≤ b102 := by rw [g102, ← O0.1]; exact O0.2.1
  have ne102_d1 : d1 ≠ b102 := by rw [g102]; exact Nat.ne_of_lt (Vd).lt
  have sz102 : h0.size ≤ b102 := by rw [g102]; exact ((Keep.refl h0 [])).1
  have V102 : Arv Z h102 b102 k102 .int (2 : Int32) [(.int (0 : Int32)), (.int (0 : Int32))] (.int (0 : Int32)) := (Arv.new A102 (by decide)).pad (pad_rep [] (.int (0 : Int32)) 2)
  have f103 := (Vd.ext E102)
  obtain ⟨cl104, Ar104, q104, S104, N104_, H104, G104⟩ := id f103
  have O105 : Old Z n0 h102 := (O0.ext E102)
  obtain ⟨_, _, ⟨T106, L106, k106, n106⟩, -, X106, ⟨Lc106, hQ106, l106, y106, z106⟩, st106⟩ := Jvm.LawKit.callS X102 hx (y := y_1) hown (mvT hZ (wq hw 61 rfl)) (mvT hZ (wq hw 62 rfl)) (mvT hZ (wq hw 56 rfl)) (mvT hZ (wq hw 63 rfl)) (by decide) (backOf (W := 4) (rmMnL12 l Z a0 hw [] h102 n0 O105) hZ (wq hw 63 rfl) (wq hw 56 rfl) (by decide) (by decide)) (g := (mkF m 25 #[vR d1, vI (2 : Int32), vR b102] [(.int (2 : Int32)), (.int (1 : Int32)), (.int (0 : Int32)), (.ref b102), (.int (0 : Int32)), (.ref d1)])) rfl (by rw [hml]; rfl) (argsL := [(.int (1 : Int32)), (.int (2 : Int32))]) (rest := [(.int (0 : Int32)), (.ref b102), (.int (0 : Int32)), (.ref d1)]) (lenOf pd_1 rfl) rfl (by show 2 * 0 + _ ≤ _; exact Nat.le_of_eq rfl) (hb hby dc8_25) (fun _ _ => ⟨rfl, e102, (by decide : 1 + 0 ≤ _), (by decide : 2 + 0 ≤ _)⟩)
  dsimp only [Pt.U, Pt.locs, Pt.cells, Pt.slots] at X106 l106 y106 z106 st106 hQ106
  subst l106 y106 z106
  obtain ⟨rfl, N106q, hh106⟩ := hQ106
  have N106 := Fr.app N0 N106q
  obtain ⟨T107, h107, L107, X107, e107, N107, K107, V107_, st107⟩ := cpA X106 hx hZ hown (wq hw 64 rfl) (wq hw 53 rfl) (wq hw 51 rfl) (wq hw 52 rfl) hh106 f103 V102 (Or.inl ⟨rfl, rfl⟩) (by decide) (by decide) (by decide) (by decide) (by decide) rfl (Nat.le_trans (by decide) (by decide : (2 : Int32).toNatClampNeg ≤ 2)) N106 gb102 (g := (mkF m 28 #[vR d1, vI (2 : Int32), vR b102] [(.int (1 : Int32)), (.int (0 : Int32)), (.ref b102), (.int (0 : Int32)), (.ref d1)])) rfl (by rw [hml]; rfl) rfl (hb hby dc8_28) (by decide) (W := 0) (by show 2 * 0 + _ ≤ _; exact Nat.le_of_eq rfl) (by decide)
  have V107 : Arv Z h107 b102 k102 .int (2 : Int32) [(.int x0), (.int (0 : Int32))] (.int (0 : Int32)) := V107_
  obtain ⟨fs, hr, hrun, hended, hW, hsame⟩ := X107.leave (v := some (.ref b102)) (fun h => by rw [Bd.returns] at h; cases h)
  have K108 : Keep h0 h107 [] := (Keep.trans (Keep.ext (Keep.refl h0 []) E102) K107 (allS (P := fun x => x ∈ [] ∨ h0.size ≤ x) (Or.inr sz102) all0))
  refine ⟨_, _, pre0 _ ?_, hrun, hended, _, _, rfl, ?_, ⟨_, rfl⟩, hW, hsame.mono (by decide) (by decide)⟩
  · skip
    show Steps p.tables e below (s₁.setTop (mkF m 0 #[vR d1, vI (2 : Int32), .unset] [])) _
    refine XS.iloadN X0.here hx rfl (hb hby dc8_0) rfl ?_
    refine XS.aloadN X0.here hx rfl (hb hby dc8_1) rfl rfl ?_
    refine X0.arraylength hx (by rw [e0]; exact Ar101.1) (State.isArrayOf_alike hZ.alike Ar101.2.1) (g := (mkF m 2 #[vR d1, vI (2 : Int32), .unset] [(.ref d1), (.int (2 : Int32))])) rfl rfl (hb hby dc8_2) _ ?_
    rw [len_of S101 N101_]
    refine XS.icmpYes X0.here hx rfl (pc0 := 3) (pc' := 14) rfl (hb hby dc8_3) rfl (by decide) (by decide) (by decide) ?_
    refine XS.iloadN X0.here hx rfl (hb hby dc8_14) rfl ?_
    show Steps p.tables e below (s₁.setTop (mkF m 15 #[vR d1, vI (2 : Int32), .unset] [(.int (2 : Int32))])) _
    refine st102 _ ?_
    refine XS.astoreN X102.here hx rfl (hb hby dc8_17) rfl rfl (l' := #[vR d1, vI (2 : Int32), vR b102]) rfl ?_
    refine XS.aloadN X102.here hx rfl (hb hby dc8_18) rfl rfl ?_
    refine XS.iconst X102.here hx rfl (hb hby dc8_19) ?_
    refine XS.aloadN X102.here hx rfl (hb hby dc8_20) rfl rfl ?_
    refine XS.iconst X102.here hx rfl (hb hby dc8_21) ?_
    refine XS.aloadN X102.here hx rfl (hb hby dc8_22) rfl rfl ?_
    refine X102.arraylength hx (by rw [e102]; exact Ar104.1) (State.isArrayOf_alike hZ.alike Ar104.2.1) (g := (mkF m 23 #[vR d1, vI (2 : Int32), vR b102] [(.ref d1), (.int (0 : Int32)), (.ref b102), (.int (0 : Int32)), (.ref d1)])) rfl rfl (hb hby dc8_23) _ ?_
    rw [len_of S104 N104_]
    refine XS.iloadN X102.here hx rfl (hb hby dc8_24) rfl ?_
    refine st106 _ ?_
    refine st107 _ ?_
    refine XS.aloadN X107.here hx rfl (hb hby dc8_31) rfl rfl ?_
    show Steps p.tables e below (T107.setTop (mkF m 32 #[vR d1, vI (2 : Int32), vR b102] [(.ref b102)])) _
    exact retOut X107 hx (t := (.array .int)) Bd.returns rfl (Or.inr (Or.inr (Or.inr (Or.inr ⟨rfl, rfl, rfl⟩)))) (hb hby dc8_32) hr
  · show Q_Ci12 Z x0 h0 n0 _ T107.heap _
    rw [e107]
    exact ⟨_, _, rfl, N107, gb102, sz102, K108, V107⟩
def Q_Ci24 (Z : State) (x0 x1 : Int32) (h0 : Heap) (n0 : Nat) (v : Option Value) (h : Heap) (L : List Loc) : Prop := ∃ (d2 : Addr) (k2 : ClassId), v = some (.ref d2) ∧ Fr n0 L ∧ n0 ≤ d2 ∧ h0.size ≤ d2 ∧ Keep h0 h [] ∧ Arv Z h d2 k2 .int (4 : Int32) [(.int x0), (.int x1), (.int (0 : Int32)), (.int (0 : Int32))] (.int (0 : Int32))
theorem rmCi24 (l : Launch) (Z : State) (a0 : Array Value) (hw : HwT a0 Z) (ws : List Jvm.Cond) (d1 : Addr) (kd : ClassId) (x0 x1 : Int32) (h0 : Heap) (n0 : Nat) (O0 : Old Z n0 h0) (Vd : Arv Z h0 d1 kd .int (2 : Int32) [(.int x0), (.int x1)] (.int (0 : Int32))) :
    Mt l Z y_8 jdk_65_method_123_code 3 (some (.array .int)) ws ({ frames := 1, cells := 1, slots := 4, locals := 18 } : Room) #[(.ref d1), (.int (4 : Int32))] h0 (Q_Ci24 Z x0 x1 h0 n0) := by
  refine MetFree.of_bodySF (plainFor_of_name pn_4) hisR ?_
  intro p e s m args below meth c s₁ Bd hml0 hP hK
  obtain ⟨rfl, hZ, hh⟩ := hP
  have hx := Bd.exec
  have hby := Bd.bytes
  have hml : c.maxLocals = 3 := hml0
  have hown : s.vm.findClass "java/util/Arrays" = some m.cls := findClass_of_methodNamed Bd.named
  have hnm := (name_of_methodNamed Bd.named Bd.method).1
  have X0 : Stand p l e ({ frames := 1, cells := 1, slots := 4, locals := 18 } : Room) s m #[(.ref d1), (.int (4 : Int32))] below meth c s₁ [] 0 0 := Stand.of_body Bd
  have e0 : s₁.heap = h0 := by rw [← hh, Bd.state]; rfl
  have N0 := Fr.nil n0
  have pre0 := fun t (k : Steps p.tables e below (s₁.setTop _) t) => castTop (ef_5 m d1 (4 : Int32)) k
  obtain ⟨cl101, Ar101, q101, S101, N101_, H101, G101⟩ := id Vd
  obtain ⟨T102, h102, k102, X102, e102, E102, A102, st102⟩ := newP X0 hx hZ (wq hw 9 rfl) e0 (g := (mkF m 15 #[vR d1, vI (4 : Int32), .unset] [(.int (4 : Int32))])) rfl (hb hby dc8_15) rfl (by decide) (cap := 4) (by decide) (by decide) (by decide) (by decide)
  obtain ⟨b102, g102⟩ : ∃ z, z = h0.size := ⟨_, rfl⟩
  rw [← g102] at A102 st102
  have gb102 : n0 ≤ b102 := by rw [g102, ← O0.1]; exact O0.2.1
  have ne102_d1 : d1 ≠ b102 := by rw [g102]; exact Nat.ne_of_lt (Vd).lt
  have sz102 : h0.size ≤ b102 := by rw [g102]; exact ((Keep.refl h0 [])).1
  have V102 : Arv Z h102 b102 k102 .int (4 : Int32) [(.int (0 : Int32)), (.int (0 : Int32)), (.int (0 : Int32)), (.int (0 : Int32))] (.int (0 : Int32)) := (Arv.new A102 (by decide)).pad (pad_rep [] (.int (0 : Int32)) 4)
  have f103 := (Vd.ext E102)
  obtain ⟨cl104, Ar104, q104, S104, N104_, H104, G104⟩ := id f103
  have O105 : Old Z n0 h102 := (O0.ext E102)
  obtain ⟨_, _, ⟨T106, L106, k106, n106⟩, -, X106, ⟨Lc106, hQ106, l106, y106, z106⟩, st106⟩ := Jvm.LawKit.callS X102 hx (y := y_1) hown (mvT hZ (wq hw 61 rfl)) (mvT hZ (wq hw 62 rfl)) (mvT hZ (wq hw 56 rfl)) (mvT hZ (wq hw 63 rfl)) (by decide) (backOf (W := 4) (rmMnL24 l Z a0 hw [] h102 n0 O105) hZ (wq hw 63 rfl) (wq hw 56 rfl) (by decide) (by decide)) (g := (mkF m 25 #[vR d1, vI (4 : Int32), vR b102] [(.int (4 : Int32)), (.int (2 : Int32)), (.int (0 : Int32)), (.ref b102), (.int (0 : Int32)), (.ref d1)])) rfl (by rw [hml]; rfl) (argsL := [(.int (2 : Int32)), (.int (4 : Int32))]) (rest := [(.int (0 : Int32)), (.ref b102), (.int (0 : Int32)), (.ref d1)]) (lenOf pd_1 rfl) rfl (by show 2 * 0 + _ ≤ _; exact Nat.le_of_eq rfl) (hb hby dc8_25) (fun _ _ => ⟨rfl, e102, (by decide : 1 + 0 ≤ _), (by decide : 4 + 0 ≤ _)⟩)
  dsimp only [Pt.U, Pt.locs, Pt.cells, Pt.slots] at X106 l106 y106 z106 st106 hQ106
  subst l106 y106 z106
  obtain ⟨rfl, N106q, hh106⟩ := hQ106
  have N106 := Fr.app N0 N106q
  obtain ⟨T107, h107, L107, X107, e107, N107, K107, V107_, st107⟩ := cpA X106 hx hZ hown (wq hw 64 rfl) (wq hw 53 rfl) (wq hw 51 rfl) (wq hw 52 rfl) hh106 f103 V102 (Or.inl ⟨rfl, rfl⟩) (by decide) (by decide) (by decide) (by decide) (by decide) rfl (Nat.le_trans (by decide) (by decide : (4 : Int32).toNatClampNeg ≤ 4)) N106 gb102 (g := (mkF m 28 #[vR d1, vI (4 : Int32), vR b102] [(.int (2 : Int32)), (.int (0 : Int32)), (.ref b102), (.int (0 : Int32)), (.ref d1)])) rfl (by rw [hml]; rfl) rfl (hb hby dc8_28) (by decide) (W := 0) (by show 2 * 0 + _ ≤ _; exact Nat.le_of_eq rfl) (by decide)
  have V107 : Arv Z h107 b102 k102 .int (4 : Int32) [(.int x0), (.int x1), (.int (0 : Int32)), (.int (0 : Int32))] (.int (0 : Int32)) := V107_
  obtain ⟨fs, hr, hrun, hended, hW, hsame⟩ := X107.leave (v := some (.ref b102)) (fun h => by rw [Bd.returns] at h; cases h)
  have K108 : Keep h0 h107 [] := (Keep.trans (Keep.ext (Keep.refl h0 []) E102) K107 (allS (P := fun x => x ∈ [] ∨ h0.size ≤ x) (Or.inr sz102) all0))
  refine ⟨_, _, pre0 _ ?_, hrun, hended, _, _, rfl, ?_, ⟨_, rfl⟩, hW, hsame.mono (by decide) (by decide)⟩
  · skip
    show Steps p.tables e below (s₁.setTop (mkF m 0 #[vR d1, vI (4 : Int32), .unset] [])) _
    refine XS.iloadN X0.here hx rfl (hb hby dc8_0) rfl ?_
    refine XS.aloadN X0.here hx rfl (hb hby dc8_1) rfl rfl ?_
    refine X0.arraylength hx (by rw [e0]; exact Ar101.1) (State.isArrayOf_alike hZ.alike Ar101.2.1) (g := (mkF m 2 #[vR d1, vI (4 : Int32), .unset] [(.ref d1), (.int (4 : Int32))])) rfl rfl (hb hby dc8_2) _ ?_
    rw [len_of S101 N101_]
    refine XS.icmpYes X0.here hx rfl (pc0 := 3) (pc' := 14) rfl (hb hby dc8_3) rfl (by decide) (by decide) (by decide) ?_
    refine XS.iloadN X0.here hx rfl (hb hby dc8_14) rfl ?_
    show Steps p.tables e below (s₁.setTop (mkF m 15 #[vR d1, vI (4 : Int32), .unset] [(.int (4 : Int32))])) _
    refine st102 _ ?_
    refine XS.astoreN X102.here hx rfl (hb hby dc8_17) rfl rfl (l' := #[vR d1, vI (4 : Int32), vR b102]) rfl ?_
    refine XS.aloadN X102.here hx rfl (hb hby dc8_18) rfl rfl ?_
    refine XS.iconst X102.here hx rfl (hb hby dc8_19) ?_
    refine XS.aloadN X102.here hx rfl (hb hby dc8_20) rfl rfl ?_
    refine XS.iconst X102.here hx rfl (hb hby dc8_21) ?_
    refine XS.aloadN X102.here hx rfl (hb hby dc8_22) rfl rfl ?_
    refine X102.arraylength hx (by rw [e102]; exact Ar104.1) (State.isArrayOf_alike hZ.alike Ar104.2.1) (g := (mkF m 23 #[vR d1, vI (4 : Int32), vR b102] [(.ref d1), (.int (0 : Int32)), (.ref b102), (.int (0 : Int32)), (.ref d1)])) rfl rfl (hb hby dc8_23) _ ?_
    rw [len_of S104 N104_]
    refine XS.iloadN X102.here hx rfl (hb hby dc8_24) rfl ?_
    refine st106 _ ?_
    refine st107 _ ?_
    refine XS.aloadN X107.here hx rfl (hb hby dc8_31) rfl rfl ?_
    show Steps p.tables e below (T107.setTop (mkF m 32 #[vR d1, vI (4 : Int32), vR b102] [(.ref b102)])) _
    exact retOut X107 hx (t := (.array .int)) Bd.returns rfl (Or.inr (Or.inr (Or.inr (Or.inr ⟨rfl, rfl, rfl⟩)))) (hb hby dc8_32) hr
  · show Q_Ci24 Z x0 x1 h0 n0 _ T107.heap _
    rw [e107]
    exact ⟨_, _, rfl, N107, gb102, sz102, K108, V107⟩
def Q_Ci42 (Z : State) (x0 x1 x2 x3 : Int32) (h0 : Heap) (n0 : Nat) (v : Option Value) (h : Heap) (L : List Loc) : Prop := ∃ (d2 : Addr) (k2 : ClassId), v = some (.ref d2) ∧ Fr n0 L ∧ n0 ≤ d2 ∧ h0.size ≤ d2 ∧ Keep h0 h [] ∧ Arv Z h d2 k2 .int (2 : Int32) [(.int x0), (.int x1)] (.int (0 : Int32))
theorem rmCi42 (l : Launch) (Z : State) (a0 : Array Value) (hw : HwT a0 Z) (ws : List Jvm.Cond) (d1 : Addr) (kd : ClassId) (x0 x1 x2 x3 : Int32) (h0 : Heap) (n0 : Nat) (O0 : Old Z n0 h0) (Vd : Arv Z h0 d1 kd .int (4 : Int32) [(.int x0), (.int x1), (.int x2), (.int x3)] (.int (0 : Int32))) :
    Mt l Z y_8 jdk_65_method_123_code 3 (some (.array .int)) ws ({ frames := 1, cells := 1, slots := 2, locals := 18 } : Room) #[(.ref d1), (.int (2 : Int32))] h0 (Q_Ci42 Z x0 x1 x2 x3 h0 n0) := by
  refine MetFree.of_bodySF (plainFor_of_name pn_4) hisR ?_
  intro p e s m args below meth c s₁ Bd hml0 hP hK
  obtain ⟨rfl, hZ, hh⟩ := hP
  have hx := Bd.exec
  have hby := Bd.bytes
  have hml : c.maxLocals = 3 := hml0
  have hown : s.vm.findClass "java/util/Arrays" = some m.cls := findClass_of_methodNamed Bd.named
  have hnm := (name_of_methodNamed Bd.named Bd.method).1
  have X0 : Stand p l e ({ frames := 1, cells := 1, slots := 2, locals := 18 } : Room) s m #[(.ref d1), (.int (2 : Int32))] below meth c s₁ [] 0 0 := Stand.of_body Bd
  have e0 : s₁.heap = h0 := by rw [← hh, Bd.state]; rfl
  have N0 := Fr.nil n0
  have pre0 := fun t (k : Steps p.tables e below (s₁.setTop _) t) => castTop (ef_5 m d1 (2 : Int32)) k
  obtain ⟨cl101, Ar101, q101, S101, N101_, H101, G101⟩ := id Vd
  obtain ⟨T102, h102, k102, X102, e102, E102, A102, st102⟩ := newP X0 hx hZ (wq hw 9 rfl) e0 (g := (mkF m 15 #[vR d1, vI (2 : Int32), .unset] [(.int (2 : Int32))])) rfl (hb hby dc8_15) rfl (by decide) (cap := 2) (by decide) (by decide) (by decide) (by decide)
  obtain ⟨b102, g102⟩ : ∃ z, z = h0.size := ⟨_, rfl⟩
  rw [← g102] at A102 st102
  have gb102 : n0 ≤ b102 := by rw [g102, ← O0.1]; exact O0.2.1
  have ne102_d1 : d1 ≠ b102 := by rw [g102]; exact Nat.ne_of_lt (Vd).lt
  have sz102 : h0.size ≤ b102 := by rw [g102]; exact ((Keep.refl h0 [])).1
  have V102 : Arv Z h102 b102 k102 .int (2 : Int32) [(.int (0 : Int32)), (.int (0 : Int32))] (.int (0 : Int32)) := (Arv.new A102 (by decide)).pad (pad_rep [] (.int (0 : Int32)) 2)
  have f103 := (Vd.ext E102)
  obtain ⟨cl104, Ar104, q104, S104, N104_, H104, G104⟩ := id f103
  have O105 : Old Z n0 h102 := (O0.ext E102)
  obtain ⟨_, _, ⟨T106, L106, k106, n106⟩, -, X106, ⟨Lc106, hQ106, l106, y106, z106⟩, st106⟩ := Jvm.LawKit.callS X102 hx (y := y_1) hown (mvT hZ (wq hw 61 rfl)) (mvT hZ (wq hw 62 rfl)) (mvT hZ (wq hw 56 rfl)) (mvT hZ (wq hw 63 rfl)) (by decide) (backOf (W := 4) (rmMnL42 l Z a0 hw [] h102 n0 O105) hZ (wq hw 63 rfl) (wq hw 56 rfl) (by decide) (by decide)) (g := (mkF m 25 #[vR d1, vI (2 : Int32), vR b102] [(.int (2 : Int32)), (.int (4 : Int32)), (.int (0 : Int32)), (.ref b102), (.int (0 : Int32)), (.ref d1)])) rfl (by rw [hml]; rfl) (argsL := [(.int (4 : Int32)), (.int (2 : Int32))]) (rest := [(.int (0 : Int32)), (.ref b102), (.int (0 : Int32)), (.ref d1)]) (lenOf pd_1 rfl) rfl (by show 2 * 0 + _ ≤ _; exact Nat.le_of_eq rfl) (hb hby dc8_25) (fun _ _ => ⟨rfl, e102, (by decide : 1 + 0 ≤ _), (by decide : 2 + 0 ≤ _)⟩)
  dsimp only [Pt.U, Pt.locs, Pt.cells, Pt.slots] at X106 l106 y106 z106 st106 hQ106
  subst l106 y106 z106
  obtain ⟨rfl, N106q, hh106⟩ := hQ106
  have N106 := Fr.app N0 N106q
  obtain ⟨T107, h107, L107, X107, e107, N107, K107, V107_, st107⟩ := cpA X106 hx hZ hown (wq hw 64 rfl) (wq hw 53 rfl) (wq hw 51 rfl) (wq hw 52 rfl) hh106 f103 V102 (Or.inl ⟨rfl, rfl⟩) (by decide) (by decide) (by decide) (by decide) (by decide) rfl (Nat.le_trans (by decide) (by decide : (2 : Int32).toNatClampNeg ≤ 2)) N106 gb102 (g := (mkF m 28 #[vR d1, vI (2 : Int32), vR b102] [(.int (2 : Int32)), (.int (0 : Int32)), (.ref b102), (.int (0 : Int32)), (.ref d1)])) rfl (by rw [hml]; rfl) rfl (hb hby dc8_28) (by decide) (W := 0) (by show 2 * 0 + _ ≤ _; exact Nat.le_of_eq rfl) (by decide)
  have V107 : Arv Z h107 b102 k102 .int (2 : Int32) [(.int x0), (.int x1)] (.int (0 : Int32)) := V107_
  obtain ⟨fs, hr, hrun, hended, hW, hsame⟩ := X107.leave (v := some (.ref b102)) (fun h => by rw [Bd.returns] at h; cases h)
  have K108 : Keep h0 h107 [] := (Keep.trans (Keep.ext (Keep.refl h0 []) E102) K107 (allS (P := fun x => x ∈ [] ∨ h0.size ≤ x) (Or.inr sz102) all0))
  refine ⟨_, _, pre0 _ ?_, hrun, hended, _, _, rfl, ?_, ⟨_, rfl⟩, hW, hsame.mono (by decide) (by decide)⟩
  · skip
    show Steps p.tables e below (s₁.setTop (mkF m 0 #[vR d1, vI (2 : Int32), .unset] [])) _
    refine XS.iloadN X0.here hx rfl (hb hby dc8_0) rfl ?_
    refine XS.aloadN X0.here hx rfl (hb hby dc8_1) rfl rfl ?_
    refine X0.arraylength hx (by rw [e0]; exact Ar101.1) (State.isArrayOf_alike hZ.alike Ar101.2.1) (g := (mkF m 2 #[vR d1, vI (2 : Int32), .unset] [(.ref d1), (.int (2 : Int32))])) rfl rfl (hb hby dc8_2) _ ?_
    rw [len_of S101 N101_]
    refine XS.icmpYes X0.here hx rfl (pc0 := 3) (pc' := 14) rfl (hb hby dc8_3) rfl (by decide) (by decide) (by decide) ?_
    refine XS.iloadN X0.here hx rfl (hb hby dc8_14) rfl ?_
    show Steps p.tables e below (s₁.setTop (mkF m 15 #[vR d1, vI (2 : Int32), .unset] [(.int (2 : Int32))])) _
    refine st102 _ ?_
    refine XS.astoreN X102.here hx rfl (hb hby dc8_17) rfl rfl (l' := #[vR d1, vI (2 : Int32), vR b102]) rfl ?_
    refine XS.aloadN X102.here hx rfl (hb hby dc8_18) rfl rfl ?_
    refine XS.iconst X102.here hx rfl (hb hby dc8_19) ?_
    refine XS.aloadN X102.here hx rfl (hb hby dc8_20) rfl rfl ?_
    refine XS.iconst X102.here hx rfl (hb hby dc8_21) ?_
    refine XS.aloadN X102.here hx rfl (hb hby dc8_22) rfl rfl ?_
    refine X102.arraylength hx (by rw [e102]; exact Ar104.1) (State.isArrayOf_alike hZ.alike Ar104.2.1) (g := (mkF m 23 #[vR d1, vI (2 : Int32), vR b102] [(.ref d1), (.int (0 : Int32)), (.ref b102), (.int (0 : Int32)), (.ref d1)])) rfl rfl (hb hby dc8_23) _ ?_
    rw [len_of S104 N104_]
    refine XS.iloadN X102.here hx rfl (hb hby dc8_24) rfl ?_
    refine st106 _ ?_
    refine st107 _ ?_
    refine XS.aloadN X107.here hx rfl (hb hby dc8_31) rfl rfl ?_
    show Steps p.tables e below (T107.setTop (mkF m 32 #[vR d1, vI (2 : Int32), vR b102] [(.ref b102)])) _
    exact retOut X107 hx (t := (.array .int)) Bd.returns rfl (Or.inr (Or.inr (Or.inr (Or.inr ⟨rfl, rfl, rfl⟩)))) (hb hby dc8_32) hr
  · show Q_Ci42 Z x0 x1 x2 x3 h0 n0 _ T107.heap _
    rw [e107]
    exact ⟨_, _, rfl, N107, gb102, sz102, K108, V107⟩
def Q_ec0 (Z : State) (c1 d1 : Addr) (m0 : Int64) (h0 : Heap) (n0 : Nat) (v : Option Value) (h : Heap) (L : List Loc) : Prop := ∃ (d2 : Addr) (k2 : ClassId), v = none ∧ Fr n0 L ∧ n0 ≤ d2 ∧ h0.size ≤ d2 ∧ Keep h0 h [c1] ∧ Exa Z h c1 sB ∧ Fld Z h c1 sB "words" "[J" (.ref d2) ∧ Fld Z h c1 sB "sizeIsSticky" "Z" (.int (0 : Int32)) ∧ Fld Z h c1 sB "wordsInUse" "I" (.int (0 : Int32)) ∧ Arv Z h d2 k2 .long (2 : Int32) [(.long m0), (.long (0 : Int64))] (.long (0 : Int64))
def Q_ec1 (Z : State) (c1 d1 : Addr) (m0 : Int64) (h0 : Heap) (n0 : Nat) (v : Option Value) (h : Heap) (L : List Loc) : Prop := ∃ (d2 : Addr) (k2 : ClassId), v = none ∧ Fr n0 L ∧ n0 ≤ d2 ∧ h0.size ≤ d2 ∧ Keep h0 h [c1] ∧ Exa Z h c1 sB ∧ Fld Z h c1 sB "words" "[J" (.ref d2) ∧ Fld Z h c1 sB "sizeIsSticky" "Z" (.int (0 : Int32)) ∧ Fld Z h c1 sB "wordsInUse" "I" (.int (1 : Int32)) ∧ Arv Z h d2 k2 .long (2 : Int32) [(.long m0), (.long (0 : Int64))] (.long (0 : Int64))
def Q_ex2 (Z : State) (c1 d1 : Addr) (m0 : Int64) (h0 : Heap) (n0 : Nat) (v : Option Value) (h : Heap) (L : List Loc) : Prop := ∃ (d2 : Addr) (k2 : ClassId), v = none ∧ Fr n0 L ∧ n0 ≤ d2 ∧ h0.size ≤ d2 ∧ Keep h0 h [c1] ∧ Exa Z h c1 sB ∧ Fld Z h c1 sB "words" "[J" (.ref d2) ∧ Fld Z h c1 sB "sizeIsSticky" "Z" (.int (0 : Int32)) ∧ Fld Z h c1 sB "wordsInUse" "I" (.int (2 : Int32)) ∧ Arv Z h d2 k2 .long (2 : Int32) [(.long m0), (.long (0 : Int64))] (.long (0 : Int64))
def Q_f1 (Z : State) (c1 d1 : Addr) (h0 : Heap) (n0 : Nat) (v : Option Value) (h : Heap) (L : List Loc) : Prop := v = none ∧ Fr n0 L ∧ Keep h0 h [c1] ∧ Exa Z h c1 sB ∧ Fld Z h c1 sB "words" "[J" (.ref d1) ∧ Fld Z h c1 sB "sizeIsSticky" "Z" (.int (0 : Int32)) ∧ Fld Z h c1 sB "wordsInUse" "I" (.int (1 : Int32))
def Q_f2 (Z : State) (c1 d1 : Addr) (h0 : Heap) (n0 : Nat) (v : Option Value) (h : Heap) (L : List Loc) : Prop := v = none ∧ Fr n0 L ∧ Keep h0 h [c1] ∧ Exa Z h c1 sB ∧ Fld Z h c1 sB "words" "[J" (.ref d1) ∧ Fld Z h c1 sB "sizeIsSticky" "Z" (.int (0 : Int32)) ∧ Fld Z h c1 sB "wordsInUse" "I" (.int (2 : Int32))
abbrev y_9 : MethodName := (⟨"java/util/BitSet", "ensureCapacity", "(I)V"⟩ : MethodName)
abbrev C9 := jdk_92_method_14_code
theorem dc9_0 : decode C9 0 = .ok (.aload_n 0, 1) := by decide +kernel
theorem dc9_1 : decode C9 1 = .ok (.getfield 11, 3) := by decide +kernel
theorem dc9_4 : decode C9 4 = .ok (.arraylength, 1) := by decide +kernel
theorem dc9_5 : decode C9 5 = .ok (.iload_n 1, 1) := by decide +kernel
theorem dc9_6 : decode C9 6 = .ok (.if_icmp .ge 32, 3) := by decide +kernel
theorem dc9_38 : decode C9 38 = .ok (.return_, 1) := by decide +kernel
theorem rmEcA1 (l : Launch) (Z : State) (a0 : Array Value) (hw : HwT a0 Z) (ws : List Jvm.Cond) (c1 d1 : Addr) (kd : ClassId) (m0 m1 : Int64) (h0 : Heap) (n0 : Nat) (O0 : Old Z n0 h0) (Ec : Exa Z h0 c1 sB) (Fw : Fld Z h0 c1 sB "words" "[J" (.ref d1)) (Fs : Fld Z h0 c1 sB "sizeIsSticky" "Z" (.int (0 : Int32))) (Fu : Fld Z h0 c1 sB "wordsInUse" "I" (.int (0 : Int32))) (Vd : Arv Z h0 d1 kd .long (1 : Int32) [(.long (0 : Int64))] (.long (0 : Int64))) (necd : c1 ≠ d1) (gc : n0 ≤ c1) (gd : n0 ≤ d1) :
    Mt l Z y_9 jdk_92_method_14_code 3 none ws ({ frames := 0, cells := 0, slots := 0, locals := 0 } : Room) #[(.ref c1), (.int (1 : Int32))] h0 (Q_n h0 n0) := by
  refine MetFree.of_bodySF (plainFor_of_name pn_1) hisR ?_
  intro p e s m args below meth c s₁ Bd hml0 hP hK
  obtain ⟨rfl, hZ, hh⟩ := hP
  have hx := Bd.exec
  have hby := Bd.bytes
  have hml : c.maxLocals = 3 := hml0
  have hown : s.vm.findClass sB = some m.cls := findClass_of_methodNamed Bd.named
  have hnm := (name_of_methodNamed Bd.named Bd.method).1
  have X0 : Stand p l e ({ frames := 0, cells := 0, slots := 0, locals := 0 } : Room) s m #[(.ref c1), (.int (1 : Int32))] below meth c s₁ [] 0 0 := Stand.of_body Bd
  have e0 : s₁.heap = h0 := by rw [← hh, Bd.state]; rfl
  have N0 := Fr.nil n0
  have pre0 := fun t (k : Steps p.tables e below (s₁.setTop _) t) => castTop (ef_5 m c1 (1 : Int32)) k
  obtain ⟨T101, X101, e101, st101⟩ := gG X0 hx hZ hown (wq hw 88 rfl) e0 Fw (g := (mkF m 1 #[vR c1, vI (1 : Int32), .unset] [(.ref c1)])) rfl rfl (hb hby dc9_1)
  obtain ⟨cl102, Ar102, q102, S102, N102_, H102, G102⟩ := id Vd
  obtain ⟨fs, hr, hrun, hended, hW, hsame⟩ := X101.leave (v := none) (fun _ => rfl)
  refine ⟨_, _, pre0 _ ?_, hrun, hended, _, _, rfl, ?_, ⟨_, rfl⟩, hW, hsame.mono (by decide) (by decide)⟩
  · skip
    show Steps p.tables e below (s₁.setTop (mkF m 0 #[vR c1, vI (1 : Int32), .unset] [])) _
    refine XS.aloadN X0.here hx rfl (hb hby dc9_0) rfl rfl ?_
    refine st101 _ ?_
    refine X101.arraylength hx (by rw [e101]; exact Ar102.1) (State.isArrayOf_alike hZ.alike Ar102.2.1) (g := (mkF m 4 #[vR c1, vI (1 : Int32), .unset] [(.ref d1)])) rfl rfl (hb hby dc9_4) _ ?_
    rw [len_of S102 N102_]
    refine XS.iloadN X101.here hx rfl (hb hby dc9_5) rfl ?_
    refine XS.icmpYes X101.here hx rfl (pc0 := 6) (pc' := 38) rfl (hb hby dc9_6) rfl (by decide) (by decide) (by decide) ?_
    show Steps p.tables e below (T101.setTop (mkF m 38 #[vR c1, vI (1 : Int32), .unset] [])) _
    exact X101.returnOut hx Bd.returns (hb hby dc9_38) hr
  · show Q_n h0 n0 _ T101.heap _
    rw [e101]
    exact ⟨rfl, N0, rfl⟩
theorem dc9_9 : decode C9 9 = .ok (.iconst 2, 1) := by decide +kernel
theorem dc9_10 : decode C9 10 = .ok (.aload_n 0, 1) := by decide +kernel
theorem dc9_11 : decode C9 11 = .ok (.getfield 11, 3) := by decide +kernel
theorem dc9_14 : decode C9 14 = .ok (.arraylength, 1) := by decide +kernel
theorem dc9_15 : decode C9 15 = .ok (.imul, 1) := by decide +kernel
theorem dc9_16 : decode C9 16 = .ok (.iload_n 1, 1) := by decide +kernel
theorem dc9_17 : decode C9 17 = .ok (.invokestatic 133, 3) := by decide +kernel
theorem dc9_20 : decode C9 20 = .ok (.istore_n 2, 1) := by decide +kernel
theorem dc9_21 : decode C9 21 = .ok (.aload_n 0, 1) := by decide +kernel
theorem dc9_22 : decode C9 22 = .ok (.aload_n 0, 1) := by decide +kernel
theorem dc9_23 : decode C9 23 = .ok (.getfield 11, 3) := by decide +kernel
theorem dc9_26 : decode C9 26 = .ok (.iload_n 2, 1) := by decide +kernel
theorem dc9_27 : decode C9 27 = .ok (.invokestatic 59, 3) := by decide +kernel
theorem pd_2 : parseMethodDescriptor "([JI)[J" = some ⟨[(.array .long), .int], some (.array .long)⟩ := by decide +kernel
theorem dc9_30 : decode C9 30 = .ok (.putfield 11, 3) := by decide +kernel
theorem dc9_33 : decode C9 33 = .ok (.aload_n 0, 1) := by decide +kernel
theorem dc9_34 : decode C9 34 = .ok (.iconst 0, 1) := by decide +kernel
theorem dc9_35 : decode C9 35 = .ok (.putfield 24, 3) := by decide +kernel
theorem rmEcA2 (l : Launch) (Z : State) (a0 : Array Value) (hw : HwT a0 Z) (ws : List Jvm.Cond) (c1 d1 : Addr) (kd : ClassId) (m0 m1 : Int64) (h0 : Heap) (n0 : Nat) (O0 : Old Z n0 h0) (Ec : Exa Z h0 c1 sB) (Fw : Fld Z h0 c1 sB "words" "[J" (.ref d1)) (Fs : Fld Z h0 c1 sB "sizeIsSticky" "Z" (.int (0 : Int32))) (Fu : Fld Z h0 c1 sB "wordsInUse" "I" (.int (0 : Int32))) (Vd : Arv Z h0 d1 kd .long (1 : Int32) [(.long (0 : Int64))] (.long (0 : Int64))) (necd : c1 ≠ d1) (gc : n0 ≤ c1) (gd : n0 ≤ d1) :
    Mt l Z y_9 jdk_92_method_14_code 3 none ws ({ frames := 2, cells := 1, slots := 2, locals := 33 } : Room) #[(.ref c1), (.int (2 : Int32))] h0 (Q_ec0 Z c1 d1 (0 : Int64) h0 n0) := by
  refine MetFree.of_bodySF (plainFor_of_name pn_1) hisR ?_
  intro p e s m args below meth c s₁ Bd hml0 hP hK
  obtain ⟨rfl, hZ, hh⟩ := hP
  have hx := Bd.exec
  have hby := Bd.bytes
  have hml : c.maxLocals = 3 := hml0
  have hown : s.vm.findClass sB = some m.cls := findClass_of_methodNamed Bd.named
  have hnm := (name_of_methodNamed Bd.named Bd.method).1
  have X0 : Stand p l e ({ frames := 2, cells := 1, slots := 2, locals := 33 } : Room) s m #[(.ref c1), (.int (2 : Int32))] below meth c s₁ [] 0 0 := Stand.of_body Bd
  have e0 : s₁.heap = h0 := by rw [← hh, Bd.state]; rfl
  have N0 := Fr.nil n0
  have pre0 := fun t (k : Steps p.tables e below (s₁.setTop _) t) => castTop (ef_5 m c1 (2 : Int32)) k
  obtain ⟨T101, X101, e101, st101⟩ := gG X0 hx hZ hown (wq hw 88 rfl) e0 Fw (g := (mkF m 1 #[vR c1, vI (2 : Int32), .unset] [(.ref c1)])) rfl rfl (hb hby dc9_1)
  obtain ⟨cl102, Ar102, q102, S102, N102_, H102, G102⟩ := id Vd
  obtain ⟨T103, X103, e103, st103⟩ := gG X101 hx hZ hown (wq hw 88 rfl) e101 Fw (g := (mkF m 11 #[vR c1, vI (2 : Int32), .unset] [(.ref c1), (.int (2 : Int32))])) rfl rfl (hb hby dc9_11)
  obtain ⟨cl104, Ar104, q104, S104, N104_, H104, G104⟩ := id Vd
  obtain ⟨_, _, ⟨T105, L105, k105, n105⟩, -, X105, ⟨Lc105, hQ105, l105, y105, z105⟩, st105⟩ := Jvm.LawKit.callS X103 hx (y := y_0) hown (mvT hZ (wq hw 123 rfl)) (mvT hZ (wq hw 55 rfl)) (mvT hZ (wq hw 56 rfl)) (mvT hZ (wq hw 57 rfl)) (by decide) (backOf (W := 0) (rmMxL22 l Z a0 hw [] h0 n0 O0) hZ (wq hw 57 rfl) (wq hw 56 rfl) (by decide) (by decide)) (g := (mkF m 17 #[vR c1, vI (2 : Int32), .unset] [(.int (2 : Int32)), (.int (2 : Int32))])) rfl (by rw [hml]; rfl) (argsL := [(.int (2 : Int32)), (.int (2 : Int32))]) (rest := []) (lenOf pd_1 rfl) rfl (by show 2 * 0 + _ ≤ _; exact Nat.le_of_eq rfl) (hb hby dc9_17) (fun _ _ => ⟨rfl, e103, (by decide : 0 + 0 ≤ _), (by decide : 0 + 0 ≤ _)⟩)
  dsimp only [Pt.U, Pt.locs, Pt.cells, Pt.slots] at X105 l105 y105 z105 st105 hQ105
  subst l105 y105 z105
  obtain ⟨rfl, N105q, hh105⟩ := hQ105
  have N105 := Fr.app N0 N105q
  obtain ⟨T106, X106, e106, st106⟩ := gG X105 hx hZ hown (wq hw 88 rfl) hh105 Fw (g := (mkF m 23 #[vR c1, vI (2 : Int32), vI (2 : Int32)] [(.ref c1), (.ref c1)])) rfl rfl (hb hby dc9_23)
  obtain ⟨_, _, ⟨T107, L107, k107, n107⟩, -, X107, ⟨Lc107, hQ107, l107, y107, z107⟩, st107⟩ := Jvm.LawKit.callS X106 hx (y := y_7) hown (mvT hZ (wq hw 124 rfl)) (mvT hZ (wq hw 125 rfl)) (mvT hZ (wq hw 37 rfl)) (mvT hZ (wq hw 126 rfl)) (by decide) (backOf (W := 1) (rmCj l Z a0 hw [] d1 kd (0 : Int64) h0 n0 O0 Vd) hZ (wq hw 126 rfl) (wq hw 37 rfl) (by decide) (by decide)) (g := (mkF m 27 #[vR c1, vI (2 : Int32), vI (2 : Int32)] [(.int (2 : Int32)), (.ref d1), (.ref c1)])) rfl (by rw [hml]; rfl) (argsL := [(.ref d1), (.int (2 : Int32))]) (rest := [(.ref c1)]) (lenOf pd_2 rfl) rfl (by show 2 * 0 + _ ≤ _; exact Nat.le_of_eq rfl) (hb hby dc9_27) (fun _ _ => ⟨rfl, e106, (by decide : 0 + 1 ≤ _), (by decide : 0 + 2 ≤ _)⟩)
  dsimp only [Pt.U, Pt.locs, Pt.cells, Pt.slots] at X107 l107 y107 z107 st107 hQ107
  subst l107 y107 z107
  obtain ⟨b107, kb107, rfl, N107q, gb107, sz107, K107, V107⟩ := hQ107
  have N107 := Fr.app N105 N107q
  have ne107_c1 : c1 ≠ b107 := Nat.ne_of_lt (Nat.lt_of_lt_of_le (Ec).lt sz107)
  have ne107_d1 : d1 ≠ b107 := Nat.ne_of_lt (Nat.lt_of_lt_of_le (Vd).lt sz107)
  have sz0107 : h0.size ≤ b107 := Nat.le_trans ((Keep.refl h0 [c1])).1 sz107
  have f108 := (Ec.keep K107)
  have f109 := (Fw.keep K107 nin0)
  obtain ⟨T110, h110, X110, e110, W110, st110⟩ := putF X107 hx hZ hown (host := "") (Or.inl (wq hw 88 rfl)) Via.refl rfl f109 f108 (Or.inl (wq hw 89 rfl)) (wq hw 70 rfl) (ty := (.array .long)) (by decide) rfl rfl (g := (mkF m 30 #[vR c1, vI (2 : Int32), vI (2 : Int32)] [(.ref b107), (.ref c1)])) rfl rfl (hb hby dc9_30)
  have Fw110 : Fld Z h110 c1 sB "words" "[J" (.ref b107) := Fld.same W110 f109
  have N110 := Fr.snoc X110 N107 gc
  have f111 := (f108.wr W110)
  have f112 := ((Fs.keep K107 nin0).other W110 (Or.inr (slot_ne (Or.inl (wq hw 79 rfl)) (Or.inl (wq hw 89 rfl)) (by decide) (t := .boolean) (t' := (.array .long)) (by decide) (by decide))))
  obtain ⟨T113, h113, X113, e113, W113, st113⟩ := putFN X110 hx hZ hown (wq hw 78 rfl) Via.refl e110 f112 f111 (Or.inl (wq hw 79 rfl)) (wq hw 70 rfl) (ty := .boolean) (v' := (.int (0 : Int32))) (by decide) rfl rfl (g := (mkF m 35 #[vR c1, vI (2 : Int32), vI (2 : Int32)] [(.int (0 : Int32)), (.ref c1)])) rfl rfl (hb hby dc9_35)
  have Fw113 : Fld Z h113 c1 sB "sizeIsSticky" "Z" (.int (0 : Int32)) := Fld.same W113 f112
  have N113 := Fr.snoc X113 N110 gc
  obtain ⟨fs, hr, hrun, hended, hW, hsame⟩ := X113.leave (v := none) (fun _ => rfl)
  have K114 : Keep h0 h113 [c1] := (Keep.wr (Keep.wr (Keep.trans (Keep.refl h0 [c1]) K107 all0) W110 (Or.inl (List.mem_of_getElem? (i := 0) rfl))) W113 (Or.inl (List.mem_of_getElem? (i := 0) rfl)))
  have f115 := (f111.wr W113)
  have f116 := (Fw110.other W113 (Or.inr (slot_ne (Or.inl (wq hw 89 rfl)) (Or.inl (wq hw 79 rfl)) (by decide) (t := (.array .long)) (t' := .boolean) (by decide) (by decide))))
  have f117 := (((Fu.keep K107 nin0).other W110 (Or.inr (slot_ne (Or.inl (wq hw 77 rfl)) (Or.inl (wq hw 89 rfl)) (by decide) (t := .int) (t' := (.array .long)) (by decide) (by decide)))).other W113 (Or.inr (slot_ne (Or.inl (wq hw 77 rfl)) (Or.inl (wq hw 79 rfl)) (by decide) (t := .int) (t' := .boolean) (by decide) (by decide))))
  have f118 := ((V107.other W110 (Ne.symm ne107_c1)).other W113 (Ne.symm ne107_c1))
  refine ⟨_, _, pre0 _ ?_, hrun, hended, _, _, rfl, ?_, ⟨_, rfl⟩, hW, hsame.mono (by decide) (by decide)⟩
  · skip
    show Steps p.tables e below (s₁.setTop (mkF m 0 #[vR c1, vI (2 : Int32), .unset] [])) _
    refine XS.aloadN X0.here hx rfl (hb hby dc9_0) rfl rfl ?_
    refine st101 _ ?_
    refine X101.arraylength hx (by rw [e101]; exact Ar102.1) (State.isArrayOf_alike hZ.alike Ar102.2.1) (g := (mkF m 4 #[vR c1, vI (2 : Int32), .unset] [(.ref d1)])) rfl rfl (hb hby dc9_4) _ ?_
    rw [len_of S102 N102_]
    refine XS.iloadN X101.here hx rfl (hb hby dc9_5) rfl ?_
    refine XS.icmpNo X101.here hx rfl (hb hby dc9_6) rfl (by decide) ?_
    refine XS.iconst X101.here hx rfl (hb hby dc9_9) ?_
    refine XS.aloadN X101.here hx rfl (hb hby dc9_10) rfl rfl ?_
    refine st103 _ ?_
    refine X103.arraylength hx (by rw [e103]; exact Ar104.1) (State.isArrayOf_alike hZ.alike Ar104.2.1) (g := (mkF m 14 #[vR c1, vI (2 : Int32), .unset] [(.ref d1), (.int (2 : Int32))])) rfl rfl (hb hby dc9_14) _ ?_
    rw [len_of S104 N104_]
    refine XS.imul X103.here hx rfl (hb hby dc9_15) rfl ?_
    refine XS.iloadN X103.here hx rfl (hb hby dc9_16) rfl ?_
    refine st105 _ ?_
    show Steps p.tables e below (T105.setTop (mkF m 20 #[vR c1, vI (2 : Int32), .unset] [(.int (2 : Int32))])) _
    refine XS.istoreN X105.here hx rfl (hb hby dc9_20) rfl (l' := #[vR c1, vI (2 : Int32), vI (2 : Int32)]) rfl ?_
    refine XS.aloadN X105.here hx rfl (hb hby dc9_21) rfl rfl ?_
    refine XS.aloadN X105.here hx rfl (hb hby dc9_22) rfl rfl ?_
    refine st106 _ ?_
    refine XS.iloadN X106.here hx rfl (hb hby dc9_26) rfl ?_
    refine st107 _ ?_
    refine st110 _ ?_
    refine XS.aloadN X110.here hx rfl (hb hby dc9_33) rfl rfl ?_
    refine XS.iconst X110.here hx rfl (hb hby dc9_34) ?_
    refine st113 _ ?_
    exact X113.returnOut hx Bd.returns (hb hby dc9_38) hr
  · show Q_ec0 Z c1 d1 (0 : Int64) h0 n0 _ T113.heap _
    rw [e113]
    exact ⟨_, _, rfl, N113, gb107, sz0107, K114, f115, f116, Fw113, f117, f118⟩
theorem rmEcB2 (l : Launch) (Z : State) (a0 : Array Value) (hw : HwT a0 Z) (ws : List Jvm.Cond) (c1 d1 : Addr) (kd : ClassId) (m0 m1 : Int64) (h0 : Heap) (n0 : Nat) (O0 : Old Z n0 h0) (Ec : Exa Z h0 c1 sB) (Fw : Fld Z h0 c1 sB "words" "[J" (.ref d1)) (Fs : Fld Z h0 c1 sB "sizeIsSticky" "Z" (.int (0 : Int32))) (Fu : Fld Z h0 c1 sB "wordsInUse" "I" (.int (1 : Int32))) (Vd : Arv Z h0 d1 kd .long (1 : Int32) [(.long m0)] (.long (0 : Int64))) (necd : c1 ≠ d1) (gc : n0 ≤ c1) (gd : n0 ≤ d1) :
    Mt l Z y_9 jdk_92_method_14_code 3 none ws ({ frames := 2, cells := 1, slots := 2, locals := 33 } : Room) #[(.ref c1), (.int (2 : Int32))] h0 (Q_ec1 Z c1 d1 m0 h0 n0) := by
  refine MetFree.of_bodySF (plainFor_of_name pn_1) hisR ?_
  intro p e s m args below meth c s₁ Bd hml0 hP hK
  obtain ⟨rfl, hZ, hh⟩ := hP
  have hx := Bd.exec
  have hby := Bd.bytes
  have hml : c.maxLocals = 3 := hml0
  have hown : s.vm.findClass sB = some m.cls := findClass_of_methodNamed Bd.named
  have hnm := (name_of_methodNamed Bd.named Bd.method).1
  have X0 : Stand p l e ({ frames := 2, cells := 1, slots := 2, locals := 33 } : Room) s m #[(.ref c1), (.int (2 : Int32))] below meth c s₁ [] 0 0 := Stand.of_body Bd
  have e0 : s₁.heap = h0 := by rw [← hh, Bd.state]; rfl
  have N0 := Fr.nil n0
  have pre0 := fun t (k : Steps p.tables e below (s₁.setTop _) t) => castTop (ef_5 m c1 (2 : Int32)) k
  obtain ⟨T101, X101, e101, st101⟩ := gG X0 hx hZ hown (wq hw 88 rfl) e0 Fw (g := (mkF m 1 #[vR c1, vI (2 : Int32), .unset] [(.ref c1)])) rfl rfl (hb hby dc9_1)
  obtain ⟨cl102, Ar102, q102, S102, N102_, H102, G102⟩ := id Vd
  obtain ⟨T103, X103, e103, st103⟩ := gG X101 hx hZ hown (wq hw 88 rfl) e101 Fw (g := (mkF m 11 #[vR c1, vI (2 : Int32), .unset] [(.ref c1), (.int (2 : Int32))])) rfl rfl (hb hby dc9_11)
  obtain ⟨cl104, Ar104, q104, S104, N104_, H104, G104⟩ := id Vd
  obtain ⟨_, _, ⟨T105, L105, k105, n105⟩, -, X105, ⟨Lc105, hQ105, l105, y105, z105⟩, st105⟩ := Jvm.LawKit.callS X103 hx (y := y_0) hown (mvT hZ (wq hw 123 rfl)) (mvT hZ (wq hw 55 rfl)) (mvT hZ (wq hw 56 rfl)) (mvT hZ (wq hw 57 rfl)) (by decide) (backOf (W := 0) (rmMxL22 l Z a0 hw [] h0 n0 O0) hZ (wq hw 57 rfl) (wq hw 56 rfl) (by decide) (by decide)) (g := (mkF m 17 #[vR c1, vI (2 : Int32), .unset] [(.int (2 : Int32)), (.int (2 : Int32))])) rfl (by rw [hml]; rfl) (argsL := [(.int (2 : Int32)), (.int (2 : Int32))]) (rest := []) (lenOf pd_1 rfl) rfl (by show 2 * 0 + _ ≤ _; exact Nat.le_of_eq rfl) (hb hby dc9_17) (fun _ _ => ⟨rfl, e103, (by decide : 0 + 0 ≤ _), (by decide : 0 + 0 ≤ _)⟩)
  dsimp only [Pt.U, Pt.locs, Pt.cells, Pt.slots] at X105 l105 y105 z105 st105 hQ105
  subst l105 y105 z105
  obtain ⟨rfl, N105q, hh105⟩ := hQ105
  have N105 := Fr.app N0 N105q
  obtain ⟨T106, X106, e106, st106⟩ := gG X105 hx hZ hown (wq hw 88 rfl) hh105 Fw (g := (mkF m 23 #[vR c1, vI (2 : Int32), vI (2 : Int32)] [(.ref c1), (.ref c1)])) rfl rfl (hb hby dc9_23)
  obtain ⟨_, _, ⟨T107, L107, k107, n107⟩, -, X107, ⟨Lc107, hQ107, l107, y107, z107⟩, st107⟩ := Jvm.LawKit.callS X106 hx (y := y_7) hown (mvT hZ (wq hw 124 rfl)) (mvT hZ (wq hw 125 rfl)) (mvT hZ (wq hw 37 rfl)) (mvT hZ (wq hw 126 rfl)) (by decide) (backOf (W := 1) (rmCj l Z a0 hw [] d1 kd m0 h0 n0 O0 Vd) hZ (wq hw 126 rfl) (wq hw 37 rfl) (by decide) (by decide)) (g := (mkF m 27 #[vR c1, vI (2 : Int32), vI (2 : Int32)] [(.int (2 : Int32)), (.ref d1), (.ref c1)])) rfl (by rw [hml]; rfl) (argsL := [(.ref d1), (.int (2 : Int32))]) (rest := [(.ref c1)]) (lenOf pd_2 rfl) rfl (by show 2 * 0 + _ ≤ _; exact Nat.le_of_eq rfl) (hb hby dc9_27) (fun _ _ => ⟨rfl, e106, (by decide : 0 + 1 ≤ _), (by decide : 0 + 2 ≤ _)⟩)
  dsimp only [Pt.U, Pt.locs, Pt.cells, Pt.slots] at X107 l107 y107 z107 st107 hQ107
  subst l107 y107 z107
  obtain ⟨b107, kb107, rfl, N107q, gb107, sz107, K107, V107⟩ := hQ107
  have N107 := Fr.app N105 N107q
  have ne107_c1 : c1 ≠ b107 := Nat.ne_of_lt (Nat.lt_of_lt_of_le (Ec).lt sz107)
  have ne107_d1 : d1 ≠ b107 := Nat.ne_of_lt (Nat.lt_of_lt_of_le (Vd).lt sz107)
  have sz0107 : h0.size ≤ b107 := Nat.le_trans ((Keep.refl h0 [c1])).1 sz107
  have f108 := (Ec.keep K107)
  have f109 := (Fw.keep K107 nin0)
  obtain ⟨T110, h110, X110, e110, W110, st110⟩ := putF X107 hx hZ hown (host := "") (Or.inl (wq hw 88 rfl)) Via.refl rfl f109 f108 (Or.inl (wq hw 89 rfl)) (wq hw 70 rfl) (ty := (.array .long)) (by decide) rfl rfl (g := (mkF m 30 #[vR c1, vI (2 : Int32), vI (2 : Int32)] [(.ref b107), (.ref c1)])) rfl rfl (hb hby dc9_30)
  have Fw110 : Fld Z h110 c1 sB "words" "[J" (.ref b107) := Fld.same W110 f109
  have N110 := Fr.snoc X110 N107 gc
  have f111 := (f108.wr W110)
  have f112 := ((Fs.keep K107 nin0).other W110 (Or.inr (slot_ne (Or.inl (wq hw 79 rfl)) (Or.inl (wq hw 89 rfl)) (by decide) (t := .boolean) (t' := (.array .long)) (by decide) (by decide))))
  obtain ⟨T113, h113, X113, e113, W113, st113⟩ := putFN X110 hx hZ hown (wq hw 78 rfl) Via.refl e110 f112 f111 (Or.inl (wq hw 79 rfl)) (wq hw 70 rfl) (ty := .boolean) (v' := (.int (0 : Int32))) (by decide) rfl rfl (g := (mkF m 35 #[vR c1, vI (2 : Int32), vI (2 : Int32)] [(.int (0 : Int32)), (.ref c1)])) rfl rfl (hb hby dc9_35)
  have Fw113 : Fld Z h113 c1 sB "sizeIsSticky" "Z" (.int (0 : Int32)) := Fld.same W113 f112
  have N113 := Fr.snoc X113 N110 gc
  obtain ⟨fs, hr, hrun, hended, hW, hsame⟩ := X113.leave (v := none) (fun _ => rfl)
  have K114 : Keep h0 h113 [c1] := (Keep.wr (Keep.wr (Keep.trans (Keep.refl h0 [c1]) K107 all0) W110 (Or.inl (List.mem_of_getElem? (i := 0) rfl))) W113 (Or.inl (List.mem_of_getElem? (i := 0) rfl)))
  have f115 := (f111.wr W113)
  have f116 := (Fw110.other W113 (Or.inr (slot_ne (Or.inl (wq hw 89 rfl)) (Or.inl (wq hw 79 rfl)) (by decide) (t := (.array .long)) (t' := .boolean) (by decide) (by decide))))
  have f117 := (((Fu.keep K107 nin0).other W110 (Or.inr (slot_ne (Or.inl (wq hw 77 rfl)) (Or.inl (wq hw 89 rfl)) (by decide) (t := .int) (t' := (.array .long)) (by decide) (by decide)))).other W113 (Or.inr (slot_ne (Or.inl (wq hw 77 rfl)) (Or.inl (wq hw 79 rfl)) (by decide) (t := .int) (t' := .boolean) (by decide) (by decide))))
  have f118 := ((V107.other W110 (Ne.symm ne107_c1)).other W113 (Ne.symm ne107_c1))
  refine ⟨_, _, pre0 _ ?_, hrun, hended, _, _, rfl, ?_, ⟨_, rfl⟩, hW, hsame.mono (by decide) (by decide)⟩
  · skip
    show Steps p.tables e below (s₁.setTop (mkF m 0 #[vR c1, vI (2 : Int32), .unset] [])) _
    refine XS.aloadN X0.here hx rfl (hb hby dc9_0) rfl rfl ?_
    refine st101 _ ?_
    refine X101.arraylength hx (by rw [e101]; exact Ar102.1) (State.isArrayOf_alike hZ.alike Ar102.2.1) (g := (mkF m 4 #[vR c1, vI (2 : Int32), .unset] [(.ref d1)])) rfl rfl (hb hby dc9_4) _ ?_
    rw [len_of S102 N102_]
    refine XS.iloadN X101.here hx rfl (hb hby dc9_5) rfl ?_
    refine XS.icmpNo X101.here hx rfl (hb hby dc9_6) rfl (by decide) ?_
    refine XS.iconst X101.here hx rfl (hb hby dc9_9) ?_
    refine XS.aloadN X101.here hx rfl (hb hby dc9_10) rfl rfl ?_
    refine st103 _ ?_
    refine X103.arraylength hx (by rw [e103]; exact Ar104.1) (State.isArrayOf_alike hZ.alike Ar104.2.1) (g := (mkF m 14 #[vR c1, vI (2 : Int32), .unset] [(.ref d1), (.int (2 : Int32))])) rfl rfl (hb hby dc9_14) _ ?_
    rw [len_of S104 N104_]
    refine XS.imul X103.here hx rfl (hb hby dc9_15) rfl ?_
    refine XS.iloadN X103.here hx rfl (hb hby dc9_16) rfl ?_
    refine st105 _ ?_
    show Steps p.tables e below (T105.setTop (mkF m 20 #[vR c1, vI (2 : Int32), .unset] [(.int (2 : Int32))])) _
    refine XS.istoreN X105.here hx rfl (hb hby dc9_20) rfl (l' := #[vR c1, vI (2 : Int32), vI (2 : Int32)]) rfl ?_
    refine XS.aloadN X105.here hx rfl (hb hby dc9_21) rfl rfl ?_
    refine XS.aloadN X105.here hx rfl (hb hby dc9_22) rfl rfl ?_
    refine st106 _ ?_
    refine XS.iloadN X106.here hx rfl (hb hby dc9_26) rfl ?_
    refine st107 _ ?_
    refine st110 _ ?_
    refine XS.aloadN X110.here hx rfl (hb hby dc9_33) rfl rfl ?_
    refine XS.iconst X110.here hx rfl (hb hby dc9_34) ?_
    refine st113 _ ?_
    exact X113.returnOut hx Bd.returns (hb hby dc9_38) hr
  · show Q_ec1 Z c1 d1 m0 h0 n0 _ T113.heap _
    rw [e113]
    exact ⟨_, _, rfl, N113, gb107, sz0107, K114, f115, f116, Fw113, f117, f118⟩
abbrev y_10 : MethodName := (⟨"java/util/BitSet", "expandTo", "(I)V"⟩ : MethodName)
abbrev C10 := jdk_92_method_15_code
theorem dc10_0 : decode C10 0 = .ok (.iload_n 1, 1) := by decide +kernel
theorem dc10_1 : decode C10 1 = .ok (.iconst 1, 1) := by decide +kernel
theorem dc10_2 : decode C10 2 = .ok (.iadd, 1) := by decide +kernel
theorem dc10_3 : decode C10 3 = .ok (.istore_n 2, 1) := by decide +kernel
theorem dc10_4 : decode C10 4 = .ok (.aload_n 0, 1) := by decide +kernel
theorem dc10_5 : decode C10 5 = .ok (.getfield 7, 3) := by decide +kernel
theorem dc10_8 : decode C10 8 = .ok (.iload_n 2, 1) := by decide +kernel
theorem dc10_9 : decode C10 9 = .ok (.if_icmp .ge 13, 3) := by decide +kernel
theorem dc10_12 : decode C10 12 = .ok (.aload_n 0, 1) := by decide +kernel
theorem dc10_13 : decode C10 13 = .ok (.iload_n 2, 1) := by decide +kernel
theorem dc10_14 : decode C10 14 = .ok (.invokevirtual 139, 3) := by decide +kernel
theorem pd_3 : parseMethodDescriptor "(I)V" = some ⟨[.int], none⟩ := by decide +kernel
theorem dc10_17 : decode C10 17 = .ok (.aload_n 0, 1) := by decide +kernel
theorem dc10_18 : decode C10 18 = .ok (.iload_n 2, 1) := by decide +kernel
theorem dc10_19 : decode C10 19 = .ok (.putfield 7, 3) := by decide +kernel
theorem dc10_22 : decode C10 22 = .ok (.return_, 1) := by decide +kernel
theorem rmExA0 (l : Launch) (Z : State) (a0 : Array Value) (hw : HwT a0 Z) (ws : List Jvm.Cond) (c1 d1 : Addr) (kd : ClassId) (m0 m1 : Int64) (h0 : Heap) (n0 : Nat) (O0 : Old Z n0 h0) (Ec : Exa Z h0 c1 sB) (Fw : Fld Z h0 c1 sB "words" "[J" (.ref d1)) (Fs : Fld Z h0 c1 sB "sizeIsSticky" "Z" (.int (0 : Int32))) (Fu : Fld Z h0 c1 sB "wordsInUse" "I" (.int (0 : Int32))) (Vd : Arv Z h0 d1 kd .long (1 : Int32) [(.long (0 : Int64))] (.long (0 : Int64))) (necd : c1 ≠ d1) (gc : n0 ≤ c1) (gd : n0 ≤ d1) :
    Mt l Z y_10 jdk_92_method_15_code 3 none ws ({ frames := 1, cells := 0, slots := 0, locals := 14 } : Room) #[(.ref c1), (.int (0 : Int32))] h0 (Q_f1 Z c1 d1 h0 n0) := by
  refine MetFree.of_bodySF (plainFor_of_name pn_1) hisR ?_
  intro p e s m args below meth c s₁ Bd hml0 hP hK
  obtain ⟨rfl, hZ, hh⟩ := hP
  have hx := Bd.exec
  have hby := Bd.bytes
  have hml : c.maxLocals = 3 := hml0
  have hown : s.vm.findClass sB = some m.cls := findClass_of_methodNamed Bd.named
  have hnm := (name_of_methodNamed Bd.named Bd.method).1
  have X0 : Stand p l e ({ frames := 1, cells := 0, slots := 0, locals := 14 } : Room) s m #[(.ref c1), (.int (0 : Int32))] below meth c s₁ [] 0 0 := Stand.of_body Bd
  have e0 : s₁.heap = h0 := by rw [← hh, Bd.state]; rfl
  have N0 := Fr.nil n0
  have pre0 := fun t (k : Steps p.tables e below (s₁.setTop _) t) => castTop (ef_5 m c1 (0 : Int32)) k
  obtain ⟨T101, X101, e101, st101⟩ := gG X0 hx hZ hown (wq hw 76 rfl) e0 Fu (g := (mkF m 5 #[vR c1, vI (0 : Int32), vI (1 : Int32)] [(.ref c1)])) rfl rfl (hb hby dc10_5)
  obtain ⟨cq102, q102, q102'⟩ := Exa.cell Ec
  obtain ⟨_, _, ⟨T102, L102, k102, n102⟩, -, X102, ⟨Lc102, hQ102, l102, y102, z102⟩, st102⟩ := X101.privateBack hx (y := y_9) hown (mvT hZ (wq hw 100 rfl)) (mvT hZ (wq hw 101 rfl)) (mvT hZ (wq hw 103 rfl)) (Cond.privateMethod_at (mvP hZ (wq hw 102 rfl) (args := #[]))) (mvT hZ (wq hw 104 rfl)) (by decide) (backOf (W := 0) (rmEcA1 l Z a0 hw [] c1 d1 kd (0 : Int64) (0 : Int64) h0 n0 O0 Ec Fw Fs Fu Vd necd gc gd) hZ (wq hw 104 rfl) (wq hw 71 rfl) (by decide) (by decide)) (g := (mkF m 14 #[vR c1, vI (0 : Int32), vI (1 : Int32)] [(.int (1 : Int32)), (.ref c1)])) rfl (by rw [hml]; rfl) (Steps.refl _) (a := c1) (by rw [e101]; exact q102) q102' (argsL := [(.int (1 : Int32))]) (rest := []) (lenOf pd_3 rfl) rfl (by show 2 * 0 + _ ≤ _; exact Nat.le_of_eq rfl) (hb hby dc10_14) (fun _ _ => ⟨rfl, e101, (by decide : 0 + 0 ≤ _), (by decide : 0 + 0 ≤ _)⟩)
  dsimp only [Pt.U, Pt.locs, Pt.cells, Pt.slots] at X102 l102 y102 z102 st102 hQ102
  subst l102 y102 z102
  obtain ⟨rfl, N102q, hh102⟩ := hQ102
  have N102 := Fr.app N0 N102q
  obtain ⟨T103, h103, X103, e103, W103, st103⟩ := putF X102 hx hZ hown (host := "") (Or.inl (wq hw 76 rfl)) Via.refl hh102 Fu Ec (Or.inl (wq hw 77 rfl)) (wq hw 70 rfl) (ty := .int) (by decide) rfl rfl (g := (mkF m 19 #[vR c1, vI (0 : Int32), vI (1 : Int32)] [(.int (1 : Int32)), (.ref c1)])) rfl rfl (hb hby dc10_19)
  have Fw103 : Fld Z h103 c1 sB "wordsInUse" "I" (.int (1 : Int32)) := Fld.same W103 Fu
  have N103 := Fr.snoc X103 N102 gc
  obtain ⟨fs, hr, hrun, hended, hW, hsame⟩ := X103.leave (v := none) (fun _ => rfl)
  have K104 : Keep h0 h103 [c1] := (Keep.wr (Keep.refl h0 [c1]) W103 (Or.inl (List.mem_of_getElem? (i := 0) rfl)))
  have f105 := (Ec.wr W103)
  have f106 := (Fw.other W103 (Or.inr (slot_ne (Or.inl (wq hw 89 rfl)) (Or.inl (wq hw 77 rfl)) (by decide) (t := (.array .long)) (t' := .int) (by decide) (by decide))))
  have f107 := (Fs.other W103 (Or.inr (slot_ne (Or.inl (wq hw 79 rfl)) (Or.inl (wq hw 77 rfl)) (by decide) (t := .boolean) (t' := .int) (by decide) (by decide))))
  refine ⟨_, _, pre0 _ ?_, hrun, hended, _, _, rfl, ?_, ⟨_, rfl⟩, hW, hsame.mono (by decide) (by decide)⟩
  · skip
    show Steps p.tables e below (s₁.setTop (mkF m 0 #[vR c1, vI (0 : Int32), .unset] [])) _
    refine XS.iloadN X0.here hx rfl (hb hby dc10_0) rfl ?_
    refine XS.iconst X0.here hx rfl (hb hby dc10_1) ?_
    refine XS.iadd X0.here hx rfl (hb hby dc10_2) rfl ?_
    refine XS.istoreN X0.here hx rfl (hb hby dc10_3) rfl (l' := #[vR c1, vI (0 : Int32), vI (1 : Int32)]) rfl ?_
    refine XS.aloadN X0.here hx rfl (hb hby dc10_4) rfl rfl ?_
    refine st101 _ ?_
    refine XS.iloadN X101.here hx rfl (hb hby dc10_8) rfl ?_
    refine XS.icmpNo X101.here hx rfl (hb hby dc10_9) rfl (by decide) ?_
    show Steps p.tables e below (T101.setTop (mkF m 12 #[vR c1, vI (0 : Int32), vI (1 : Int32)] [])) _
    refine XS.aloadN X101.here hx rfl (hb hby dc10_12) rfl rfl ?_
    refine XS.iloadN X101.here hx rfl (hb hby dc10_13) rfl ?_
    refine st102.trans ?_
    refine XS.aloadN X102.here hx rfl (hb hby dc10_17) rfl rfl ?_
    refine XS.iloadN X102.here hx rfl (hb hby dc10_18) rfl ?_
    refine st103 _ ?_
    exact X103.returnOut hx Bd.returns (hb hby dc10_22) hr
  · show Q_f1 Z c1 d1 h0 n0 _ T103.heap _
    rw [e103]
    exact ⟨rfl, N103, K104, f105, f106, f107, Fw103⟩
theorem rmExA1 (l : Launch) (Z : State) (a0 : Array Value) (hw : HwT a0 Z) (ws : List Jvm.Cond) (c1 d1 : Addr) (kd : ClassId) (m0 m1 : Int64) (h0 : Heap) (n0 : Nat) (O0 : Old Z n0 h0) (Ec : Exa Z h0 c1 sB) (Fw : Fld Z h0 c1 sB "words" "[J" (.ref d1)) (Fs : Fld Z h0 c1 sB "sizeIsSticky" "Z" (.int (0 : Int32))) (Fu : Fld Z h0 c1 sB "wordsInUse" "I" (.int (0 : Int32))) (Vd : Arv Z h0 d1 kd .long (1 : Int32) [(.long (0 : Int64))] (.long (0 : Int64))) (necd : c1 ≠ d1) (gc : n0 ≤ c1) (gd : n0 ≤ d1) :
    Mt l Z y_10 jdk_92_method_15_code 3 none ws ({ frames := 3, cells := 1, slots := 2, locals := 47 } : Room) #[(.ref c1), (.int (1 : Int32))] h0 (Q_ex2 Z c1 d1 (0 : Int64) h0 n0) := by
  refine MetFree.of_bodySF (plainFor_of_name pn_1) hisR ?_
  intro p e s m args below meth c s₁ Bd hml0 hP hK
  obtain ⟨rfl, hZ, hh⟩ := hP
  have hx := Bd.exec
  have hby := Bd.bytes
  have hml : c.maxLocals = 3 := hml0
  have hown : s.vm.findClass sB = some m.cls := findClass_of_methodNamed Bd.named
  have hnm := (name_of_methodNamed Bd.named Bd.method).1
  have X0 : Stand p l e ({ frames := 3, cells := 1, slots := 2, locals := 47 } : Room) s m #[(.ref c1), (.int (1 : Int32))] below meth c s₁ [] 0 0 := Stand.of_body Bd
  have e0 : s₁.heap = h0 := by rw [← hh, Bd.state]; rfl
  have N0 := Fr.nil n0
  have pre0 := fun t (k : Steps p.tables e below (s₁.setTop _) t) => castTop (ef_5 m c1 (1 : Int32)) k
  obtain ⟨T101, X101, e101, st101⟩ := gG X0 hx hZ hown (wq hw 76 rfl) e0 Fu (g := (mkF m 5 #[vR c1, vI (1 : Int32), vI (2 : Int32)] [(.ref c1)])) rfl rfl (hb hby dc10_5)
  obtain ⟨cq102, q102, q102'⟩ := Exa.cell Ec
  obtain ⟨_, _, ⟨T102, L102, k102, n102⟩, -, X102, ⟨Lc102, hQ102, l102, y102, z102⟩, st102⟩ := X101.privateBack hx (y := y_9) hown (mvT hZ (wq hw 100 rfl)) (mvT hZ (wq hw 101 rfl)) (mvT hZ (wq hw 103 rfl)) (Cond.privateMethod_at (mvP hZ (wq hw 102 rfl) (args := #[]))) (mvT hZ (wq hw 104 rfl)) (by decide) (backOf (W := 0) (rmEcA2 l Z a0 hw [] c1 d1 kd (0 : Int64) (0 : Int64) h0 n0 O0 Ec Fw Fs Fu Vd necd gc gd) hZ (wq hw 104 rfl) (wq hw 71 rfl) (by decide) (by decide)) (g := (mkF m 14 #[vR c1, vI (1 : Int32), vI (2 : Int32)] [(.int (2 : Int32)), (.ref c1)])) rfl (by rw [hml]; rfl) (Steps.refl _) (a := c1) (by rw [e101]; exact q102) q102' (argsL := [(.int (2 : Int32))]) (rest := []) (lenOf pd_3 rfl) rfl (by show 2 * 0 + _ ≤ _; exact Nat.le_of_eq rfl) (hb hby dc10_14) (fun _ _ => ⟨rfl, e101, (by decide : 0 + 1 ≤ _), (by decide : 0 + 2 ≤ _)⟩)
  dsimp only [Pt.U, Pt.locs, Pt.cells, Pt.slots] at X102 l102 y102 z102 st102 hQ102
  subst l102 y102 z102
  obtain ⟨b102, kb102, rfl, N102q, gb102, sz102, K102, Ec102, Fw102, Fs102, Fu102, V102⟩ := hQ102
  have N102 := Fr.app N0 N102q
  have ne102_c1 : c1 ≠ b102 := Nat.ne_of_lt (Nat.lt_of_lt_of_le (Ec).lt sz102)
  have ne102_d1 : d1 ≠ b102 := Nat.ne_of_lt (Nat.lt_of_lt_of_le (Vd).lt sz102)
  have sz0102 : h0.size ≤ b102 := Nat.le_trans ((Keep.refl h0 [c1])).1 sz102
  obtain ⟨T103, h103, X103, e103, W103, st103⟩ := putF X102 hx hZ hown (host := "") (Or.inl (wq hw 76 rfl)) Via.refl rfl Fu102 Ec102 (Or.inl (wq hw 77 rfl)) (wq hw 70 rfl) (ty := .int) (by decide) rfl rfl (g := (mkF m 19 #[vR c1, vI (1 : Int32), vI (2 : Int32)] [(.int (2 : Int32)), (.ref c1)])) rfl rfl (hb hby dc10_19)
  have Fw103 : Fld Z h103 c1 sB "wordsInUse" "I" (.int (2 : Int32)) := Fld.same W103 Fu102
  have N103 := Fr.snoc X103 N102 gc
  obtain ⟨fs, hr, hrun, hended, hW, hsame⟩ := X103.leave (v := none) (fun _ => rfl)
  have K104 : Keep h0 h103 [c1] := (Keep.wr (Keep.trans (Keep.refl h0 [c1]) K102 (allS (P := fun x => x ∈ [c1] ∨ h0.size ≤ x) (Or.inl (List.mem_of_getElem? (i := 0) rfl)) all0)) W103 (Or.inl (List.mem_of_getElem? (i := 0) rfl)))
  have f105 := (Ec102.wr W103)
  have f106 := (Fw102.other W103 (Or.inr (slot_ne (Or.inl (wq hw 89 rfl)) (Or.inl (wq hw 77 rfl)) (by decide) (t := (.array .long)) (t' := .int) (by decide) (by decide))))
  have f107 := (Fs102.other W103 (Or.inr (slot_ne (Or.inl (wq hw 79 rfl)) (Or.inl (wq hw 77 rfl)) (by decide) (t := .boolean) (t' := .int) (by decide) (by decide))))
  have f108 := (V102.other W103 (Ne.symm ne102_c1))
  refine ⟨_, _, pre0 _ ?_, hrun, hended, _, _, rfl, ?_, ⟨_, rfl⟩, hW, hsame.mono (by decide) (by decide)⟩
  · skip
    show Steps p.tables e below (s₁.setTop (mkF m 0 #[vR c1, vI (1 : Int32), .unset] [])) _
    refine XS.iloadN X0.here hx rfl (hb hby dc10_0) rfl ?_
    refine XS.iconst X0.here hx rfl (hb hby dc10_1) ?_
    refine XS.iadd X0.here hx rfl (hb hby dc10_2) rfl ?_
    refine XS.istoreN X0.here hx rfl (hb hby dc10_3) rfl (l' := #[vR c1, vI (1 : Int32), vI (2 : Int32)]) rfl ?_
    refine XS.aloadN X0.here hx rfl (hb hby dc10_4) rfl rfl ?_
    refine st101 _ ?_
    refine XS.iloadN X101.here hx rfl (hb hby dc10_8) rfl ?_
    refine XS.icmpNo X101.here hx rfl (hb hby dc10_9) rfl (by decide) ?_
    show Steps p.tables e below (T101.setTop (mkF m 12 #[vR c1, vI (1 : Int32), vI (2 : Int32)] [])) _
    refine XS.aloadN X101.here hx rfl (hb hby dc10_12) rfl rfl ?_
    refine XS.iloadN X101.here hx rfl (hb hby dc10_13) rfl ?_
    refine st102.trans ?_
    refine XS.aloadN X102.here hx rfl (hb hby dc10_17) rfl rfl ?_
    refine XS.iloadN X102.here hx rfl (hb hby dc10_18) rfl ?_
    refine st103 _ ?_
    exact X103.returnOut hx Bd.returns (hb hby dc10_22) hr
  · show Q_ex2 Z c1 d1 (0 : Int64) h0 n0 _ T103.heap _
    rw [e103]
    exact ⟨_, _, rfl, N103, gb102, sz0102, K104, f105, f106, f107, Fw103, f108⟩
theorem rmExB0 (l : Launch) (Z : State) (a0 : Array Value) (hw : HwT a0 Z) (ws : List Jvm.Cond) (c1 d1 : Addr) (kd : ClassId) (m0 m1 : Int64) (h0 : Heap) (n0 : Nat) (O0 : Old Z n0 h0) (Ec : Exa Z h0 c1 sB) (Fw : Fld Z h0 c1 sB "words" "[J" (.ref d1)) (Fs : Fld Z h0 c1 sB "sizeIsSticky" "Z" (.int (0 : Int32))) (Fu : Fld Z h0 c1 sB "wordsInUse" "I" (.int (1 : Int32))) (Vd : Arv Z h0 d1 kd .long (1 : Int32) [(.long m0)] (.long (0 : Int64))) (necd : c1 ≠ d1) (gc : n0 ≤ c1) (gd : n0 ≤ d1) :
    Mt l Z y_10 jdk_92_method_15_code 3 none ws ({ frames := 0, cells := 0, slots := 0, locals := 0 } : Room) #[(.ref c1), (.int (0 : Int32))] h0 (Q_n h0 n0) := by
  refine MetFree.of_bodySF (plainFor_of_name pn_1) hisR ?_
  intro p e s m args below meth c s₁ Bd hml0 hP hK
  obtain ⟨rfl, hZ, hh⟩ := hP
  have hx := Bd.exec
  have hby := Bd.bytes
  have hml : c.maxLocals = 3 := hml0
  have hown : s.vm.findClass sB = some m.cls := findClass_of_methodNamed Bd.named
  have hnm := (name_of_methodNamed Bd.named Bd.method).1
  have X0 : Stand p l e ({ frames := 0, cells := 0, slots := 0, locals := 0 } : Room) s m #[(.ref c1), (.int (0 : Int32))] below meth c s₁ [] 0 0 := Stand.of_body Bd
  have e0 : s₁.heap = h0 := by rw [← hh, Bd.state]; rfl
  have N0 := Fr.nil n0
  have pre0 := fun t (k : Steps p.tables e below (s₁.setTop _) t) => castTop (ef_5 m c1 (0 : Int32)) k
  obtain ⟨T101, X101, e101, st101⟩ := gG X0 hx hZ hown (wq hw 76 rfl) e0 Fu (g := (mkF m 5 #[vR c1, vI (0 : Int32), vI (1 : Int32)] [(.ref c1)])) rfl rfl (hb hby dc10_5)
  obtain ⟨fs, hr, hrun, hended, hW, hsame⟩ := X101.leave (v := none) (fun _ => rfl)
  refine ⟨_, _, pre0 _ ?_, hrun, hended, _, _, rfl, ?_, ⟨_, rfl⟩, hW, hsame.mono (by decide) (by decide)⟩
  · skip
    show Steps p.tables e below (s₁.setTop (mkF m 0 #[vR c1, vI (0 : Int32), .unset] [])) _
    refine XS.iloadN X0.here hx rfl (hb hby dc10_0) rfl ?_
    refine XS.iconst X0.here hx rfl (hb hby dc10_1) ?_
    show Steps p.tables e below (s₁.setTop (mkF m 2 #[vR c1, vI (0 : Int32), .unset] [(.int (1 : Int32)), (.int (0 : Int32))])) _
    refine XS.iadd X0.here hx rfl (hb hby dc10_2) rfl ?_
    refine XS.istoreN X0.here hx rfl (hb hby dc10_3) rfl (l' := #[vR c1, vI (0 : Int32), vI (1 : Int32)]) rfl ?_
    refine XS.aloadN X0.here hx rfl (hb hby dc10_4) rfl rfl ?_
    refine st101 _ ?_
    refine XS.iloadN X101.here hx rfl (hb hby dc10_8) rfl ?_
    refine XS.icmpYes X101.here hx rfl (pc0 := 9) (pc' := 22) rfl (hb hby dc10_9) rfl (by decide) (by decide) (by decide) ?_
    exact X101.returnOut hx Bd.returns (hb hby dc10_22) hr
  · show Q_n h0 n0 _ T101.heap _
    rw [e101]
    exact ⟨rfl, N0, rfl⟩
theorem rmExB1 (l : Launch) (Z : State) (a0 : Array Value) (hw : HwT a0 Z) (ws : List Jvm.Cond) (c1 d1 : Addr) (kd : ClassId) (m0 m1 : Int64) (h0 : Heap) (n0 : Nat) (O0 : Old Z n0 h0) (Ec : Exa Z h0 c1 sB) (Fw : Fld Z h0 c1 sB "words" "[J" (.ref d1)) (Fs : Fld Z h0 c1 sB "sizeIsSticky" "Z" (.int (0 : Int32))) (Fu : Fld Z h0 c1 sB "wordsInUse" "I" (.int (1 : Int32))) (Vd : Arv Z h0 d1 kd .long (1 : Int32) [(.long m0)] (.long (0 : Int64))) (necd : c1 ≠ d1) (gc : n0 ≤ c1) (gd : n0 ≤ d1) :
    Mt l Z y_10 jdk_92_method_15_code 3 none ws ({ frames := 3, cells := 1, slots := 2, locals := 47 } : Room) #[(.ref c1), (.int (1 : Int32))] h0 (Q_ex2 Z c1 d1 m0 h0 n0) := by
  refine MetFree.of_bodySF (plainFor_of_name pn_1) hisR ?_
  intro p e s m args below meth c s₁ Bd hml0 hP hK
  obtain ⟨rfl, hZ, hh⟩ := hP
  have hx := Bd.exec
  have hby := Bd.bytes
  have hml : c.maxLocals = 3 := hml0
  have hown : s.vm.findClass sB = some m.cls := findClass_of_methodNamed Bd.named
  have hnm := (name_of_methodNamed Bd.named Bd.method).1
  have X0 : Stand p l e ({ frames := 3, cells := 1, slots := 2, locals := 47 } : Room) s m #[(.ref c1), (.int (1 : Int32))] below meth c s₁ [] 0 0 := Stand.of_body Bd
  have e0 : s₁.heap = h0 := by rw [← hh, Bd.state]; rfl
  have N0 := Fr.nil n0
  have pre0 := fun t (k : Steps p.tables e below (s₁.setTop _) t) => castTop (ef_5 m c1 (1 : Int32)) k
  obtain ⟨T101, X101, e101, st101⟩ := gG X0 hx hZ hown (wq hw 76 rfl) e0 Fu (g := (mkF m 5 #[vR c1, vI (1 : Int32), vI (2 : Int32)] [(.ref c1)])) rfl rfl (hb hby dc10_5)
  obtain ⟨cq102, q102, q102'⟩ := Exa.cell Ec
  obtain ⟨_, _, ⟨T102, L102, k102, n102⟩, -, X102, ⟨Lc102, hQ102, l102, y102, z102⟩, st102⟩ := X101.privateBack hx (y := y_9) hown (mvT hZ (wq hw 100 rfl)) (mvT hZ (wq hw 101 rfl)) (mvT hZ (wq hw 103 rfl)) (Cond.privateMethod_at (mvP hZ (wq hw 102 rfl) (args := #[]))) (mvT hZ (wq hw 104 rfl)) (by decide) (backOf (W := 0) (rmEcB2 l Z a0 hw [] c1 d1 kd m0 (0 : Int64) h0 n0 O0 Ec Fw Fs Fu Vd necd gc gd) hZ (wq hw 104 rfl) (wq hw 71 rfl) (by decide) (by decide)) (g := (mkF m 14 #[vR c1, vI (1 : Int32), vI (2 : Int32)] [(.int (2 : Int32)), (.ref c1)])) rfl (by rw [hml]; rfl) (Steps.refl _) (a := c1) (by rw [e101]; exact q102) q102' (argsL := [(.int (2 : Int32))]) (rest := []) (lenOf pd_3 rfl) rfl (by show 2 * 0 + _ ≤ _; exact Nat.le_of_eq rfl) (hb hby dc10_14) (fun _ _ => ⟨rfl, e101, (by decide : 0 + 1 ≤ _), (by decide : 0 + 2 ≤ _)⟩)
  dsimp only [Pt.U, Pt.locs, Pt.cells, Pt.slots] at X102 l102 y102 z102 st102 hQ102
  subst l102 y102 z102
  obtain ⟨b102, kb102, rfl, N102q, gb102, sz102, K102, Ec102, Fw102, Fs102, Fu102, V102⟩ := hQ102
  have N102 := Fr.app N0 N102q
  have ne102_c1 : c1 ≠ b102 := Nat.ne_of_lt (Nat.lt_of_lt_of_le (Ec).lt sz102)
  have ne102_d1 : d1 ≠ b102 := Nat.ne_of_lt (Nat.lt_of_lt_of_le (Vd).lt sz102)
  have sz0102 : h0.size ≤ b102 := Nat.le_trans ((Keep.refl h0 [c1])).1 sz102
  obtain ⟨T103, h103, X103, e103, W103, st103⟩ := putF X102 hx hZ hown (host := "") (Or.inl (wq hw 76 rfl)) Via.refl rfl Fu102 Ec102 (Or.inl (wq hw 77 rfl)) (wq hw 70 rfl) (ty := .int) (by decide) rfl rfl (g := (mkF m 19 #[vR c1, vI (1 : Int32), vI (2 : Int32)] [(.int (2 : Int32)), (.ref c1)])) rfl rfl (hb hby dc10_19)
  have Fw103 : Fld Z h103 c1 sB "wordsInUse" "I" (.int (2 : Int32)) := Fld.same W103 Fu102
  have N103 := Fr.snoc X103 N102 gc
  obtain ⟨fs, hr, hrun, hended, hW, hsame⟩ := X103.leave (v := none) (fun _ => rfl)
  have K104 : Keep h0 h103 [c1] := (Keep.wr (Keep.trans (Keep.refl h0 [c1]) K102 (allS (P := fun x => x ∈ [c1] ∨ h0.size ≤ x) (Or.inl (List.mem_of_getElem? (i := 0) rfl)) all0)) W103 (Or.inl (List.mem_of_getElem? (i := 0) rfl)))
  have f105 := (Ec102.wr W103)
  have f106 := (Fw102.other W103 (Or.inr (slot_ne (Or.inl (wq hw 89 rfl)) (Or.inl (wq hw 77 rfl)) (by decide) (t := (.array .long)) (t' := .int) (by decide) (by decide))))
  have f107 := (Fs102.other W103 (Or.inr (slot_ne (Or.inl (wq hw 79 rfl)) (Or.inl (wq hw 77 rfl)) (by decide) (t := .boolean) (t' := .int) (by decide) (by decide))))
  have f108 := (V102.other W103 (Ne.symm ne102_c1))
  refine ⟨_, _, pre0 _ ?_, hrun, hended, _, _, rfl, ?_, ⟨_, rfl⟩, hW, hsame.mono (by decide) (by decide)⟩
  · skip
    show Steps p.tables e below (s₁.setTop (mkF m 0 #[vR c1, vI (1 : Int32), .unset] [])) _
    refine XS.iloadN X0.here hx rfl (hb hby dc10_0) rfl ?_
    refine XS.iconst X0.here hx rfl (hb hby dc10_1) ?_
    refine XS.iadd X0.here hx rfl (hb hby dc10_2) rfl ?_
    refine XS.istoreN X0.here hx rfl (hb hby dc10_3) rfl (l' := #[vR c1, vI (1 : Int32), vI (2 : Int32)]) rfl ?_
    refine XS.aloadN X0.here hx rfl (hb hby dc10_4) rfl rfl ?_
    refine st101 _ ?_
    refine XS.iloadN X101.here hx rfl (hb hby dc10_8) rfl ?_
    refine XS.icmpNo X101.here hx rfl (hb hby dc10_9) rfl (by decide) ?_
    show Steps p.tables e below (T101.setTop (mkF m 12 #[vR c1, vI (1 : Int32), vI (2 : Int32)] [])) _
    refine XS.aloadN X101.here hx rfl (hb hby dc10_12) rfl rfl ?_
    refine XS.iloadN X101.here hx rfl (hb hby dc10_13) rfl ?_
    refine st102.trans ?_
    refine XS.aloadN X102.here hx rfl (hb hby dc10_17) rfl rfl ?_
    refine XS.iloadN X102.here hx rfl (hb hby dc10_18) rfl ?_
    refine st103 _ ?_
    exact X103.returnOut hx Bd.returns (hb hby dc10_22) hr
  · show Q_ex2 Z c1 d1 m0 h0 n0 _ T103.heap _
    rw [e103]
    exact ⟨_, _, rfl, N103, gb102, sz0102, K104, f105, f106, f107, Fw103, f108⟩
theorem rmExD0 (l : Launch) (Z : State) (a0 : Array Value) (hw : HwT a0 Z) (ws : List Jvm.Cond) (c1 d1 : Addr) (kd : ClassId) (m0 m1 : Int64) (h0 : Heap) (n0 : Nat) (O0 : Old Z n0 h0) (Ec : Exa Z h0 c1 sB) (Fw : Fld Z h0 c1 sB "words" "[J" (.ref d1)) (Fs : Fld Z h0 c1 sB "sizeIsSticky" "Z" (.int (0 : Int32))) (Fu : Fld Z h0 c1 sB "wordsInUse" "I" (.int (2 : Int32))) (Vd : Arv Z h0 d1 kd .long (2 : Int32) [(.long m0), (.long m1)] (.long (0 : Int64))) (necd : c1 ≠ d1) (gc : n0 ≤ c1) (gd : n0 ≤ d1) :
    Mt l Z y_10 jdk_92_method_15_code 3 none ws ({ frames := 0, cells := 0, slots := 0, locals := 0 } : Room) #[(.ref c1), (.int (0 : Int32))] h0 (Q_n h0 n0) := by
  refine MetFree.of_bodySF (plainFor_of_name pn_1) hisR ?_
  intro p e s m args below meth c s₁ Bd hml0 hP hK
  obtain ⟨rfl, hZ, hh⟩ := hP
  have hx := Bd.exec
  have hby := Bd.bytes
  have hml : c.maxLocals = 3 := hml0
  have hown : s.vm.findClass sB = some m.cls := findClass_of_methodNamed Bd.named
  have hnm := (name_of_methodNamed Bd.named Bd.method).1
  have X0 : Stand p l e ({ frames := 0, cells := 0, slots := 0, locals := 0 } : Room) s m #[(.ref c1), (.int (0 : Int32))] below meth c s₁ [] 0 0 := Stand.of_body Bd
  have e0 : s₁.heap = h0 := by rw [← hh, Bd.state]; rfl
  have N0 := Fr.nil n0
  have pre0 := fun t (k : Steps p.tables e below (s₁.setTop _) t) => castTop (ef_5 m c1 (0 : Int32)) k
  obtain ⟨T101, X101, e101, st101⟩ := gG X0 hx hZ hown (wq hw 76 rfl) e0 Fu (g := (mkF m 5 #[vR c1, vI (0 : Int32), vI (1 : Int32)] [(.ref c1)])) rfl rfl (hb hby dc10_5)
  obtain ⟨fs, hr, hrun, hended, hW, hsame⟩ := X101.leave (v := none) (fun _ => rfl)
  refine ⟨_, _, pre0 _ ?_, hrun, hended, _, _, rfl, ?_, ⟨_, rfl⟩, hW, hsame.mono (by decide) (by decide)⟩
  · skip
    show Steps p.tables e below (s₁.setTop (mkF m 0 #[vR c1, vI (0 : Int32), .unset] [])) _
    refine XS.iloadN X0.here hx rfl (hb hby dc10_0) rfl ?_
    refine XS.iconst X0.here hx rfl (hb hby dc10_1) ?_
    show Steps p.tables e below (s₁.setTop (mkF m 2 #[vR c1, vI (0 : Int32), .unset] [(.int (1 : Int32)), (.int (0 : Int32))])) _
    refine XS.iadd X0.here hx rfl (hb hby dc10_2) rfl ?_
    refine XS.istoreN X0.here hx rfl (hb hby dc10_3) rfl (l' := #[vR c1, vI (0 : Int32), vI (1 : Int32)]) rfl ?_
    refine XS.aloadN X0.here hx rfl (hb hby dc10_4) rfl rfl ?_
    refine st101 _ ?_
    refine XS.iloadN X101.here hx rfl (hb hby dc10_8) rfl ?_
    refine XS.icmpYes X101.here hx rfl (pc0 := 9) (pc' := 22) rfl (hb hby dc10_9) rfl (by decide) (by decide) (by decide) ?_
    exact X101.returnOut hx Bd.returns (hb hby dc10_22) hr
  · show Q_n h0 n0 _ T101.heap _
    rw [e101]
    exact ⟨rfl, N0, rfl⟩
theorem rmExD1 (l : Launch) (Z : State) (a0 : Array Value) (hw : HwT a0 Z) (ws : List Jvm.Cond) (c1 d1 : Addr) (kd : ClassId) (m0 m1 : Int64) (h0 : Heap) (n0 : Nat) (O0 : Old Z n0 h0) (Ec : Exa Z h0 c1 sB) (Fw : Fld Z h0 c1 sB "words" "[J" (.ref d1)) (Fs : Fld Z h0 c1 sB "sizeIsSticky" "Z" (.int (0 : Int32))) (Fu : Fld Z h0 c1 sB "wordsInUse" "I" (.int (2 : Int32))) (Vd : Arv Z h0 d1 kd .long (2 : Int32) [(.long m0), (.long m1)] (.long (0 : Int64))) (necd : c1 ≠ d1) (gc : n0 ≤ c1) (gd : n0 ≤ d1) :
    Mt l Z y_10 jdk_92_method_15_code 3 none ws ({ frames := 0, cells := 0, slots := 0, locals := 0 } : Room) #[(.ref c1), (.int (1 : Int32))] h0 (Q_n h0 n0) := by
  refine MetFree.of_bodySF (plainFor_of_name pn_1) hisR ?_
  intro p e s m args below meth c s₁ Bd hml0 hP hK
  obtain ⟨rfl, hZ, hh⟩ := hP
  have hx := Bd.exec
  have hby := Bd.bytes
  have hml : c.maxLocals = 3 := hml0
  have hown : s.vm.findClass sB = some m.cls := findClass_of_methodNamed Bd.named
  have hnm := (name_of_methodNamed Bd.named Bd.method).1
  have X0 : Stand p l e ({ frames := 0, cells := 0, slots := 0, locals := 0 } : Room) s m #[(.ref c1), (.int (1 : Int32))] below meth c s₁ [] 0 0 := Stand.of_body Bd
  have e0 : s₁.heap = h0 := by rw [← hh, Bd.state]; rfl
  have N0 := Fr.nil n0
  have pre0 := fun t (k : Steps p.tables e below (s₁.setTop _) t) => castTop (ef_5 m c1 (1 : Int32)) k
  obtain ⟨T101, X101, e101, st101⟩ := gG X0 hx hZ hown (wq hw 76 rfl) e0 Fu (g := (mkF m 5 #[vR c1, vI (1 : Int32), vI (2 : Int32)] [(.ref c1)])) rfl rfl (hb hby dc10_5)
  obtain ⟨fs, hr, hrun, hended, hW, hsame⟩ := X101.leave (v := none) (fun _ => rfl)
  refine ⟨_, _, pre0 _ ?_, hrun, hended, _, _, rfl, ?_, ⟨_, rfl⟩, hW, hsame.mono (by decide) (by decide)⟩
  · skip
    show Steps p.tables e below (s₁.setTop (mkF m 0 #[vR c1, vI (1 : Int32), .unset] [])) _
    refine XS.iloadN X0.here hx rfl (hb hby dc10_0) rfl ?_
    refine XS.iconst X0.here hx rfl (hb hby dc10_1) ?_
    show Steps p.tables e below (s₁.setTop (mkF m 2 #[vR c1, vI (1 : Int32), .unset] [(.int (1 : Int32)), (.int (1 : Int32))])) _
    refine XS.iadd X0.here hx rfl (hb hby dc10_2) rfl ?_
    refine XS.istoreN X0.here hx rfl (hb hby dc10_3) rfl (l' := #[vR c1, vI (1 : Int32), vI (2 : Int32)]) rfl ?_
    refine XS.aloadN X0.here hx rfl (hb hby dc10_4) rfl rfl ?_
    refine st101 _ ?_
    refine XS.iloadN X101.here hx rfl (hb hby dc10_8) rfl ?_
    refine XS.icmpYes X101.here hx rfl (pc0 := 9) (pc' := 22) rfl (hb hby dc10_9) rfl (by decide) (by decide) (by decide) ?_
    exact X101.returnOut hx Bd.returns (hb hby dc10_22) hr
  · show Q_n h0 n0 _ T101.heap _
    rw [e101]
    exact ⟨rfl, N0, rfl⟩
def Bs (Z : State) (h : Heap) (c1 d1 : Addr) (m0 m1 : Int64) (fi : Prop) : Prop := c1 ≠ d1 ∧ Exa Z h c1 sB ∧ Fld Z h c1 sB "words" "[J" (.ref d1) ∧ Fld Z h c1 sB "sizeIsSticky" "Z" (.int (0 : Int32)) ∧ ∃ kd : ClassId,
  (Fld Z h c1 sB "wordsInUse" "I" (.int (0 : Int32)) ∧ Arv Z h d1 kd .long (1 : Int32) [(.long m0)] (.long (0 : Int64)) ∧ m0 = 0 ∧ m1 = 0) ∨ (Fld Z h c1 sB "wordsInUse" "I" (.int (1 : Int32)) ∧ Arv Z h d1 kd .long (1 : Int32) [(.long m0)] (.long (0 : Int64)) ∧ m1 = 0) ∨ (Fld Z h c1 sB "wordsInUse" "I" (.int (1 : Int32)) ∧ Arv Z h d1 kd .long (2 : Int32) [(.long m0), (.long m1)] (.long (0 : Int64)) ∧ m1 = 0 ∧ fi) ∨ (Fld Z h c1 sB "wordsInUse" "I" (.int (2 : Int32)) ∧ Arv Z h d1 kd .long (2 : Int32) [(.long m0), (.long m1)] (.long (0 : Int64)) ∧ ¬ m1 = 0)
theorem Bs.kp {Z : State} {h h' : Heap} {c1 d1 : Addr} {m0 m1 : Int64} {fi : Prop} {ws : List Addr} (F : Bs Z h c1 d1 m0 m1 fi) (K : Keep h h' ws) (q1 : c1 ∉ ws) (q2 : d1 ∉ ws) : Bs Z h' c1 d1 m0 m1 fi := by
  obtain ⟨ne, E, W, S, kd, r⟩ := F
  refine ⟨ne, E.keep K, W.keep K q1, S.keep K q1, kd, ?_⟩
  rcases r with ⟨a, b, r⟩ | ⟨a, b, r⟩ | ⟨a, b, r⟩ | ⟨a, b, r⟩
  · exact Or.inl ⟨a.keep K q1, b.keep K q2, r⟩
  · exact Or.inr (Or.inl ⟨a.keep K q1, b.keep K q2, r⟩)
  · exact Or.inr (Or.inr (Or.inl ⟨a.keep K q1, b.keep K q2, r⟩))
  · exact Or.inr (Or.inr (Or.inr ⟨a.keep K q1, b.keep K q2, r⟩))
theorem Bs.ext {Z : State} {h h' : Heap} {c1 d1 : Addr} {m0 m1 : Int64} {fi : Prop} (F : Bs Z h c1 d1 m0 m1 fi) (E : Ext h h') : Bs Z h' c1 d1 m0 m1 fi := F.kp (Keep.ext (Keep.refl h []) E) nin0 nin0
theorem Bs.mono {Z : State} {h : Heap} {c1 d1 : Addr} {m0 m1 : Int64} {fi fj : Prop} (F : Bs Z h c1 d1 m0 m1 fi) (q : fi → fj) : Bs Z h c1 d1 m0 m1 fj := by
  obtain ⟨ne, E, W, S, kd, r⟩ := F
  refine ⟨ne, E, W, S, kd, ?_⟩
  rcases r with r | r | ⟨a, b, c, r⟩ | r
  · exact Or.inl r
  · exact Or.inr (Or.inl r)
  · exact Or.inr (Or.inr (Or.inl ⟨a, b, c, q r⟩))
  · exact Or.inr (Or.inr (Or.inr r))
theorem Bs.exa {Z : State} {h : Heap} {c1 d1 : Addr} {m0 m1 : Int64} {fi : Prop} (F : Bs Z h c1 d1 m0 m1 fi) : Exa Z h c1 sB := F.2.1
theorem Bs.ltd {Z : State} {h : Heap} {c1 d1 : Addr} {m0 m1 : Int64} {fi : Prop} (F : Bs Z h c1 d1 m0 m1 fi) : d1 < h.size := by
  obtain ⟨ne, E, W, S, kd, r⟩ := F
  rcases r with ⟨a, b, r⟩ | ⟨a, b, r⟩ | ⟨a, b, r⟩ | ⟨a, b, r⟩ <;> exact b.lt
def Q_se (Z : State) (c1 d1 : Addr) (u1 : Int32) (m0 m1 : Int64) (h0 : Heap) (n0 : Nat) (v : Option Value) (h : Heap) (L : List Loc) : Prop := v = none ∧ Fr n0 L ∧ Keep h0 h [c1, d1] ∧ ∃ d2, (d2 = d1 ∨ h0.size ≤ d2) ∧ n0 ≤ d2 ∧ Bs Z h c1 d2 (own_s0 u1 m0) (own_s1 u1 m1) False
abbrev y_11 : MethodName := (⟨"java/util/BitSet", "set", "(I)V"⟩ : MethodName)
abbrev C11 := jdk_92_method_19_code
theorem dc11_0 : decode C11 0 = .ok (.iload_n 1, 1) := by decide +kernel
theorem dc11_1 : decode C11 1 = .ok (.ifCond .ge 30, 3) := by decide +kernel
theorem dc11_31 : decode C11 31 = .ok (.iload_n 1, 1) := by decide +kernel
theorem dc11_32 : decode C11 32 = .ok (.invokestatic 52, 3) := by decide +kernel
theorem dc11_35 : decode C11 35 = .ok (.istore_n 2, 1) := by decide +kernel
theorem dc11_36 : decode C11 36 = .ok (.aload_n 0, 1) := by decide +kernel
theorem dc11_37 : decode C11 37 = .ok (.iload_n 2, 1) := by decide +kernel
theorem dc11_38 : decode C11 38 = .ok (.invokevirtual 155, 3) := by decide +kernel
theorem dc11_41 : decode C11 41 = .ok (.aload_n 0, 1) := by decide +kernel
theorem dc11_42 : decode C11 42 = .ok (.getfield 11, 3) := by decide +kernel
theorem dc11_45 : decode C11 45 = .ok (.iload_n 2, 1) := by decide +kernel
theorem dc11_46 : decode C11 46 = .ok (.dup2, 1) := by decide +kernel
theorem dc11_47 : decode C11 47 = .ok (.laload, 1) := by decide +kernel
theorem dc11_48 : decode C11 48 = .ok (.lconst 1, 1) := by decide +kernel
theorem dc11_49 : decode C11 49 = .ok (.iload_n 1, 1) := by decide +kernel
theorem dc11_50 : decode C11 50 = .ok (.lshl, 1) := by decide +kernel
theorem dc11_51 : decode C11 51 = .ok (.lor, 1) := by decide +kernel
theorem dc11_52 : decode C11 52 = .ok (.lastore, 1) := by decide +kernel
theorem dc11_53 : decode C11 53 = .ok (.aload_n 0, 1) := by decide +kernel
theorem dc11_54 : decode C11 54 = .ok (.invokevirtual 56, 3) := by decide +kernel
theorem pd_4 : parseMethodDescriptor "()V" = some ⟨[], none⟩ := by decide +kernel
theorem dc11_57 : decode C11 57 = .ok (.return_, 1) := by decide +kernel
theorem rmSeA1 (l : Launch) (Z : State) (a0 : Array Value) (hw : HwT a0 Z) (ws : List Jvm.Cond) (c1 d1 : Addr) (kd : ClassId) (m0 m1 : Int64) (u1 : Int32) (h0 : Heap) (n0 : Nat) (O0 : Old Z n0 h0) (Ec : Exa Z h0 c1 sB) (Fw : Fld Z h0 c1 sB "words" "[J" (.ref d1)) (Fs : Fld Z h0 c1 sB "sizeIsSticky" "Z" (.int (0 : Int32))) (Fu : Fld Z h0 c1 sB "wordsInUse" "I" (.int (0 : Int32))) (Vd : Arv Z h0 d1 kd .long (1 : Int32) [(.long (0 : Int64))] (.long (0 : Int64))) (necd : c1 ≠ d1) (gc : n0 ≤ c1) (gd : n0 ≤ d1) (hu : own_r u1) (hlt : u1 < (64 : Int32)) (SB : Sta Z Z.heap sB "$assertionsDisabled" "Z" (.int (1 : Int32))) :
    Mt l Z y_11 jdk_92_method_19_code 3 none ws ({ frames := 2, cells := 0, slots := 0, locals := 28 } : Room) #[(.ref c1), (.int u1)] h0 (Q_se Z c1 d1 u1 (0 : Int64) (0 : Int64) h0 n0) := by
  refine MetFree.of_bodySF (plainFor_of_name pn_1) hisR ?_
  intro p e s m args below meth c s₁ Bd hml0 hP hK
  obtain ⟨rfl, hZ, hh⟩ := hP
  have hx := Bd.exec
  have hby := Bd.bytes
  have hml : c.maxLocals = 3 := hml0
  have hown : s.vm.findClass sB = some m.cls := findClass_of_methodNamed Bd.named
  have hnm := (name_of_methodNamed Bd.named Bd.method).1
  have X0 : Stand p l e ({ frames := 2, cells := 0, slots := 0, locals := 28 } : Room) s m #[(.ref c1), (.int u1)] below meth c s₁ [] 0 0 := Stand.of_body Bd
  have e0 : s₁.heap = h0 := by rw [← hh, Bd.state]; rfl
  have N0 := Fr.nil n0
  have pre0 := fun t (k : Steps p.tables e below (s₁.setTop _) t) => castTop (ef_5 m c1 u1) k
  obtain ⟨_, _, ⟨T101, L101, k101, n101⟩, -, X101, ⟨Lc101, hQ101, l101, y101, z101⟩, st101⟩ := Jvm.LawKit.callS X0 hx (y := y_3) hown (mvT hZ (wq hw 85 rfl)) (mvT hZ (wq hw 86 rfl)) (mvT hZ (wq hw 71 rfl)) (mvT hZ (wq hw 87 rfl)) (by decide) (backOf (W := 0) (rmWi l Z a0 hw [] u1 (0 : Int32) h0 n0 O0 (own_w0 hu hlt)) hZ (wq hw 87 rfl) (wq hw 71 rfl) (by decide) (by decide)) (g := (mkF m 32 #[vR c1, vI u1, .unset] [(.int u1)])) rfl (by rw [hml]; rfl) (argsL := [(.int u1)]) (rest := []) (lenOf pd_0 rfl) rfl (by show 2 * 0 + _ ≤ _; exact Nat.le_of_eq rfl) (hb hby dc11_32) (fun _ _ => ⟨rfl, e0, (by decide : 0 + 0 ≤ _), (by decide : 0 + 0 ≤ _)⟩)
  dsimp only [Pt.U, Pt.locs, Pt.cells, Pt.slots] at X101 l101 y101 z101 st101 hQ101
  subst l101 y101 z101
  obtain ⟨rfl, N101q, hh101⟩ := hQ101
  have N101 := Fr.app N0 N101q
  obtain ⟨cq102, q102, q102'⟩ := Exa.cell Ec
  obtain ⟨_, _, ⟨T102, L102, k102, n102⟩, -, X102, ⟨Lc102, hQ102, l102, y102, z102⟩, st102⟩ := X101.privateBack hx (y := y_10) hown (mvT hZ (wq hw 95 rfl)) (mvT hZ (wq hw 96 rfl)) (mvT hZ (wq hw 98 rfl)) (Cond.privateMethod_at (mvP hZ (wq hw 97 rfl) (args := #[]))) (mvT hZ (wq hw 99 rfl)) (by decide) (backOf (W := 0) (rmExA0 l Z a0 hw [] c1 d1 kd (0 : Int64) (0 : Int64) h0 n0 O0 Ec Fw Fs Fu Vd necd gc gd) hZ (wq hw 99 rfl) (wq hw 71 rfl) (by decide) (by decide)) (g := (mkF m 38 #[vR c1, vI u1, vI (0 : Int32)] [(.int (0 : Int32)), (.ref c1)])) rfl (by rw [hml]; rfl) (Steps.refl _) (a := c1) (by rw [hh101]; exact q102) q102' (argsL := [(.int (0 : Int32))]) (rest := []) (lenOf pd_3 rfl) rfl (by show 2 * 0 + _ ≤ _; exact Nat.le_of_eq rfl) (hb hby dc11_38) (fun _ _ => ⟨rfl, hh101, (by decide : 0 + 0 ≤ _), (by decide : 0 + 0 ≤ _)⟩)
  dsimp only [Pt.U, Pt.locs, Pt.cells, Pt.slots] at X102 l102 y102 z102 st102 hQ102
  subst l102 y102 z102
  obtain ⟨rfl, N102q, K102, Ec102, Fw102, Fs102, Fu102⟩ := hQ102
  have N102 := Fr.app N101 N102q
  obtain ⟨T103, X103, e103, st103⟩ := gG X102 hx hZ hown (wq hw 88 rfl) rfl Fw102 (g := (mkF m 42 #[vR c1, vI u1, vI (0 : Int32)] [(.ref c1)])) rfl rfl (hb hby dc11_42)
  have f104 := (Vd.keep K102 (ninS (Ne.symm necd) nin0))
  obtain ⟨cl105, Ar105, q105, S105, N105_, H105, G105⟩ := id f104
  have hin105 : ¬ ((0 : Int32) < 0 ∨ cl105.slots.size ≤ ((0 : Int32)).toNatClampNeg) := inb_of S105 ⟨by decide, by decide⟩
  have hat105 : cl105.slots[((0 : Int32)).toNatClampNeg]? = some (.long (0 : Int64)) := H105.at hin105 rfl
  obtain ⟨cl106, Ar106, q106, S106, N106_, H106, G106⟩ := id f104
  have hin106 : ¬ ((0 : Int32) < 0 ∨ cl106.slots.size ≤ ((0 : Int32)).toNatClampNeg) := inb_of S106 ⟨by decide, by decide⟩
  obtain ⟨T107, h107, X107, e107, W107, st107⟩ := stJ X103 hx hZ e103 Ar106 (j := (0 : Int32)) hin106 (g := (mkF m 52 #[vR c1, vI u1, vI (0 : Int32)] [(.long ((0 : Int64) ||| (own_bt u1))), (.int (0 : Int32)), (.ref d1)])) rfl rfl (hb hby dc11_52)
  have V107 : Arv Z h107 d1 kd .long (1 : Int32) [(.long ((0 : Int64) ||| (own_bt u1)))] (.long (0 : Int64)) := Arv.set Ar106 q106 S106 N106_ H106 G106 rfl W107 0 rfl (Nat.le_of_ble_eq_true rfl)
  have N107 := Fr.snoc X107 N102 gd
  have O108 : Old Z n0 h107 := ((O0.keep K102 (allS gc all0)).wr W107 gd)
  have f110 := (Ec102.wr W107)
  obtain ⟨cq109, q109, q109'⟩ := Exa.cell f110
  obtain ⟨_, _, ⟨T109, L109, k109, n109⟩, -, X109, ⟨Lc109, hQ109, l109, y109, z109⟩, st109⟩ := X107.privateBack hx (y := y_6) hown (mvT hZ (wq hw 105 rfl)) (mvT hZ (wq hw 106 rfl)) (mvT hZ (wq hw 108 rfl)) (Cond.privateMethod_at (mvP hZ (wq hw 107 rfl) (args := #[]))) (mvT hZ (wq hw 109 rfl)) (by decide) (backOf (W := 0) (rmCk l Z a0 hw [] c1 h107 n0 O108 SB) hZ (wq hw 109 rfl) (wq hw 71 rfl) (by decide) (by decide)) (g := (mkF m 54 #[vR c1, vI u1, vI (0 : Int32)] [(.ref c1)])) rfl (by rw [hml]; rfl) (Steps.refl _) (a := c1) (by rw [e107]; exact q109) q109' (argsL := []) (rest := []) (lenOf pd_4 rfl) rfl (by show 2 * 0 + _ ≤ _; exact Nat.le_of_eq rfl) (hb hby dc11_54) (fun _ _ => ⟨rfl, e107, (by decide : 0 + 0 ≤ _), (by decide : 0 + 0 ≤ _)⟩)
  dsimp only [Pt.U, Pt.locs, Pt.cells, Pt.slots] at X109 l109 y109 z109 st109 hQ109
  subst l109 y109 z109
  obtain ⟨rfl, N109q, hh109⟩ := hQ109
  have N109 := Fr.app N107 N109q
  obtain ⟨fs, hr, hrun, hended, hW, hsame⟩ := X109.leave (v := none) (fun _ => rfl)
  have K111 : Keep h0 h107 [c1, d1] := (Keep.wr (Keep.trans (Keep.refl h0 [c1, d1]) K102 (allS (P := fun x => x ∈ [c1, d1] ∨ h0.size ≤ x) (Or.inl (List.mem_of_getElem? (i := 0) rfl)) all0)) W107 (Or.inl (List.mem_of_getElem? (i := 1) rfl)))
  have f112 := (Fw102.other W107 (Or.inl necd))
  have f113 := (Fs102.other W107 (Or.inl necd))
  have f114 := (Fu102.other W107 (Or.inl necd))
  refine ⟨_, _, pre0 _ ?_, hrun, hended, _, _, rfl, ?_, ⟨_, rfl⟩, hW, hsame.mono (by decide) (by decide)⟩
  · skip
    show Steps p.tables e below (s₁.setTop (mkF m 0 #[vR c1, vI u1, .unset] [])) _
    refine XS.iloadN X0.here hx rfl (hb hby dc11_0) rfl ?_
    refine XS.ifYes X0.here hx rfl (pc0 := 1) (pc' := 31) rfl (hb hby dc11_1) rfl ((if0 _ _).trans (flt (own_ge0 hu)).2.1) (by decide) (by decide) ?_
    refine XS.iloadN X0.here hx rfl (hb hby dc11_31) rfl ?_
    show Steps p.tables e below (s₁.setTop (mkF m 32 #[vR c1, vI u1, .unset] [(.int u1)])) _
    refine st101 _ ?_
    refine XS.istoreN X101.here hx rfl (hb hby dc11_35) rfl (l' := #[vR c1, vI u1, vI (0 : Int32)]) rfl ?_
    refine XS.aloadN X101.here hx rfl (hb hby dc11_36) rfl rfl ?_
    refine XS.iloadN X101.here hx rfl (hb hby dc11_37) rfl ?_
    refine st102.trans ?_
    refine XS.aloadN X102.here hx rfl (hb hby dc11_41) rfl rfl ?_
    refine st103 _ ?_
    refine XS.iloadN X103.here hx rfl (hb hby dc11_45) rfl ?_
    jvm_step X103.here [X103.here.top, hx, (hb hby dc11_46), Value.category]
    refine X103.laload hx (j := (0 : Int32)) (v := (.long (0 : Int64))) (by rw [e103]; exact Ar105.1) (State.isArrayOf_alike hZ.alike Ar105.2.1) Ar105.2.2 hin105 hat105 (g := (mkF m 47 #[vR c1, vI u1, vI (0 : Int32)] [(.int (0 : Int32)), (.ref d1), (.int (0 : Int32)), (.ref d1)])) rfl rfl (hb hby dc11_47) _ ?_
    refine XS.lconst X103.here hx rfl (hb hby dc11_48) ?_
    refine XS.iloadN X103.here hx rfl (hb hby dc11_49) rfl ?_
    show Steps p.tables e below (T103.setTop (mkF m 50 #[vR c1, vI u1, vI (0 : Int32)] [(.int u1), (.long (1 : Int64)), (.long (0 : Int64)), (.int (0 : Int32)), (.ref d1)])) _
    refine XS.lshl X103.here hx rfl (hb hby dc11_50) rfl ?_
    show Steps p.tables e below (T103.setTop (mkF m 51 #[vR c1, vI u1, vI (0 : Int32)] [(.long ((1 : Int64) <<< (u1 &&& 0x3f).toInt64)), (.long (0 : Int64)), (.int (0 : Int32)), (.ref d1)])) _
    rw [(show ((1 : Int64) <<< (u1 &&& 0x3f).toInt64) = own_bt u1 from rfl)]
    refine XS.lor X103.here hx rfl (hb hby dc11_51) rfl ?_
    refine st107 _ ?_
    refine XS.aloadN X107.here hx rfl (hb hby dc11_53) rfl rfl ?_
    refine st109.trans ?_
    exact X109.returnOut hx Bd.returns (hb hby dc11_57) hr
  · show Q_se Z c1 d1 u1 (0 : Int64) (0 : Int64) h0 n0 _ T109.heap _
    rw [hh109]
    unfold Q_se
    rw [own_s0p hlt, own_s1p hlt]
    exact ⟨rfl, N109, K111, _, Or.inl rfl, gd, ⟨necd, f110, f112, f113, _, Or.inr (Or.inl ⟨f114, V107, rfl⟩)⟩⟩
theorem rmSeB1 (l : Launch) (Z : State) (a0 : Array Value) (hw : HwT a0 Z) (ws : List Jvm.Cond) (c1 d1 : Addr) (kd : ClassId) (m0 m1 : Int64) (u1 : Int32) (h0 : Heap) (n0 : Nat) (O0 : Old Z n0 h0) (Ec : Exa Z h0 c1 sB) (Fw : Fld Z h0 c1 sB "words" "[J" (.ref d1)) (Fs : Fld Z h0 c1 sB "sizeIsSticky" "Z" (.int (0 : Int32))) (Fu : Fld Z h0 c1 sB "wordsInUse" "I" (.int (1 : Int32))) (Vd : Arv Z h0 d1 kd .long (1 : Int32) [(.long m0)] (.long (0 : Int64))) (necd : c1 ≠ d1) (gc : n0 ≤ c1) (gd : n0 ≤ d1) (hu : own_r u1) (hlt : u1 < (64 : Int32)) (SB : Sta Z Z.heap sB "$assertionsDisabled" "Z" (.int (1 : Int32))) :
    Mt l Z y_11 jdk_92_method_19_code 3 none ws ({ frames := 2, cells := 0, slots := 0, locals := 28 } : Room) #[(.ref c1), (.int u1)] h0 (Q_se Z c1 d1 u1 m0 (0 : Int64) h0 n0) := by
  refine MetFree.of_bodySF (plainFor_of_name pn_1) hisR ?_
  intro p e s m args below meth c s₁ Bd hml0 hP hK
  obtain ⟨rfl, hZ, hh⟩ := hP
  have hx := Bd.exec
  have hby := Bd.bytes
  have hml : c.maxLocals = 3 := hml0
  have hown : s.vm.findClass sB = some m.cls := findClass_of_methodNamed Bd.named
  have hnm := (name_of_methodNamed Bd.named Bd.method).1
  have X0 : Stand p l e ({ frames := 2, cells := 0, slots := 0, locals := 28 } : Room) s m #[(.ref c1), (.int u1)] below meth c s₁ [] 0 0 := Stand.of_body Bd
  have e0 : s₁.heap = h0 := by rw [← hh, Bd.state]; rfl
  have N0 := Fr.nil n0
  have pre0 := fun t (k : Steps p.tables e below (s₁.setTop _) t) => castTop (ef_5 m c1 u1) k
  obtain ⟨_, _, ⟨T101, L101, k101, n101⟩, -, X101, ⟨Lc101, hQ101, l101, y101, z101⟩, st101⟩ := Jvm.LawKit.callS X0 hx (y := y_3) hown (mvT hZ (wq hw 85 rfl)) (mvT hZ (wq hw 86 rfl)) (mvT hZ (wq hw 71 rfl)) (mvT hZ (wq hw 87 rfl)) (by decide) (backOf (W := 0) (rmWi l Z a0 hw [] u1 (0 : Int32) h0 n0 O0 (own_w0 hu hlt)) hZ (wq hw 87 rfl) (wq hw 71 rfl) (by decide) (by decide)) (g := (mkF m 32 #[vR c1, vI u1, .unset] [(.int u1)])) rfl (by rw [hml]; rfl) (argsL := [(.int u1)]) (rest := []) (lenOf pd_0 rfl) rfl (by show 2 * 0 + _ ≤ _; exact Nat.le_of_eq rfl) (hb hby dc11_32) (fun _ _ => ⟨rfl, e0, (by decide : 0 + 0 ≤ _), (by decide : 0 + 0 ≤ _)⟩)
  dsimp only [Pt.U, Pt.locs, Pt.cells, Pt.slots] at X101 l101 y101 z101 st101 hQ101
  subst l101 y101 z101
  obtain ⟨rfl, N101q, hh101⟩ := hQ101
  have N101 := Fr.app N0 N101q
  obtain ⟨cq102, q102, q102'⟩ := Exa.cell Ec
  obtain ⟨_, _, ⟨T102, L102, k102, n102⟩, -, X102, ⟨Lc102, hQ102, l102, y102, z102⟩, st102⟩ := X101.privateBack hx (y := y_10) hown (mvT hZ (wq hw 95 rfl)) (mvT hZ (wq hw 96 rfl)) (mvT hZ (wq hw 98 rfl)) (Cond.privateMethod_at (mvP hZ (wq hw 97 rfl) (args := #[]))) (mvT hZ (wq hw 99 rfl)) (by decide) (backOf (W := 0) (rmExB0 l Z a0 hw [] c1 d1 kd m0 (0 : Int64) h0 n0 O0 Ec Fw Fs Fu Vd necd gc gd) hZ (wq hw 99 rfl) (wq hw 71 rfl) (by decide) (by decide)) (g := (mkF m 38 #[vR c1, vI u1, vI (0 : Int32)] [(.int (0 : Int32)), (.ref c1)])) rfl (by rw [hml]; rfl) (Steps.refl _) (a := c1) (by rw [hh101]; exact q102) q102' (argsL := [(.int (0 : Int32))]) (rest := []) (lenOf pd_3 rfl) rfl (by show 2 * 0 + _ ≤ _; exact Nat.le_of_eq rfl) (hb hby dc11_38) (fun _ _ => ⟨rfl, hh101, (by decide : 0 + 0 ≤ _), (by decide : 0 + 0 ≤ _)⟩)
  dsimp only [Pt.U, Pt.locs, Pt.cells, Pt.slots] at X102 l102 y102 z102 st102 hQ102
  subst l102 y102 z102
  obtain ⟨rfl, N102q, hh102⟩ := hQ102
  have N102 := Fr.app N101 N102q
  obtain ⟨T103, X103, e103, st103⟩ := gG X102 hx hZ hown (wq hw 88 rfl) hh102 Fw (g := (mkF m 42 #[vR c1, vI u1, vI (0 : Int32)] [(.ref c1)])) rfl rfl (hb hby dc11_42)
  obtain ⟨cl104, Ar104, q104, S104, N104_, H104, G104⟩ := id Vd
  have hin104 : ¬ ((0 : Int32) < 0 ∨ cl104.slots.size ≤ ((0 : Int32)).toNatClampNeg) := inb_of S104 ⟨by decide, by decide⟩
  have hat104 : cl104.slots[((0 : Int32)).toNatClampNeg]? = some (.long m0) := H104.at hin104 rfl
  obtain ⟨cl105, Ar105, q105, S105, N105_, H105, G105⟩ := id Vd
  have hin105 : ¬ ((0 : Int32) < 0 ∨ cl105.slots.size ≤ ((0 : Int32)).toNatClampNeg) := inb_of S105 ⟨by decide, by decide⟩
  obtain ⟨T106, h106, X106, e106, W106, st106⟩ := stJ X103 hx hZ e103 Ar105 (j := (0 : Int32)) hin105 (g := (mkF m 52 #[vR c1, vI u1, vI (0 : Int32)] [(.long (m0 ||| (own_bt u1))), (.int (0 : Int32)), (.ref d1)])) rfl rfl (hb hby dc11_52)
  have V106 : Arv Z h106 d1 kd .long (1 : Int32) [(.long (m0 ||| (own_bt u1)))] (.long (0 : Int64)) := Arv.set Ar105 q105 S105 N105_ H105 G105 rfl W106 0 rfl (Nat.le_of_ble_eq_true rfl)
  have N106 := Fr.snoc X106 N102 gd
  have O107 : Old Z n0 h106 := (O0.wr W106 gd)
  have f109 := (Ec.wr W106)
  obtain ⟨cq108, q108, q108'⟩ := Exa.cell f109
  obtain ⟨_, _, ⟨T108, L108, k108, n108⟩, -, X108, ⟨Lc108, hQ108, l108, y108, z108⟩, st108⟩ := X106.privateBack hx (y := y_6) hown (mvT hZ (wq hw 105 rfl)) (mvT hZ (wq hw 106 rfl)) (mvT hZ (wq hw 108 rfl)) (Cond.privateMethod_at (mvP hZ (wq hw 107 rfl) (args := #[]))) (mvT hZ (wq hw 109 rfl)) (by decide) (backOf (W := 0) (rmCk l Z a0 hw [] c1 h106 n0 O107 SB) hZ (wq hw 109 rfl) (wq hw 71 rfl) (by decide) (by decide)) (g := (mkF m 54 #[vR c1, vI u1, vI (0 : Int32)] [(.ref c1)])) rfl (by rw [hml]; rfl) (Steps.refl _) (a := c1) (by rw [e106]; exact q108) q108' (argsL := []) (rest := []) (lenOf pd_4 rfl) rfl (by show 2 * 0 + _ ≤ _; exact Nat.le_of_eq rfl) (hb hby dc11_54) (fun _ _ => ⟨rfl, e106, (by decide : 0 + 0 ≤ _), (by decide : 0 + 0 ≤ _)⟩)
  dsimp only [Pt.U, Pt.locs, Pt.cells, Pt.slots] at X108 l108 y108 z108 st108 hQ108
  subst l108 y108 z108
  obtain ⟨rfl, N108q, hh108⟩ := hQ108
  have N108 := Fr.app N106 N108q
  obtain ⟨fs, hr, hrun, hended, hW, hsame⟩ := X108.leave (v := none) (fun _ => rfl)
  have K110 : Keep h0 h106 [c1, d1] := (Keep.wr (Keep.refl h0 [c1, d1]) W106 (Or.inl (List.mem_of_getElem? (i := 1) rfl)))
  have f111 := (Fw.other W106 (Or.inl necd))
  have f112 := (Fs.other W106 (Or.inl necd))
  have f113 := (Fu.other W106 (Or.inl necd))
  refine ⟨_, _, pre0 _ ?_, hrun, hended, _, _, rfl, ?_, ⟨_, rfl⟩, hW, hsame.mono (by decide) (by decide)⟩
  · skip
    show Steps p.tables e below (s₁.setTop (mkF m 0 #[vR c1, vI u1, .unset] [])) _
    refine XS.iloadN X0.here hx rfl (hb hby dc11_0) rfl ?_
    refine XS.ifYes X0.here hx rfl (pc0 := 1) (pc' := 31) rfl (hb hby dc11_1) rfl ((if0 _ _).trans (flt (own_ge0 hu)).2.1) (by decide) (by decide) ?_
    refine XS.iloadN X0.here hx rfl (hb hby dc11_31) rfl ?_
    show Steps p.tables e below (s₁.setTop (mkF m 32 #[vR c1, vI u1, .unset] [(.int u1)])) _
    refine st101 _ ?_
    refine XS.istoreN X101.here hx rfl (hb hby dc11_35) rfl (l' := #[vR c1, vI u1, vI (0 : Int32)]) rfl ?_
    refine XS.aloadN X101.here hx rfl (hb hby dc11_36) rfl rfl ?_
    refine XS.iloadN X101.here hx rfl (hb hby dc11_37) rfl ?_
    refine st102.trans ?_
    refine XS.aloadN X102.here hx rfl (hb hby dc11_41) rfl rfl ?_
    refine st103 _ ?_
    refine XS.iloadN X103.here hx rfl (hb hby dc11_45) rfl ?_
    jvm_step X103.here [X103.here.top, hx, (hb hby dc11_46), Value.category]
    refine X103.laload hx (j := (0 : Int32)) (v := (.long m0)) (by rw [e103]; exact Ar104.1) (State.isArrayOf_alike hZ.alike Ar104.2.1) Ar104.2.2 hin104 hat104 (g := (mkF m 47 #[vR c1, vI u1, vI (0 : Int32)] [(.int (0 : Int32)), (.ref d1), (.int (0 : Int32)), (.ref d1)])) rfl rfl (hb hby dc11_47) _ ?_
    refine XS.lconst X103.here hx rfl (hb hby dc11_48) ?_
    refine XS.iloadN X103.here hx rfl (hb hby dc11_49) rfl ?_
    show Steps p.tables e below (T103.setTop (mkF m 50 #[vR c1, vI u1, vI (0 : Int32)] [(.int u1), (.long (1 : Int64)), (.long m0), (.int (0 : Int32)), (.ref d1)])) _
    refine XS.lshl X103.here hx rfl (hb hby dc11_50) rfl ?_
    show Steps p.tables e below (T103.setTop (mkF m 51 #[vR c1, vI u1, vI (0 : Int32)] [(.long ((1 : Int64) <<< (u1 &&& 0x3f).toInt64)), (.long m0), (.int (0 : Int32)), (.ref d1)])) _
    rw [(show ((1 : Int64) <<< (u1 &&& 0x3f).toInt64) = own_bt u1 from rfl)]
    refine XS.lor X103.here hx rfl (hb hby dc11_51) rfl ?_
    refine st106 _ ?_
    refine XS.aloadN X106.here hx rfl (hb hby dc11_53) rfl rfl ?_
    refine st108.trans ?_
    exact X108.returnOut hx Bd.returns (hb hby dc11_57) hr
  · show Q_se Z c1 d1 u1 m0 (0 : Int64) h0 n0 _ T108.heap _
    rw [hh108]
    unfold Q_se
    rw [own_s0p hlt, own_s1p hlt]
    exact ⟨rfl, N108, K110, _, Or.inl rfl, gd, ⟨necd, f109, f111, f112, _, Or.inr (Or.inl ⟨f113, V106, rfl⟩)⟩⟩
theorem rmSeD1 (l : Launch) (Z : State) (a0 : Array Value) (hw : HwT a0 Z) (ws : List Jvm.Cond) (c1 d1 : Addr) (kd : ClassId) (m0 m1 : Int64) (u1 : Int32) (h0 : Heap) (n0 : Nat) (O0 : Old Z n0 h0) (Ec : Exa Z h0 c1 sB) (Fw : Fld Z h0 c1 sB "words" "[J" (.ref d1)) (Fs : Fld Z h0 c1 sB "sizeIsSticky" "Z" (.int (0 : Int32))) (Fu : Fld Z h0 c1 sB "wordsInUse" "I" (.int (2 : Int32))) (Vd : Arv Z h0 d1 kd .long (2 : Int32) [(.long m0), (.long m1)] (.long (0 : Int64))) (necd : c1 ≠ d1) (gc : n0 ≤ c1) (gd : n0 ≤ d1) (hm1 : ¬ m1 = 0) (hu : own_r u1) (hlt : u1 < (64 : Int32)) (SB : Sta Z Z.heap sB "$assertionsDisabled" "Z" (.int (1 : Int32))) :
    Mt l Z y_11 jdk_92_method_19_code 3 none ws ({ frames := 2, cells := 0, slots := 0, locals := 28 } : Room) #[(.ref c1), (.int u1)] h0 (Q_se Z c1 d1 u1 m0 m1 h0 n0) := by
  refine MetFree.of_bodySF (plainFor_of_name pn_1) hisR ?_
  intro p e s m args below meth c s₁ Bd hml0 hP hK
  obtain ⟨rfl, hZ, hh⟩ := hP
  have hx := Bd.exec
  have hby := Bd.bytes
  have hml : c.maxLocals = 3 := hml0
  have hown : s.vm.findClass sB = some m.cls := findClass_of_methodNamed Bd.named
  have hnm := (name_of_methodNamed Bd.named Bd.method).1
  have X0 : Stand p l e ({ frames := 2, cells := 0, slots := 0, locals := 28 } : Room) s m #[(.ref c1), (.int u1)] below meth c s₁ [] 0 0 := Stand.of_body Bd
  have e0 : s₁.heap = h0 := by rw [← hh, Bd.state]; rfl
  have N0 := Fr.nil n0
  have pre0 := fun t (k : Steps p.tables e below (s₁.setTop _) t) => castTop (ef_5 m c1 u1) k
  obtain ⟨_, _, ⟨T101, L101, k101, n101⟩, -, X101, ⟨Lc101, hQ101, l101, y101, z101⟩, st101⟩ := Jvm.LawKit.callS X0 hx (y := y_3) hown (mvT hZ (wq hw 85 rfl)) (mvT hZ (wq hw 86 rfl)) (mvT hZ (wq hw 71 rfl)) (mvT hZ (wq hw 87 rfl)) (by decide) (backOf (W := 0) (rmWi l Z a0 hw [] u1 (0 : Int32) h0 n0 O0 (own_w0 hu hlt)) hZ (wq hw 87 rfl) (wq hw 71 rfl) (by decide) (by decide)) (g := (mkF m 32 #[vR c1, vI u1, .unset] [(.int u1)])) rfl (by rw [hml]; rfl) (argsL := [(.int u1)]) (rest := []) (lenOf pd_0 rfl) rfl (by show 2 * 0 + _ ≤ _; exact Nat.le_of_eq rfl) (hb hby dc11_32) (fun _ _ => ⟨rfl, e0, (by decide : 0 + 0 ≤ _), (by decide : 0 + 0 ≤ _)⟩)
  dsimp only [Pt.U, Pt.locs, Pt.cells, Pt.slots] at X101 l101 y101 z101 st101 hQ101
  subst l101 y101 z101
  obtain ⟨rfl, N101q, hh101⟩ := hQ101
  have N101 := Fr.app N0 N101q
  obtain ⟨cq102, q102, q102'⟩ := Exa.cell Ec
  obtain ⟨_, _, ⟨T102, L102, k102, n102⟩, -, X102, ⟨Lc102, hQ102, l102, y102, z102⟩, st102⟩ := X101.privateBack hx (y := y_10) hown (mvT hZ (wq hw 95 rfl)) (mvT hZ (wq hw 96 rfl)) (mvT hZ (wq hw 98 rfl)) (Cond.privateMethod_at (mvP hZ (wq hw 97 rfl) (args := #[]))) (mvT hZ (wq hw 99 rfl)) (by decide) (backOf (W := 0) (rmExD0 l Z a0 hw [] c1 d1 kd m0 m1 h0 n0 O0 Ec Fw Fs Fu Vd necd gc gd) hZ (wq hw 99 rfl) (wq hw 71 rfl) (by decide) (by decide)) (g := (mkF m 38 #[vR c1, vI u1, vI (0 : Int32)] [(.int (0 : Int32)), (.ref c1)])) rfl (by rw [hml]; rfl) (Steps.refl _) (a := c1) (by rw [hh101]; exact q102) q102' (argsL := [(.int (0 : Int32))]) (rest := []) (lenOf pd_3 rfl) rfl (by show 2 * 0 + _ ≤ _; exact Nat.le_of_eq rfl) (hb hby dc11_38) (fun _ _ => ⟨rfl, hh101, (by decide : 0 + 0 ≤ _), (by decide : 0 + 0 ≤ _)⟩)
  dsimp only [Pt.U, Pt.locs, Pt.cells, Pt.slots] at X102 l102 y102 z102 st102 hQ102
  subst l102 y102 z102
  obtain ⟨rfl, N102q, hh102⟩ := hQ102
  have N102 := Fr.app N101 N102q
  obtain ⟨T103, X103, e103, st103⟩ := gG X102 hx hZ hown (wq hw 88 rfl) hh102 Fw (g := (mkF m 42 #[vR c1, vI u1, vI (0 : Int32)] [(.ref c1)])) rfl rfl (hb hby dc11_42)
  obtain ⟨cl104, Ar104, q104, S104, N104_, H104, G104⟩ := id Vd
  have hin104 : ¬ ((0 : Int32) < 0 ∨ cl104.slots.size ≤ ((0 : Int32)).toNatClampNeg) := inb_of S104 ⟨by decide, by decide⟩
  have hat104 : cl104.slots[((0 : Int32)).toNatClampNeg]? = some (.long m0) := H104.at hin104 rfl
  obtain ⟨cl105, Ar105, q105, S105, N105_, H105, G105⟩ := id Vd
  have hin105 : ¬ ((0 : Int32) < 0 ∨ cl105.slots.size ≤ ((0 : Int32)).toNatClampNeg) := inb_of S105 ⟨by decide, by decide⟩
  obtain ⟨T106, h106, X106, e106, W106, st106⟩ := stJ X103 hx hZ e103 Ar105 (j := (0 : Int32)) hin105 (g := (mkF m 52 #[vR c1, vI u1, vI (0 : Int32)] [(.long (m0 ||| (own_bt u1))), (.int (0 : Int32)), (.ref d1)])) rfl rfl (hb hby dc11_52)
  have V106 : Arv Z h106 d1 kd .long (2 : Int32) [(.long (m0 ||| (own_bt u1))), (.long m1)] (.long (0 : Int64)) := Arv.set Ar105 q105 S105 N105_ H105 G105 rfl W106 0 rfl (Nat.le_of_ble_eq_true rfl)
  have N106 := Fr.snoc X106 N102 gd
  have O107 : Old Z n0 h106 := (O0.wr W106 gd)
  have f109 := (Ec.wr W106)
  obtain ⟨cq108, q108, q108'⟩ := Exa.cell f109
  obtain ⟨_, _, ⟨T108, L108, k108, n108⟩, -, X108, ⟨Lc108, hQ108, l108, y108, z108⟩, st108⟩ := X106.privateBack hx (y := y_6) hown (mvT hZ (wq hw 105 rfl)) (mvT hZ (wq hw 106 rfl)) (mvT hZ (wq hw 108 rfl)) (Cond.privateMethod_at (mvP hZ (wq hw 107 rfl) (args := #[]))) (mvT hZ (wq hw 109 rfl)) (by decide) (backOf (W := 0) (rmCk l Z a0 hw [] c1 h106 n0 O107 SB) hZ (wq hw 109 rfl) (wq hw 71 rfl) (by decide) (by decide)) (g := (mkF m 54 #[vR c1, vI u1, vI (0 : Int32)] [(.ref c1)])) rfl (by rw [hml]; rfl) (Steps.refl _) (a := c1) (by rw [e106]; exact q108) q108' (argsL := []) (rest := []) (lenOf pd_4 rfl) rfl (by show 2 * 0 + _ ≤ _; exact Nat.le_of_eq rfl) (hb hby dc11_54) (fun _ _ => ⟨rfl, e106, (by decide : 0 + 0 ≤ _), (by decide : 0 + 0 ≤ _)⟩)
  dsimp only [Pt.U, Pt.locs, Pt.cells, Pt.slots] at X108 l108 y108 z108 st108 hQ108
  subst l108 y108 z108
  obtain ⟨rfl, N108q, hh108⟩ := hQ108
  have N108 := Fr.app N106 N108q
  obtain ⟨fs, hr, hrun, hended, hW, hsame⟩ := X108.leave (v := none) (fun _ => rfl)
  have K110 : Keep h0 h106 [c1, d1] := (Keep.wr (Keep.refl h0 [c1, d1]) W106 (Or.inl (List.mem_of_getElem? (i := 1) rfl)))
  have f111 := (Fw.other W106 (Or.inl necd))
  have f112 := (Fs.other W106 (Or.inl necd))
  have f113 := (Fu.other W106 (Or.inl necd))
  refine ⟨_, _, pre0 _ ?_, hrun, hended, _, _, rfl, ?_, ⟨_, rfl⟩, hW, hsame.mono (by decide) (by decide)⟩
  · skip
    show Steps p.tables e below (s₁.setTop (mkF m 0 #[vR c1, vI u1, .unset] [])) _
    refine XS.iloadN X0.here hx rfl (hb hby dc11_0) rfl ?_
    refine XS.ifYes X0.here hx rfl (pc0 := 1) (pc' := 31) rfl (hb hby dc11_1) rfl ((if0 _ _).trans (flt (own_ge0 hu)).2.1) (by decide) (by decide) ?_
    refine XS.iloadN X0.here hx rfl (hb hby dc11_31) rfl ?_
    show Steps p.tables e below (s₁.setTop (mkF m 32 #[vR c1, vI u1, .unset] [(.int u1)])) _
    refine st101 _ ?_
    refine XS.istoreN X101.here hx rfl (hb hby dc11_35) rfl (l' := #[vR c1, vI u1, vI (0 : Int32)]) rfl ?_
    refine XS.aloadN X101.here hx rfl (hb hby dc11_36) rfl rfl ?_
    refine XS.iloadN X101.here hx rfl (hb hby dc11_37) rfl ?_
    refine st102.trans ?_
    refine XS.aloadN X102.here hx rfl (hb hby dc11_41) rfl rfl ?_
    refine st103 _ ?_
    refine XS.iloadN X103.here hx rfl (hb hby dc11_45) rfl ?_
    jvm_step X103.here [X103.here.top, hx, (hb hby dc11_46), Value.category]
    refine X103.laload hx (j := (0 : Int32)) (v := (.long m0)) (by rw [e103]; exact Ar104.1) (State.isArrayOf_alike hZ.alike Ar104.2.1) Ar104.2.2 hin104 hat104 (g := (mkF m 47 #[vR c1, vI u1, vI (0 : Int32)] [(.int (0 : Int32)), (.ref d1), (.int (0 : Int32)), (.ref d1)])) rfl rfl (hb hby dc11_47) _ ?_
    refine XS.lconst X103.here hx rfl (hb hby dc11_48) ?_
    refine XS.iloadN X103.here hx rfl (hb hby dc11_49) rfl ?_
    show Steps p.tables e below (T103.setTop (mkF m 50 #[vR c1, vI u1, vI (0 : Int32)] [(.int u1), (.long (1 : Int64)), (.long m0), (.int (0 : Int32)), (.ref d1)])) _
    refine XS.lshl X103.here hx rfl (hb hby dc11_50) rfl ?_
    show Steps p.tables e below (T103.setTop (mkF m 51 #[vR c1, vI u1, vI (0 : Int32)] [(.long ((1 : Int64) <<< (u1 &&& 0x3f).toInt64)), (.long m0), (.int (0 : Int32)), (.ref d1)])) _
    rw [(show ((1 : Int64) <<< (u1 &&& 0x3f).toInt64) = own_bt u1 from rfl)]
    refine XS.lor X103.here hx rfl (hb hby dc11_51) rfl ?_
    refine st106 _ ?_
    refine XS.aloadN X106.here hx rfl (hb hby dc11_53) rfl rfl ?_
    refine st108.trans ?_
    exact X108.returnOut hx Bd.returns (hb hby dc11_57) hr
  · show Q_se Z c1 d1 u1 m0 m1 h0 n0 _ T108.heap _
    rw [hh108]
    unfold Q_se
    rw [own_s0p hlt, own_s1p hlt]
    exact ⟨rfl, N108, K110, _, Or.inl rfl, gd, ⟨necd, f109, f111, f112, _, Or.inr (Or.inr (Or.inr (⟨f113, V106, hm1⟩)))⟩⟩
theorem rmSeA0 (l : Launch) (Z : State) (a0 : Array Value) (hw : HwT a0 Z) (ws : List Jvm.Cond) (c1 d1 : Addr) (kd : ClassId) (m0 m1 : Int64) (u1 : Int32) (h0 : Heap) (n0 : Nat) (O0 : Old Z n0 h0) (Ec : Exa Z h0 c1 sB) (Fw : Fld Z h0 c1 sB "words" "[J" (.ref d1)) (Fs : Fld Z h0 c1 sB "sizeIsSticky" "Z" (.int (0 : Int32))) (Fu : Fld Z h0 c1 sB "wordsInUse" "I" (.int (0 : Int32))) (Vd : Arv Z h0 d1 kd .long (1 : Int32) [(.long (0 : Int64))] (.long (0 : Int64))) (necd : c1 ≠ d1) (gc : n0 ≤ c1) (gd : n0 ≤ d1) (hu : own_r u1) (hlt : ¬ u1 < (64 : Int32)) (SB : Sta Z Z.heap sB "$assertionsDisabled" "Z" (.int (1 : Int32))) :
    Mt l Z y_11 jdk_92_method_19_code 3 none ws ({ frames := 4, cells := 1, slots := 2, locals := 61 } : Room) #[(.ref c1), (.int u1)] h0 (Q_se Z c1 d1 u1 (0 : Int64) (0 : Int64) h0 n0) := by
  refine MetFree.of_bodySF (plainFor_of_name pn_1) hisR ?_
  intro p e s m args below meth c s₁ Bd hml0 hP hK
  obtain ⟨rfl, hZ, hh⟩ := hP
  have hx := Bd.exec
  have hby := Bd.bytes
  have hml : c.maxLocals = 3 := hml0
  have hown : s.vm.findClass sB = some m.cls := findClass_of_methodNamed Bd.named
  have hnm := (name_of_methodNamed Bd.named Bd.method).1
  have X0 : Stand p l e ({ frames := 4, cells := 1, slots := 2, locals := 61 } : Room) s m #[(.ref c1), (.int u1)] below meth c s₁ [] 0 0 := Stand.of_body Bd
  have e0 : s₁.heap = h0 := by rw [← hh, Bd.state]; rfl
  have N0 := Fr.nil n0
  have pre0 := fun t (k : Steps p.tables e below (s₁.setTop _) t) => castTop (ef_5 m c1 u1) k
  obtain ⟨_, _, ⟨T101, L101, k101, n101⟩, -, X101, ⟨Lc101, hQ101, l101, y101, z101⟩, st101⟩ := Jvm.LawKit.callS X0 hx (y := y_3) hown (mvT hZ (wq hw 85 rfl)) (mvT hZ (wq hw 86 rfl)) (mvT hZ (wq hw 71 rfl)) (mvT hZ (wq hw 87 rfl)) (by decide) (backOf (W := 0) (rmWi l Z a0 hw [] u1 (1 : Int32) h0 n0 O0 (own_w1 hu hlt)) hZ (wq hw 87 rfl) (wq hw 71 rfl) (by decide) (by decide)) (g := (mkF m 32 #[vR c1, vI u1, .unset] [(.int u1)])) rfl (by rw [hml]; rfl) (argsL := [(.int u1)]) (rest := []) (lenOf pd_0 rfl) rfl (by show 2 * 0 + _ ≤ _; exact Nat.le_of_eq rfl) (hb hby dc11_32) (fun _ _ => ⟨rfl, e0, (by decide : 0 + 0 ≤ _), (by decide : 0 + 0 ≤ _)⟩)
  dsimp only [Pt.U, Pt.locs, Pt.cells, Pt.slots] at X101 l101 y101 z101 st101 hQ101
  subst l101 y101 z101
  obtain ⟨rfl, N101q, hh101⟩ := hQ101
  have N101 := Fr.app N0 N101q
  obtain ⟨cq102, q102, q102'⟩ := Exa.cell Ec
  obtain ⟨_, _, ⟨T102, L102, k102, n102⟩, -, X102, ⟨Lc102, hQ102, l102, y102, z102⟩, st102⟩ := X101.privateBack hx (y := y_10) hown (mvT hZ (wq hw 95 rfl)) (mvT hZ (wq hw 96 rfl)) (mvT hZ (wq hw 98 rfl)) (Cond.privateMethod_at (mvP hZ (wq hw 97 rfl) (args := #[]))) (mvT hZ (wq hw 99 rfl)) (by decide) (backOf (W := 0) (rmExA1 l Z a0 hw [] c1 d1 kd (0 : Int64) (0 : Int64) h0 n0 O0 Ec Fw Fs Fu Vd necd gc gd) hZ (wq hw 99 rfl) (wq hw 71 rfl) (by decide) (by decide)) (g := (mkF m 38 #[vR c1, vI u1, vI (1 : Int32)] [(.int (1 : Int32)), (.ref c1)])) rfl (by rw [hml]; rfl) (Steps.refl _) (a := c1) (by rw [hh101]; exact q102) q102' (argsL := [(.int (1 : Int32))]) (rest := []) (lenOf pd_3 rfl) rfl (by show 2 * 0 + _ ≤ _; exact Nat.le_of_eq rfl) (hb hby dc11_38) (fun _ _ => ⟨rfl, hh101, (by decide : 0 + 1 ≤ _), (by decide : 0 + 2 ≤ _)⟩)
  dsimp only [Pt.U, Pt.locs, Pt.cells, Pt.slots] at X102 l102 y102 z102 st102 hQ102
  subst l102 y102 z102
  obtain ⟨b102, kb102, rfl, N102q, gb102, sz102, K102, Ec102, Fw102, Fs102, Fu102, V102⟩ := hQ102
  have N102 := Fr.app N101 N102q
  have ne102_c1 : c1 ≠ b102 := Nat.ne_of_lt (Nat.lt_of_lt_of_le (Ec).lt sz102)
  have ne102_d1 : d1 ≠ b102 := Nat.ne_of_lt (Nat.lt_of_lt_of_le (Vd).lt sz102)
  have sz0102 : h0.size ≤ b102 := Nat.le_trans ((Keep.refl h0 [c1, d1])).1 sz102
  obtain ⟨T103, X103, e103, st103⟩ := gG X102 hx hZ hown (wq hw 88 rfl) rfl Fw102 (g := (mkF m 42 #[vR c1, vI u1, vI (1 : Int32)] [(.ref c1)])) rfl rfl (hb hby dc11_42)
  obtain ⟨cl104, Ar104, q104, S104, N104_, H104, G104⟩ := id V102
  have hin104 : ¬ ((1 : Int32) < 0 ∨ cl104.slots.size ≤ ((1 : Int32)).toNatClampNeg) := inb_of S104 ⟨by decide, by decide⟩
  have hat104 : cl104.slots[((1 : Int32)).toNatClampNeg]? = some (.long (0 : Int64)) := H104.at hin104 rfl
  obtain ⟨cl105, Ar105, q105, S105, N105_, H105, G105⟩ := id V102
  have hin105 : ¬ ((1 : Int32) < 0 ∨ cl105.slots.size ≤ ((1 : Int32)).toNatClampNeg) := inb_of S105 ⟨by decide, by decide⟩
  obtain ⟨T106, h106, X106, e106, W106, st106⟩ := stJ X103 hx hZ e103 Ar105 (j := (1 : Int32)) hin105 (g := (mkF m 52 #[vR c1, vI u1, vI (1 : Int32)] [(.long ((0 : Int64) ||| (own_bt u1))), (.int (1 : Int32)), (.ref b102)])) rfl rfl (hb hby dc11_52)
  have V106 : Arv Z h106 b102 kb102 .long (2 : Int32) [(.long (0 : Int64)), (.long ((0 : Int64) ||| (own_bt u1)))] (.long (0 : Int64)) := Arv.set Ar105 q105 S105 N105_ H105 G105 rfl W106 1 rfl (Nat.le_of_ble_eq_true rfl)
  have N106 := Fr.snoc X106 N102 gb102
  have O107 : Old Z n0 h106 := ((O0.keep K102 (allS gc all0)).wr W106 gb102)
  have f109 := (Ec102.wr W106)
  obtain ⟨cq108, q108, q108'⟩ := Exa.cell f109
  obtain ⟨_, _, ⟨T108, L108, k108, n108⟩, -, X108, ⟨Lc108, hQ108, l108, y108, z108⟩, st108⟩ := X106.privateBack hx (y := y_6) hown (mvT hZ (wq hw 105 rfl)) (mvT hZ (wq hw 106 rfl)) (mvT hZ (wq hw 108 rfl)) (Cond.privateMethod_at (mvP hZ (wq hw 107 rfl) (args := #[]))) (mvT hZ (wq hw 109 rfl)) (by decide) (backOf (W := 0) (rmCk l Z a0 hw [] c1 h106 n0 O107 SB) hZ (wq hw 109 rfl) (wq hw 71 rfl) (by decide) (by decide)) (g := (mkF m 54 #[vR c1, vI u1, vI (1 : Int32)] [(.ref c1)])) rfl (by rw [hml]; rfl) (Steps.refl _) (a := c1) (by rw [e106]; exact q108) q108' (argsL := []) (rest := []) (lenOf pd_4 rfl) rfl (by show 2 * 0 + _ ≤ _; exact Nat.le_of_eq rfl) (hb hby dc11_54) (fun _ _ => ⟨rfl, e106, (by decide : 1 + 0 ≤ _), (by decide : 2 + 0 ≤ _)⟩)
  dsimp only [Pt.U, Pt.locs, Pt.cells, Pt.slots] at X108 l108 y108 z108 st108 hQ108
  subst l108 y108 z108
  obtain ⟨rfl, N108q, hh108⟩ := hQ108
  have N108 := Fr.app N106 N108q
  obtain ⟨fs, hr, hrun, hended, hW, hsame⟩ := X108.leave (v := none) (fun _ => rfl)
  have K110 : Keep h0 h106 [c1, d1] := (Keep.wr (Keep.trans (Keep.refl h0 [c1, d1]) K102 (allS (P := fun x => x ∈ [c1, d1] ∨ h0.size ≤ x) (Or.inl (List.mem_of_getElem? (i := 0) rfl)) all0)) W106 (Or.inr sz0102))
  have f111 := (Fw102.other W106 (Or.inl ne102_c1))
  have f112 := (Fs102.other W106 (Or.inl ne102_c1))
  have f113 := (Fu102.other W106 (Or.inl ne102_c1))
  refine ⟨_, _, pre0 _ ?_, hrun, hended, _, _, rfl, ?_, ⟨_, rfl⟩, hW, hsame.mono (by decide) (by decide)⟩
  · skip
    show Steps p.tables e below (s₁.setTop (mkF m 0 #[vR c1, vI u1, .unset] [])) _
    refine XS.iloadN X0.here hx rfl (hb hby dc11_0) rfl ?_
    refine XS.ifYes X0.here hx rfl (pc0 := 1) (pc' := 31) rfl (hb hby dc11_1) rfl ((if0 _ _).trans (flt (own_ge0 hu)).2.1) (by decide) (by decide) ?_
    refine XS.iloadN X0.here hx rfl (hb hby dc11_31) rfl ?_
    show Steps p.tables e below (s₁.setTop (mkF m 32 #[vR c1, vI u1, .unset] [(.int u1)])) _
    refine st101 _ ?_
    refine XS.istoreN X101.here hx rfl (hb hby dc11_35) rfl (l' := #[vR c1, vI u1, vI (1 : Int32)]) rfl ?_
    refine XS.aloadN X101.here hx rfl (hb hby dc11_36) rfl rfl ?_
    refine XS.iloadN X101.here hx rfl (hb hby dc11_37) rfl ?_
    refine st102.trans ?_
    refine XS.aloadN X102.here hx rfl (hb hby dc11_41) rfl rfl ?_
    refine st103 _ ?_
    refine XS.iloadN X103.here hx rfl (hb hby dc11_45) rfl ?_
    jvm_step X103.here [X103.here.top, hx, (hb hby dc11_46), Value.category]
    refine X103.laload hx (j := (1 : Int32)) (v := (.long (0 : Int64))) (by rw [e103]; exact Ar104.1) (State.isArrayOf_alike hZ.alike Ar104.2.1) Ar104.2.2 hin104 hat104 (g := (mkF m 47 #[vR c1, vI u1, vI (1 : Int32)] [(.int (1 : Int32)), (.ref b102), (.int (1 : Int32)), (.ref b102)])) rfl rfl (hb hby dc11_47) _ ?_
    refine XS.lconst X103.here hx rfl (hb hby dc11_48) ?_
    refine XS.iloadN X103.here hx rfl (hb hby dc11_49) rfl ?_
    show Steps p.tables e below (T103.setTop (mkF m 50 #[vR c1, vI u1, vI (1 : Int32)] [(.int u1), (.long (1 : Int64)), (.long (0 : Int64)), (.int (1 : Int32)), (.ref b102)])) _
    refine XS.lshl X103.here hx rfl (hb hby dc11_50) rfl ?_
    show Steps p.tables e below (T103.setTop (mkF m 51 #[vR c1, vI u1, vI (1 : Int32)] [(.long ((1 : Int64) <<< (u1 &&& 0x3f).toInt64)), (.long (0 : Int64)), (.int (1 : Int32)), (.ref b102)])) _
    rw [(show ((1 : Int64) <<< (u1 &&& 0x3f).toInt64) = own_bt u1 from rfl)]
    refine XS.lor X103.here hx rfl (hb hby dc11_51) rfl ?_
    refine st106 _ ?_
    refine XS.aloadN X106.here hx rfl (hb hby dc11_53) rfl rfl ?_
    refine st108.trans ?_
    exact X108.returnOut hx Bd.returns (hb hby dc11_57) hr
  · show Q_se Z c1 d1 u1 (0 : Int64) (0 : Int64) h0 n0 _ T108.heap _
    rw [hh108]
    unfold Q_se
    rw [own_s0n hlt, own_s1n hlt]
    exact ⟨rfl, N108, K110, _, Or.inr sz0102, gb102, ⟨ne102_c1, f109, f111, f112, _, Or.inr (Or.inr (Or.inr (⟨f113, V106, own_or_ne hu⟩)))⟩⟩
theorem rmSeB0 (l : Launch) (Z : State) (a0 : Array Value) (hw : HwT a0 Z) (ws : List Jvm.Cond) (c1 d1 : Addr) (kd : ClassId) (m0 m1 : Int64) (u1 : Int32) (h0 : Heap) (n0 : Nat) (O0 : Old Z n0 h0) (Ec : Exa Z h0 c1 sB) (Fw : Fld Z h0 c1 sB "words" "[J" (.ref d1)) (Fs : Fld Z h0 c1 sB "sizeIsSticky" "Z" (.int (0 : Int32))) (Fu : Fld Z h0 c1 sB "wordsInUse" "I" (.int (1 : Int32))) (Vd : Arv Z h0 d1 kd .long (1 : Int32) [(.long m0)] (.long (0 : Int64))) (necd : c1 ≠ d1) (gc : n0 ≤ c1) (gd : n0 ≤ d1) (hu : own_r u1) (hlt : ¬ u1 < (64 : Int32)) (SB : Sta Z Z.heap sB "$assertionsDisabled" "Z" (.int (1 : Int32))) :
    Mt l Z y_11 jdk_92_method_19_code 3 none ws ({ frames := 4, cells := 1, slots := 2, locals := 61 } : Room) #[(.ref c1), (.int u1)] h0 (Q_se Z c1 d1 u1 m0 (0 : Int64) h0 n0) := by
  refine MetFree.of_bodySF (plainFor_of_name pn_1) hisR ?_
  intro p e s m args below meth c s₁ Bd hml0 hP hK
  obtain ⟨rfl, hZ, hh⟩ := hP
  have hx := Bd.exec
  have hby := Bd.bytes
  have hml : c.maxLocals = 3 := hml0
  have hown : s.vm.findClass sB = some m.cls := findClass_of_methodNamed Bd.named
  have hnm := (name_of_methodNamed Bd.named Bd.method).1
  have X0 : Stand p l e ({ frames := 4, cells := 1, slots := 2, locals := 61 } : Room) s m #[(.ref c1), (.int u1)] below meth c s₁ [] 0 0 := Stand.of_body Bd
  have e0 : s₁.heap = h0 := by rw [← hh, Bd.state]; rfl
  have N0 := Fr.nil n0
  have pre0 := fun t (k : Steps p.tables e below (s₁.setTop _) t) => castTop (ef_5 m c1 u1) k
  obtain ⟨_, _, ⟨T101, L101, k101, n101⟩, -, X101, ⟨Lc101, hQ101, l101, y101, z101⟩, st101⟩ := Jvm.LawKit.callS X0 hx (y := y_3) hown (mvT hZ (wq hw 85 rfl)) (mvT hZ (wq hw 86 rfl)) (mvT hZ (wq hw 71 rfl)) (mvT hZ (wq hw 87 rfl)) (by decide) (backOf (W := 0) (rmWi l Z a0 hw [] u1 (1 : Int32) h0 n0 O0 (own_w1 hu hlt)) hZ (wq hw 87 rfl) (wq hw 71 rfl) (by decide) (by decide)) (g := (mkF m 32 #[vR c1, vI u1, .unset] [(.int u1)])) rfl (by rw [hml]; rfl) (argsL := [(.int u1)]) (rest := []) (lenOf pd_0 rfl) rfl (by show 2 * 0 + _ ≤ _; exact Nat.le_of_eq rfl) (hb hby dc11_32) (fun _ _ => ⟨rfl, e0, (by decide : 0 + 0 ≤ _), (by decide : 0 + 0 ≤ _)⟩)
  dsimp only [Pt.U, Pt.locs, Pt.cells, Pt.slots] at X101 l101 y101 z101 st101 hQ101
  subst l101 y101 z101
  obtain ⟨rfl, N101q, hh101⟩ := hQ101
  have N101 := Fr.app N0 N101q
  obtain ⟨cq102, q102, q102'⟩ := Exa.cell Ec
  obtain ⟨_, _, ⟨T102, L102, k102, n102⟩, -, X102, ⟨Lc102, hQ102, l102, y102, z102⟩, st102⟩ := X101.privateBack hx (y := y_10) hown (mvT hZ (wq hw 95 rfl)) (mvT hZ (wq hw 96 rfl)) (mvT hZ (wq hw 98 rfl)) (Cond.privateMethod_at (mvP hZ (wq hw 97 rfl) (args := #[]))) (mvT hZ (wq hw 99 rfl)) (by decide) (backOf (W := 0) (rmExB1 l Z a0 hw [] c1 d1 kd m0 (0 : Int64) h0 n0 O0 Ec Fw Fs Fu Vd necd gc gd) hZ (wq hw 99 rfl) (wq hw 71 rfl) (by decide) (by decide)) (g := (mkF m 38 #[vR c1, vI u1, vI (1 : Int32)] [(.int (1 : Int32)), (.ref c1)])) rfl (by rw [hml]; rfl) (Steps.refl _) (a := c1) (by rw [hh101]; exact q102) q102' (argsL := [(.int (1 : Int32))]) (rest := []) (lenOf pd_3 rfl) rfl (by show 2 * 0 + _ ≤ _; exact Nat.le_of_eq rfl) (hb hby dc11_38) (fun _ _ => ⟨rfl, hh101, (by decide : 0 + 1 ≤ _), (by decide : 0 + 2 ≤ _)⟩)
  dsimp only [Pt.U, Pt.locs, Pt.cells, Pt.slots] at X102 l102 y102 z102 st102 hQ102
  subst l102 y102 z102
  obtain ⟨b102, kb102, rfl, N102q, gb102, sz102, K102, Ec102, Fw102, Fs102, Fu102, V102⟩ := hQ102
  have N102 := Fr.app N101 N102q
  have ne102_c1 : c1 ≠ b102 := Nat.ne_of_lt (Nat.lt_of_lt_of_le (Ec).lt sz102)
  have ne102_d1 : d1 ≠ b102 := Nat.ne_of_lt (Nat.lt_of_lt_of_le (Vd).lt sz102)
  have sz0102 : h0.size ≤ b102 := Nat.le_trans ((Keep.refl h0 [c1, d1])).1 sz102
  obtain ⟨T103, X103, e103, st103⟩ := gG X102 hx hZ hown (wq hw 88 rfl) rfl Fw102 (g := (mkF m 42 #[vR c1, vI u1, vI (1 : Int32)] [(.ref c1)])) rfl rfl (hb hby dc11_42)
  obtain ⟨cl104, Ar104, q104, S104, N104_, H104, G104⟩ := id V102
  have hin104 : ¬ ((1 : Int32) < 0 ∨ cl104.slots.size ≤ ((1 : Int32)).toNatClampNeg) := inb_of S104 ⟨by decide, by decide⟩
  have hat104 : cl104.slots[((1 : Int32)).toNatClampNeg]? = some (.long (0 : Int64)) := H104.at hin104 rfl
  obtain ⟨cl105, Ar105, q105, S105, N105_, H105, G105⟩ := id V102
  have hin105 : ¬ ((1 : Int32) < 0 ∨ cl105.slots.size ≤ ((1 : Int32)).toNatClampNeg) := inb_of S105 ⟨by decide, by decide⟩
  obtain ⟨T106, h106, X106, e106, W106, st106⟩ := stJ X103 hx hZ e103 Ar105 (j := (1 : Int32)) hin105 (g := (mkF m 52 #[vR c1, vI u1, vI (1 : Int32)] [(.long ((0 : Int64) ||| (own_bt u1))), (.int (1 : Int32)), (.ref b102)])) rfl rfl (hb hby dc11_52)
  have V106 : Arv Z h106 b102 kb102 .long (2 : Int32) [(.long m0), (.long ((0 : Int64) ||| (own_bt u1)))] (.long (0 : Int64)) := Arv.set Ar105 q105 S105 N105_ H105 G105 rfl W106 1 rfl (Nat.le_of_ble_eq_true rfl)
  have N106 := Fr.snoc X106 N102 gb102
  have O107 : Old Z n0 h106 := ((O0.keep K102 (allS gc all0)).wr W106 gb102)
  have f109 := (Ec102.wr W106)
  obtain ⟨cq108, q108, q108'⟩ := Exa.cell f109
  obtain ⟨_, _, ⟨T108, L108, k108, n108⟩, -, X108, ⟨Lc108, hQ108, l108, y108, z108⟩, st108⟩ := X106.privateBack hx (y := y_6) hown (mvT hZ (wq hw 105 rfl)) (mvT hZ (wq hw 106 rfl)) (mvT hZ (wq hw 108 rfl)) (Cond.privateMethod_at (mvP hZ (wq hw 107 rfl) (args := #[]))) (mvT hZ (wq hw 109 rfl)) (by decide) (backOf (W := 0) (rmCk l Z a0 hw [] c1 h106 n0 O107 SB) hZ (wq hw 109 rfl) (wq hw 71 rfl) (by decide) (by decide)) (g := (mkF m 54 #[vR c1, vI u1, vI (1 : Int32)] [(.ref c1)])) rfl (by rw [hml]; rfl) (Steps.refl _) (a := c1) (by rw [e106]; exact q108) q108' (argsL := []) (rest := []) (lenOf pd_4 rfl) rfl (by show 2 * 0 + _ ≤ _; exact Nat.le_of_eq rfl) (hb hby dc11_54) (fun _ _ => ⟨rfl, e106, (by decide : 1 + 0 ≤ _), (by decide : 2 + 0 ≤ _)⟩)
  dsimp only [Pt.U, Pt.locs, Pt.cells, Pt.slots] at X108 l108 y108 z108 st108 hQ108
  subst l108 y108 z108
  obtain ⟨rfl, N108q, hh108⟩ := hQ108
  have N108 := Fr.app N106 N108q
  obtain ⟨fs, hr, hrun, hended, hW, hsame⟩ := X108.leave (v := none) (fun _ => rfl)
  have K110 : Keep h0 h106 [c1, d1] := (Keep.wr (Keep.trans (Keep.refl h0 [c1, d1]) K102 (allS (P := fun x => x ∈ [c1, d1] ∨ h0.size ≤ x) (Or.inl (List.mem_of_getElem? (i := 0) rfl)) all0)) W106 (Or.inr sz0102))
  have f111 := (Fw102.other W106 (Or.inl ne102_c1))
  have f112 := (Fs102.other W106 (Or.inl ne102_c1))
  have f113 := (Fu102.other W106 (Or.inl ne102_c1))
  refine ⟨_, _, pre0 _ ?_, hrun, hended, _, _, rfl, ?_, ⟨_, rfl⟩, hW, hsame.mono (by decide) (by decide)⟩
  · skip
    show Steps p.tables e below (s₁.setTop (mkF m 0 #[vR c1, vI u1, .unset] [])) _
    refine XS.iloadN X0.here hx rfl (hb hby dc11_0) rfl ?_
    refine XS.ifYes X0.here hx rfl (pc0 := 1) (pc' := 31) rfl (hb hby dc11_1) rfl ((if0 _ _).trans (flt (own_ge0 hu)).2.1) (by decide) (by decide) ?_
    refine XS.iloadN X0.here hx rfl (hb hby dc11_31) rfl ?_
    show Steps p.tables e below (s₁.setTop (mkF m 32 #[vR c1, vI u1, .unset] [(.int u1)])) _
    refine st101 _ ?_
    refine XS.istoreN X101.here hx rfl (hb hby dc11_35) rfl (l' := #[vR c1, vI u1, vI (1 : Int32)]) rfl ?_
    refine XS.aloadN X101.here hx rfl (hb hby dc11_36) rfl rfl ?_
    refine XS.iloadN X101.here hx rfl (hb hby dc11_37) rfl ?_
    refine st102.trans ?_
    refine XS.aloadN X102.here hx rfl (hb hby dc11_41) rfl rfl ?_
    refine st103 _ ?_
    refine XS.iloadN X103.here hx rfl (hb hby dc11_45) rfl ?_
    jvm_step X103.here [X103.here.top, hx, (hb hby dc11_46), Value.category]
    refine X103.laload hx (j := (1 : Int32)) (v := (.long (0 : Int64))) (by rw [e103]; exact Ar104.1) (State.isArrayOf_alike hZ.alike Ar104.2.1) Ar104.2.2 hin104 hat104 (g := (mkF m 47 #[vR c1, vI u1, vI (1 : Int32)] [(.int (1 : Int32)), (.ref b102), (.int (1 : Int32)), (.ref b102)])) rfl rfl (hb hby dc11_47) _ ?_
    refine XS.lconst X103.here hx rfl (hb hby dc11_48) ?_
    refine XS.iloadN X103.here hx rfl (hb hby dc11_49) rfl ?_
    show Steps p.tables e below (T103.setTop (mkF m 50 #[vR c1, vI u1, vI (1 : Int32)] [(.int u1), (.long (1 : Int64)), (.long (0 : Int64)), (.int (1 : Int32)), (.ref b102)])) _
    refine XS.lshl X103.here hx rfl (hb hby dc11_50) rfl ?_
    show Steps p.tables e below (T103.setTop (mkF m 51 #[vR c1, vI u1, vI (1 : Int32)] [(.long ((1 : Int64) <<< (u1 &&& 0x3f).toInt64)), (.long (0 : Int64)), (.int (1 : Int32)), (.ref b102)])) _
    rw [(show ((1 : Int64) <<< (u1 &&& 0x3f).toInt64) = own_bt u1 from rfl)]
    refine XS.lor X103.here hx rfl (hb hby dc11_51) rfl ?_
    refine st106 _ ?_
    refine XS.aloadN X106.here hx rfl (hb hby dc11_53) rfl rfl ?_
    refine st108.trans ?_
    exact X108.returnOut hx Bd.returns (hb hby dc11_57) hr
  · show Q_se Z c1 d1 u1 m0 (0 : Int64) h0 n0 _ T108.heap _
    rw [hh108]
    unfold Q_se
    rw [own_s0n hlt, own_s1n hlt]
    exact ⟨rfl, N108, K110, _, Or.inr sz0102, gb102, ⟨ne102_c1, f109, f111, f112, _, Or.inr (Or.inr (Or.inr (⟨f113, V106, own_or_ne hu⟩)))⟩⟩
theorem rmSeD0 (l : Launch) (Z : State) (a0 : Array Value) (hw : HwT a0 Z) (ws : List Jvm.Cond) (c1 d1 : Addr) (kd : ClassId) (m0 m1 : Int64) (u1 : Int32) (h0 : Heap) (n0 : Nat) (O0 : Old Z n0 h0) (Ec : Exa Z h0 c1 sB) (Fw : Fld Z h0 c1 sB "words" "[J" (.ref d1)) (Fs : Fld Z h0 c1 sB "sizeIsSticky" "Z" (.int (0 : Int32))) (Fu : Fld Z h0 c1 sB "wordsInUse" "I" (.int (2 : Int32))) (Vd : Arv Z h0 d1 kd .long (2 : Int32) [(.long m0), (.long m1)] (.long (0 : Int64))) (necd : c1 ≠ d1) (gc : n0 ≤ c1) (gd : n0 ≤ d1) (hm1 : ¬ m1 = 0) (hu : own_r u1) (hlt : ¬ u1 < (64 : Int32)) (SB : Sta Z Z.heap sB "$assertionsDisabled" "Z" (.int (1 : Int32))) :
    Mt l Z y_11 jdk_92_method_19_code 3 none ws ({ frames := 4, cells := 1, slots := 2, locals := 61 } : Room) #[(.ref c1), (.int u1)] h0 (Q_se Z c1 d1 u1 m0 m1 h0 n0) := by
  refine MetFree.of_bodySF (plainFor_of_name pn_1) hisR ?_
  intro p e s m args below meth c s₁ Bd hml0 hP hK
  obtain ⟨rfl, hZ, hh⟩ := hP
  have hx := Bd.exec
  have hby := Bd.bytes
  have hml : c.maxLocals = 3 := hml0
  have hown : s.vm.findClass sB = some m.cls := findClass_of_methodNamed Bd.named
  have hnm := (name_of_methodNamed Bd.named Bd.method).1
  have X0 : Stand p l e ({ frames := 4, cells := 1, slots := 2, locals := 61 } : Room) s m #[(.ref c1), (.int u1)] below meth c s₁ [] 0 0 := Stand.of_body Bd
  have e0 : s₁.heap = h0 := by rw [← hh, Bd.state]; rfl
  have N0 := Fr.nil n0
  have pre0 := fun t (k : Steps p.tables e below (s₁.setTop _) t) => castTop (ef_5 m c1 u1) k
  obtain ⟨_, _, ⟨T101, L101, k101, n101⟩, -, X101, ⟨Lc101, hQ101, l101, y101, z101⟩, st101⟩ := Jvm.LawKit.callS X0 hx (y := y_3) hown (mvT hZ (wq hw 85 rfl)) (mvT hZ (wq hw 86 rfl)) (mvT hZ (wq hw 71 rfl)) (mvT hZ (wq hw 87 rfl)) (by decide) (backOf (W := 0) (rmWi l Z a0 hw [] u1 (1 : Int32) h0 n0 O0 (own_w1 hu hlt)) hZ (wq hw 87 rfl) (wq hw 71 rfl) (by decide) (by decide)) (g := (mkF m 32 #[vR c1, vI u1, .unset] [(.int u1)])) rfl (by rw [hml]; rfl) (argsL := [(.int u1)]) (rest := []) (lenOf pd_0 rfl) rfl (by show 2 * 0 + _ ≤ _; exact Nat.le_of_eq rfl) (hb hby dc11_32) (fun _ _ => ⟨rfl, e0, (by decide : 0 + 0 ≤ _), (by decide : 0 + 0 ≤ _)⟩)
  dsimp only [Pt.U, Pt.locs, Pt.cells, Pt.slots] at X101 l101 y101 z101 st101 hQ101
  subst l101 y101 z101
  obtain ⟨rfl, N101q, hh101⟩ := hQ101
  have N101 := Fr.app N0 N101q
  obtain ⟨cq102, q102, q102'⟩ := Exa.cell Ec
  obtain ⟨_, _, ⟨T102, L102, k102, n102⟩, -, X102, ⟨Lc102, hQ102, l102, y102, z102⟩, st102⟩ := X101.privateBack hx (y := y_10) hown (mvT hZ (wq hw 95 rfl)) (mvT hZ (wq hw 96 rfl)) (mvT hZ (wq hw 98 rfl)) (Cond.privateMethod_at (mvP hZ (wq hw 97 rfl) (args := #[]))) (mvT hZ (wq hw 99 rfl)) (by decide) (backOf (W := 0) (rmExD1 l Z a0 hw [] c1 d1 kd m0 m1 h0 n0 O0 Ec Fw Fs Fu Vd necd gc gd) hZ (wq hw 99 rfl) (wq hw 71 rfl) (by decide) (by decide)) (g := (mkF m 38 #[vR c1, vI u1, vI (1 : Int32)] [(.int (1 : Int32)), (.ref c1)])) rfl (by rw [hml]; rfl) (Steps.refl _) (a := c1) (by rw [hh101]; exact q102) q102' (argsL := [(.int (1 : Int32))]) (rest := []) (lenOf pd_3 rfl) rfl (by show 2 * 0 + _ ≤ _; exact Nat.le_of_eq rfl) (hb hby dc11_38) (fun _ _ => ⟨rfl, hh101, (by decide : 0 + 0 ≤ _), (by decide : 0 + 0 ≤ _)⟩)
  dsimp only [Pt.U, Pt.locs, Pt.cells, Pt.slots] at X102 l102 y102 z102 st102 hQ102
  subst l102 y102 z102
  obtain ⟨rfl, N102q, hh102⟩ := hQ102
  have N102 := Fr.app N101 N102q
  obtain ⟨T103, X103, e103, st103⟩ := gG X102 hx hZ hown (wq hw 88 rfl) hh102 Fw (g := (mkF m 42 #[vR c1, vI u1, vI (1 : Int32)] [(.ref c1)])) rfl rfl (hb hby dc11_42)
  obtain ⟨cl104, Ar104, q104, S104, N104_, H104, G104⟩ := id Vd
  have hin104 : ¬ ((1 : Int32) < 0 ∨ cl104.slots.size ≤ ((1 : Int32)).toNatClampNeg) := inb_of S104 ⟨by decide, by decide⟩
  have hat104 : cl104.slots[((1 : Int32)).toNatClampNeg]? = some (.long m1) := H104.at hin104 rfl
  obtain ⟨cl105, Ar105, q105, S105, N105_, H105, G105⟩ := id Vd
  have hin105 : ¬ ((1 : Int32) < 0 ∨ cl105.slots.size ≤ ((1 : Int32)).toNatClampNeg) := inb_of S105 ⟨by decide, by decide⟩
  obtain ⟨T106, h106, X106, e106, W106, st106⟩ := stJ X103 hx hZ e103 Ar105 (j := (1 : Int32)) hin105 (g := (mkF m 52 #[vR c1, vI u1, vI (1 : Int32)] [(.long (m1 ||| (own_bt u1))), (.int (1 : Int32)), (.ref d1)])) rfl rfl (hb hby dc11_52)
  have V106 : Arv Z h106 d1 kd .long (2 : Int32) [(.long m0), (.long (m1 ||| (own_bt u1)))] (.long (0 : Int64)) := Arv.set Ar105 q105 S105 N105_ H105 G105 rfl W106 1 rfl (Nat.le_of_ble_eq_true rfl)
  have N106 := Fr.snoc X106 N102 gd
  have O107 : Old Z n0 h106 := (O0.wr W106 gd)
  have f109 := (Ec.wr W106)
  obtain ⟨cq108, q108, q108'⟩ := Exa.cell f109
  obtain ⟨_, _, ⟨T108, L108, k108, n108⟩, -, X108, ⟨Lc108, hQ108, l108, y108, z108⟩, st108⟩ := X106.privateBack hx (y := y_6) hown (mvT hZ (wq hw 105 rfl)) (mvT hZ (wq hw 106 rfl)) (mvT hZ (wq hw 108 rfl)) (Cond.privateMethod_at (mvP hZ (wq hw 107 rfl) (args := #[]))) (mvT hZ (wq hw 109 rfl)) (by decide) (backOf (W := 0) (rmCk l Z a0 hw [] c1 h106 n0 O107 SB) hZ (wq hw 109 rfl) (wq hw 71 rfl) (by decide) (by decide)) (g := (mkF m 54 #[vR c1, vI u1, vI (1 : Int32)] [(.ref c1)])) rfl (by rw [hml]; rfl) (Steps.refl _) (a := c1) (by rw [e106]; exact q108) q108' (argsL := []) (rest := []) (lenOf pd_4 rfl) rfl (by show 2 * 0 + _ ≤ _; exact Nat.le_of_eq rfl) (hb hby dc11_54) (fun _ _ => ⟨rfl, e106, (by decide : 0 + 0 ≤ _), (by decide : 0 + 0 ≤ _)⟩)
  dsimp only [Pt.U, Pt.locs, Pt.cells, Pt.slots] at X108 l108 y108 z108 st108 hQ108
  subst l108 y108 z108
  obtain ⟨rfl, N108q, hh108⟩ := hQ108
  have N108 := Fr.app N106 N108q
  obtain ⟨fs, hr, hrun, hended, hW, hsame⟩ := X108.leave (v := none) (fun _ => rfl)
  have K110 : Keep h0 h106 [c1, d1] := (Keep.wr (Keep.refl h0 [c1, d1]) W106 (Or.inl (List.mem_of_getElem? (i := 1) rfl)))
  have f111 := (Fw.other W106 (Or.inl necd))
  have f112 := (Fs.other W106 (Or.inl necd))
  have f113 := (Fu.other W106 (Or.inl necd))
  refine ⟨_, _, pre0 _ ?_, hrun, hended, _, _, rfl, ?_, ⟨_, rfl⟩, hW, hsame.mono (by decide) (by decide)⟩
  · skip
    show Steps p.tables e below (s₁.setTop (mkF m 0 #[vR c1, vI u1, .unset] [])) _
    refine XS.iloadN X0.here hx rfl (hb hby dc11_0) rfl ?_
    refine XS.ifYes X0.here hx rfl (pc0 := 1) (pc' := 31) rfl (hb hby dc11_1) rfl ((if0 _ _).trans (flt (own_ge0 hu)).2.1) (by decide) (by decide) ?_
    refine XS.iloadN X0.here hx rfl (hb hby dc11_31) rfl ?_
    show Steps p.tables e below (s₁.setTop (mkF m 32 #[vR c1, vI u1, .unset] [(.int u1)])) _
    refine st101 _ ?_
    refine XS.istoreN X101.here hx rfl (hb hby dc11_35) rfl (l' := #[vR c1, vI u1, vI (1 : Int32)]) rfl ?_
    refine XS.aloadN X101.here hx rfl (hb hby dc11_36) rfl rfl ?_
    refine XS.iloadN X101.here hx rfl (hb hby dc11_37) rfl ?_
    refine st102.trans ?_
    refine XS.aloadN X102.here hx rfl (hb hby dc11_41) rfl rfl ?_
    refine st103 _ ?_
    refine XS.iloadN X103.here hx rfl (hb hby dc11_45) rfl ?_
    jvm_step X103.here [X103.here.top, hx, (hb hby dc11_46), Value.category]
    refine X103.laload hx (j := (1 : Int32)) (v := (.long m1)) (by rw [e103]; exact Ar104.1) (State.isArrayOf_alike hZ.alike Ar104.2.1) Ar104.2.2 hin104 hat104 (g := (mkF m 47 #[vR c1, vI u1, vI (1 : Int32)] [(.int (1 : Int32)), (.ref d1), (.int (1 : Int32)), (.ref d1)])) rfl rfl (hb hby dc11_47) _ ?_
    refine XS.lconst X103.here hx rfl (hb hby dc11_48) ?_
    refine XS.iloadN X103.here hx rfl (hb hby dc11_49) rfl ?_
    show Steps p.tables e below (T103.setTop (mkF m 50 #[vR c1, vI u1, vI (1 : Int32)] [(.int u1), (.long (1 : Int64)), (.long m1), (.int (1 : Int32)), (.ref d1)])) _
    refine XS.lshl X103.here hx rfl (hb hby dc11_50) rfl ?_
    show Steps p.tables e below (T103.setTop (mkF m 51 #[vR c1, vI u1, vI (1 : Int32)] [(.long ((1 : Int64) <<< (u1 &&& 0x3f).toInt64)), (.long m1), (.int (1 : Int32)), (.ref d1)])) _
    rw [(show ((1 : Int64) <<< (u1 &&& 0x3f).toInt64) = own_bt u1 from rfl)]
    refine XS.lor X103.here hx rfl (hb hby dc11_51) rfl ?_
    refine st106 _ ?_
    refine XS.aloadN X106.here hx rfl (hb hby dc11_53) rfl rfl ?_
    refine st108.trans ?_
    exact X108.returnOut hx Bd.returns (hb hby dc11_57) hr
  · show Q_se Z c1 d1 u1 m0 m1 h0 n0 _ T108.heap _
    rw [hh108]
    unfold Q_se
    rw [own_s0n hlt, own_s1n hlt]
    exact ⟨rfl, N108, K110, _, Or.inl rfl, gd, ⟨necd, f109, f111, f112, _, Or.inr (Or.inr (Or.inr (⟨f113, V106, own_or_ne hu⟩)))⟩⟩
theorem Mt.weak {l : Launch} {Z : State} {y : MethodName} {cd : ByteArray} {ml : Nat} {rt : Option FieldType} {ws : List Jvm.Cond} {R R' : Room} {A : Array Value} {h0 : Heap} {Q Q' : Option Value → Heap → List Loc → Prop} (h : Mt l Z y cd ml rt ws R A h0 Q) (hq : ∀ v h L, Q v h L → Q' v h L) (hf : R.frames ≤ R'.frames) (hl : R.locals ≤ R'.locals) (hc : R.cells ≤ R'.cells) (hs : R.slots ≤ R'.slots) : Mt l Z y cd ml rt ws R' A h0 Q' := by
  refine MetFree.imp (MetFree.respec h (fun a s q => q) hf hl hc hs) ?_
  rintro a s o s' ⟨v, L, rfl, q, f1, f2, f3⟩
  exact ⟨v, L, rfl, hq _ _ _ q, f1, f2, f3.mono hc hs⟩
theorem rmSeL (l : Launch) (Z : State) (a0 : Array Value) (hw : HwT a0 Z) (ws : List Jvm.Cond) (c1 d1 : Addr) (m0 m1 : Int64) (u1 : Int32) (h0 : Heap) (n0 : Nat) (O0 : Old Z n0 h0) (F1 : Bs Z h0 c1 d1 m0 m1 False) (gc : n0 ≤ c1) (gd : n0 ≤ d1) (hu : own_r u1) (hlt : u1 < (64 : Int32)) (SB : Sta Z Z.heap sB "$assertionsDisabled" "Z" (.int (1 : Int32))) :
    Mt l Z y_11 jdk_92_method_19_code 3 none ws ({ frames := 2, cells := 0, slots := 0, locals := 28 } : Room) #[(.ref c1), (.int u1)] h0 (Q_se Z c1 d1 u1 m0 m1 h0 n0) := by
  obtain ⟨necd, Ec, Fw, Fs, kd, q⟩ := F1
  rcases q with ⟨Fu, Vd, rfl, rfl⟩ | ⟨Fu, Vd, rfl⟩ | ⟨Fu, Vd, hm1, hf⟩ | ⟨Fu, Vd, hm1⟩
  rotate_left 2
  · exact hf.elim
  rotate_left 1
  · exact rmSeA1 l Z a0 hw ws c1 d1 kd (0 : Int64) (0 : Int64) u1 h0 n0 O0 Ec Fw Fs Fu Vd necd gc gd hu hlt SB
  · exact rmSeB1 l Z a0 hw ws c1 d1 kd m0 (0 : Int64) u1 h0 n0 O0 Ec Fw Fs Fu Vd necd gc gd hu hlt SB
  · exact rmSeD1 l Z a0 hw ws c1 d1 kd m0 m1 u1 h0 n0 O0 Ec Fw Fs Fu Vd necd gc gd hm1 hu hlt SB
theorem rmSe (l : Launch) (Z : State) (a0 : Array Value) (hw : HwT a0 Z) (ws : List Jvm.Cond) (c1 d1 : Addr) (m0 m1 : Int64) (u1 : Int32) (h0 : Heap) (n0 : Nat) (O0 : Old Z n0 h0) (F1 : Bs Z h0 c1 d1 m0 m1 False) (gc : n0 ≤ c1) (gd : n0 ≤ d1) (hu : own_r u1) (SB : Sta Z Z.heap sB "$assertionsDisabled" "Z" (.int (1 : Int32))) :
    Mt l Z y_11 jdk_92_method_19_code 3 none ws ({ frames := 4, cells := 1, slots := 2, locals := 61 } : Room) #[(.ref c1), (.int u1)] h0 (Q_se Z c1 d1 u1 m0 m1 h0 n0) := by
  by_cases hlt : u1 < (64 : Int32)
  · exact Mt.weak (rmSeL l Z a0 hw ws c1 d1 m0 m1 u1 h0 n0 O0 F1 gc gd hu hlt SB) (fun _ _ _ q => q) (by decide) (by decide) (by decide) (by decide)
  obtain ⟨necd, Ec, Fw, Fs, kd, q⟩ := F1
  rcases q with ⟨Fu, Vd, rfl, rfl⟩ | ⟨Fu, Vd, rfl⟩ | ⟨Fu, Vd, hm1, hf⟩ | ⟨Fu, Vd, hm1⟩
  rotate_left 2
  · exact hf.elim
  rotate_left 1
  · exact Mt.weak (rmSeA0 l Z a0 hw ws c1 d1 kd (0 : Int64) (0 : Int64) u1 h0 n0 O0 Ec Fw Fs Fu Vd necd gc gd hu hlt SB) (fun _ _ _ q => q) (by decide) (by decide) (by decide) (by decide)
  · exact Mt.weak (rmSeB0 l Z a0 hw ws c1 d1 kd m0 (0 : Int64) u1 h0 n0 O0 Ec Fw Fs Fu Vd necd gc gd hu hlt SB) (fun _ _ _ q => q) (by decide) (by decide) (by decide) (by decide)
  · exact Mt.weak (rmSeD0 l Z a0 hw ws c1 d1 kd m0 m1 u1 h0 n0 O0 Ec Fw Fs Fu Vd necd gc gd hm1 hu hlt SB) (fun _ _ _ q => q) (by decide) (by decide) (by decide) (by decide)
def Q_ge (u1 : Int32) (m0 m1 : Int64) (h0 : Heap) (n0 : Nat) (v : Option Value) (h : Heap) (L : List Loc) : Prop := ∃ r : Int32, v = some (.int r) ∧ Fr n0 L ∧ h = h0 ∧ ((r = (1 : Int32) ∧ own_in u1 m0 m1) ∨ (r = (0 : Int32) ∧ ¬ own_in u1 m0 m1))
abbrev y_12 : MethodName := (⟨"java/util/BitSet", "get", "(I)Z"⟩ : MethodName)
abbrev C12 := jdk_92_method_26_code
theorem dc12_0 : decode C12 0 = .ok (.iload_n 1, 1) := by decide +kernel
theorem dc12_1 : decode C12 1 = .ok (.ifCond .ge 30, 3) := by decide +kernel
theorem dc12_31 : decode C12 31 = .ok (.aload_n 0, 1) := by decide +kernel
theorem dc12_32 : decode C12 32 = .ok (.invokevirtual 56, 3) := by decide +kernel
theorem dc12_35 : decode C12 35 = .ok (.iload_n 1, 1) := by decide +kernel
theorem dc12_36 : decode C12 36 = .ok (.invokestatic 52, 3) := by decide +kernel
theorem dc12_39 : decode C12 39 = .ok (.istore_n 2, 1) := by decide +kernel
theorem dc12_40 : decode C12 40 = .ok (.iload_n 2, 1) := by decide +kernel
theorem dc12_41 : decode C12 41 = .ok (.aload_n 0, 1) := by decide +kernel
theorem dc12_42 : decode C12 42 = .ok (.getfield 7, 3) := by decide +kernel
theorem dc12_45 : decode C12 45 = .ok (.if_icmp .ge 22, 3) := by decide +kernel
theorem dc12_48 : decode C12 48 = .ok (.aload_n 0, 1) := by decide +kernel
theorem dc12_49 : decode C12 49 = .ok (.getfield 11, 3) := by decide +kernel
theorem dc12_52 : decode C12 52 = .ok (.iload_n 2, 1) := by decide +kernel
theorem dc12_53 : decode C12 53 = .ok (.laload, 1) := by decide +kernel
theorem dc12_54 : decode C12 54 = .ok (.lconst 1, 1) := by decide +kernel
theorem dc12_55 : decode C12 55 = .ok (.iload_n 1, 1) := by decide +kernel
theorem dc12_56 : decode C12 56 = .ok (.lshl, 1) := by decide +kernel
theorem dc12_57 : decode C12 57 = .ok (.land, 1) := by decide +kernel
theorem dc12_58 : decode C12 58 = .ok (.lconst 0, 1) := by decide +kernel
theorem dc12_59 : decode C12 59 = .ok (.lcmp, 1) := by decide +kernel
theorem dc12_60 : decode C12 60 = .ok (.ifCond .eq 7, 3) := by decide +kernel
theorem dc12_67 : decode C12 67 = .ok (.iconst 0, 1) := by decide +kernel
theorem dc12_68 : decode C12 68 = .ok (.ireturn, 1) := by decide +kernel
theorem dc12_63 : decode C12 63 = .ok (.iconst 1, 1) := by decide +kernel
theorem dc12_64 : decode C12 64 = .ok (.goto 4, 3) := by decide +kernel
theorem rmGeB1 (l : Launch) (Z : State) (a0 : Array Value) (hw : HwT a0 Z) (ws : List Jvm.Cond) (c1 d1 : Addr) (kd : ClassId) (m0 m1 : Int64) (u1 : Int32) (h0 : Heap) (n0 : Nat) (O0 : Old Z n0 h0) (Ec : Exa Z h0 c1 sB) (Fw : Fld Z h0 c1 sB "words" "[J" (.ref d1)) (Fs : Fld Z h0 c1 sB "sizeIsSticky" "Z" (.int (0 : Int32))) (Fu : Fld Z h0 c1 sB "wordsInUse" "I" (.int (1 : Int32))) (Vd : Arv Z h0 d1 kd .long (1 : Int32) [(.long m0)] (.long (0 : Int64))) (necd : c1 ≠ d1) (gc : n0 ≤ c1) (gd : n0 ≤ d1) (hu : own_r u1) (hlt : u1 < (64 : Int32)) (SB : Sta Z Z.heap sB "$assertionsDisabled" "Z" (.int (1 : Int32))) :
    Mt l Z y_12 jdk_92_method_26_code 3 (some .boolean) ws ({ frames := 1, cells := 0, slots := 0, locals := 12 } : Room) #[(.ref c1), (.int u1)] h0 (Q_ge u1 m0 (0 : Int64) h0 n0) := by
  refine MetFree.of_bodySF (plainFor_of_name pn_1) hisR ?_
  intro p e s m args below meth c s₁ Bd hml0 hP hK
  obtain ⟨rfl, hZ, hh⟩ := hP
  have hx := Bd.exec
  have hby := Bd.bytes
  have hml : c.maxLocals = 3 := hml0
  have hown : s.vm.findClass sB = some m.cls := findClass_of_methodNamed Bd.named
  have hnm := (name_of_methodNamed Bd.named Bd.method).1
  have X0 : Stand p l e ({ frames := 1, cells := 0, slots := 0, locals := 12 } : Room) s m #[(.ref c1), (.int u1)] below meth c s₁ [] 0 0 := Stand.of_body Bd
  have e0 : s₁.heap = h0 := by rw [← hh, Bd.state]; rfl
  have N0 := Fr.nil n0
  have pre0 := fun t (k : Steps p.tables e below (s₁.setTop _) t) => castTop (ef_5 m c1 u1) k
  obtain ⟨cq101, q101, q101'⟩ := Exa.cell Ec
  obtain ⟨_, _, ⟨T101, L101, k101, n101⟩, -, X101, ⟨Lc101, hQ101, l101, y101, z101⟩, st101⟩ := X0.privateBack hx (y := y_6) hown (mvT hZ (wq hw 105 rfl)) (mvT hZ (wq hw 106 rfl)) (mvT hZ (wq hw 108 rfl)) (Cond.privateMethod_at (mvP hZ (wq hw 107 rfl) (args := #[]))) (mvT hZ (wq hw 109 rfl)) (by decide) (backOf (W := 0) (rmCk l Z a0 hw [] c1 h0 n0 O0 SB) hZ (wq hw 109 rfl) (wq hw 71 rfl) (by decide) (by decide)) (g := (mkF m 32 #[vR c1, vI u1, .unset] [(.ref c1)])) rfl (by rw [hml]; rfl) (Steps.refl _) (a := c1) (by rw [e0]; exact q101) q101' (argsL := []) (rest := []) (lenOf pd_4 rfl) rfl (by show 2 * 0 + _ ≤ _; exact Nat.le_of_eq rfl) (hb hby dc12_32) (fun _ _ => ⟨rfl, e0, (by decide : 0 + 0 ≤ _), (by decide : 0 + 0 ≤ _)⟩)
  dsimp only [Pt.U, Pt.locs, Pt.cells, Pt.slots] at X101 l101 y101 z101 st101 hQ101
  subst l101 y101 z101
  obtain ⟨rfl, N101q, hh101⟩ := hQ101
  have N101 := Fr.app N0 N101q
  obtain ⟨_, _, ⟨T102, L102, k102, n102⟩, -, X102, ⟨Lc102, hQ102, l102, y102, z102⟩, st102⟩ := Jvm.LawKit.callS X101 hx (y := y_3) hown (mvT hZ (wq hw 85 rfl)) (mvT hZ (wq hw 86 rfl)) (mvT hZ (wq hw 71 rfl)) (mvT hZ (wq hw 87 rfl)) (by decide) (backOf (W := 0) (rmWi l Z a0 hw [] u1 (0 : Int32) h0 n0 O0 (own_w0 hu hlt)) hZ (wq hw 87 rfl) (wq hw 71 rfl) (by decide) (by decide)) (g := (mkF m 36 #[vR c1, vI u1, .unset] [(.int u1)])) rfl (by rw [hml]; rfl) (argsL := [(.int u1)]) (rest := []) (lenOf pd_0 rfl) rfl (by show 2 * 0 + _ ≤ _; exact Nat.le_of_eq rfl) (hb hby dc12_36) (fun _ _ => ⟨rfl, hh101, (by decide : 0 + 0 ≤ _), (by decide : 0 + 0 ≤ _)⟩)
  dsimp only [Pt.U, Pt.locs, Pt.cells, Pt.slots] at X102 l102 y102 z102 st102 hQ102
  subst l102 y102 z102
  obtain ⟨rfl, N102q, hh102⟩ := hQ102
  have N102 := Fr.app N101 N102q
  obtain ⟨T103, X103, e103, st103⟩ := gG X102 hx hZ hown (wq hw 76 rfl) hh102 Fu (g := (mkF m 42 #[vR c1, vI u1, vI (0 : Int32)] [(.ref c1), (.int (0 : Int32))])) rfl rfl (hb hby dc12_42)
  obtain ⟨T104, X104, e104, st104⟩ := gG X103 hx hZ hown (wq hw 88 rfl) e103 Fw (g := (mkF m 49 #[vR c1, vI u1, vI (0 : Int32)] [(.ref c1)])) rfl rfl (hb hby dc12_49)
  obtain ⟨cl105, Ar105, q105, S105, N105_, H105, G105⟩ := id Vd
  have hin105 : ¬ ((0 : Int32) < 0 ∨ cl105.slots.size ≤ ((0 : Int32)).toNatClampNeg) := inb_of S105 ⟨by decide, by decide⟩
  have hat105 : cl105.slots[((0 : Int32)).toNatClampNeg]? = some (.long m0) := H105.at hin105 rfl
  have pre106 : ∀ t, Steps p.tables e below (T104.setTop (mkF m 60 #[vR c1, vI u1, vI (0 : Int32)] [(.int (lcmpW (m0 &&& (own_bt u1)) (0 : Int64)))])) t → Steps p.tables e below (s₁.setTop (entryFrame m #[(.ref c1), (.int u1)] 3)) t := fun t kt => pre0 t (by
      show Steps p.tables e below (s₁.setTop (mkF m 0 #[vR c1, vI u1, .unset] [])) _
      refine XS.iloadN X0.here hx rfl (hb hby dc12_0) rfl ?_
      refine XS.ifYes X0.here hx rfl (pc0 := 1) (pc' := 31) rfl (hb hby dc12_1) rfl ((if0 _ _).trans (flt (own_ge0 hu)).2.1) (by decide) (by decide) ?_
      refine XS.aloadN X0.here hx rfl (hb hby dc12_31) rfl rfl ?_
      refine st101.trans ?_
      refine XS.iloadN X101.here hx rfl (hb hby dc12_35) rfl ?_
      refine st102 _ ?_
      refine XS.istoreN X102.here hx rfl (hb hby dc12_39) rfl (l' := #[vR c1, vI u1, vI (0 : Int32)]) rfl ?_
      refine XS.iloadN X102.here hx rfl (hb hby dc12_40) rfl ?_
      refine XS.aloadN X102.here hx rfl (hb hby dc12_41) rfl rfl ?_
      refine st103 _ ?_
      refine XS.icmpNo X103.here hx rfl (hb hby dc12_45) rfl (by decide) ?_
      show Steps p.tables e below (T103.setTop (mkF m 48 #[vR c1, vI u1, vI (0 : Int32)] [])) _
      refine XS.aloadN X103.here hx rfl (hb hby dc12_48) rfl rfl ?_
      refine st104 _ ?_
      refine XS.iloadN X104.here hx rfl (hb hby dc12_52) rfl ?_
      refine X104.laload hx (j := (0 : Int32)) (v := (.long m0)) (by rw [e104]; exact Ar105.1) (State.isArrayOf_alike hZ.alike Ar105.2.1) Ar105.2.2 hin105 hat105 (g := (mkF m 53 #[vR c1, vI u1, vI (0 : Int32)] [(.int (0 : Int32)), (.ref d1)])) rfl rfl (hb hby dc12_53) _ ?_
      refine XS.lconst X104.here hx rfl (hb hby dc12_54) ?_
      refine XS.iloadN X104.here hx rfl (hb hby dc12_55) rfl ?_
      refine XS.lshl X104.here hx rfl (hb hby dc12_56) rfl ?_
      show Steps p.tables e below (T104.setTop (mkF m 57 #[vR c1, vI u1, vI (0 : Int32)] [(.long ((1 : Int64) <<< (u1 &&& 0x3f).toInt64)), (.long m0)])) _
      rw [(show ((1 : Int64) <<< (u1 &&& 0x3f).toInt64) = own_bt u1 from rfl)]
      refine XS.land X104.here hx rfl (hb hby dc12_57) rfl ?_
      refine XS.lconst X104.here hx rfl (hb hby dc12_58) ?_
      refine XS.lcmp X104.here hx rfl (hb hby dc12_59) rfl ?_
      exact kt)
  by_cases hc107 : (m0 &&& (own_bt u1)) = (0 : Int64)
  · skip
    obtain ⟨fs, hr, hrun, hended, hW, hsame⟩ := X104.leave (v := some (.int (0 : Int32))) (fun h => by rw [Bd.returns] at h; cases h)
    refine ⟨_, _, pre106 _ ?_, hrun, hended, _, _, rfl, ?_, ⟨_, rfl⟩, hW, hsame.mono (by decide) (by decide)⟩
    · skip
      show Steps p.tables e below (T104.setTop (mkF m 60 #[vR c1, vI u1, vI (0 : Int32)] [(.int (lcmpW (m0 &&& (own_bt u1)) (0 : Int64)))])) _
      refine XS.ifYes X104.here hx rfl (pc0 := 60) (pc' := 67) rfl (hb hby dc12_60) rfl ((if0 _ _).trans (teq ((lw_eq _ _).mpr hc107)).1) (by decide) (by decide) ?_
      refine XS.iconst X104.here hx rfl (hb hby dc12_67) ?_
      exact retN X104 hx (t := .boolean) Bd.returns (by simp) (hb hby dc12_68) hr
    · show Q_ge u1 m0 (0 : Int64) h0 n0 _ T104.heap _
      rw [e104]
      exact ⟨_, rfl, N102, rfl, Or.inr ⟨rfl, fun q => (own_inp hlt).mp q hc107⟩⟩
  · skip
    obtain ⟨fs, hr, hrun, hended, hW, hsame⟩ := X104.leave (v := some (.int (1 : Int32))) (fun h => by rw [Bd.returns] at h; cases h)
    refine ⟨_, _, pre106 _ ?_, hrun, hended, _, _, rfl, ?_, ⟨_, rfl⟩, hW, hsame.mono (by decide) (by decide)⟩
    · skip
      show Steps p.tables e below (T104.setTop (mkF m 60 #[vR c1, vI u1, vI (0 : Int32)] [(.int (lcmpW (m0 &&& (own_bt u1)) (0 : Int64)))])) _
      refine XS.ifNo X104.here hx rfl (hb hby dc12_60) rfl ((if0 _ _).trans (feq (mt (lw_eq _ _).mp hc107)).1) ?_
      refine XS.iconst X104.here hx rfl (hb hby dc12_63) ?_
      refine XS.goto X104.here hx rfl (pc0 := 64) (pc' := 68) rfl (hb hby dc12_64) (by decide) (by decide) ?_
      exact retN X104 hx (t := .boolean) Bd.returns (by simp) (hb hby dc12_68) hr
    · show Q_ge u1 m0 (0 : Int64) h0 n0 _ T104.heap _
      rw [e104]
      exact ⟨_, rfl, N102, rfl, Or.inl ⟨rfl, (own_inp hlt).mpr hc107⟩⟩
theorem rmGeB0 (l : Launch) (Z : State) (a0 : Array Value) (hw : HwT a0 Z) (ws : List Jvm.Cond) (c1 d1 : Addr) (kd : ClassId) (m0 m1 : Int64) (u1 : Int32) (h0 : Heap) (n0 : Nat) (O0 : Old Z n0 h0) (Ec : Exa Z h0 c1 sB) (Fw : Fld Z h0 c1 sB "words" "[J" (.ref d1)) (Fs : Fld Z h0 c1 sB "sizeIsSticky" "Z" (.int (0 : Int32))) (Fu : Fld Z h0 c1 sB "wordsInUse" "I" (.int (1 : Int32))) (Vd : Arv Z h0 d1 kd .long (1 : Int32) [(.long m0)] (.long (0 : Int64))) (necd : c1 ≠ d1) (gc : n0 ≤ c1) (gd : n0 ≤ d1) (hu : own_r u1) (hlt : ¬ u1 < (64 : Int32)) (SB : Sta Z Z.heap sB "$assertionsDisabled" "Z" (.int (1 : Int32))) :
    Mt l Z y_12 jdk_92_method_26_code 3 (some .boolean) ws ({ frames := 1, cells := 0, slots := 0, locals := 12 } : Room) #[(.ref c1), (.int u1)] h0 (Q_ge u1 m0 (0 : Int64) h0 n0) := by
  refine MetFree.of_bodySF (plainFor_of_name pn_1) hisR ?_
  intro p e s m args below meth c s₁ Bd hml0 hP hK
  obtain ⟨rfl, hZ, hh⟩ := hP
  have hx := Bd.exec
  have hby := Bd.bytes
  have hml : c.maxLocals = 3 := hml0
  have hown : s.vm.findClass sB = some m.cls := findClass_of_methodNamed Bd.named
  have hnm := (name_of_methodNamed Bd.named Bd.method).1
  have X0 : Stand p l e ({ frames := 1, cells := 0, slots := 0, locals := 12 } : Room) s m #[(.ref c1), (.int u1)] below meth c s₁ [] 0 0 := Stand.of_body Bd
  have e0 : s₁.heap = h0 := by rw [← hh, Bd.state]; rfl
  have N0 := Fr.nil n0
  have pre0 := fun t (k : Steps p.tables e below (s₁.setTop _) t) => castTop (ef_5 m c1 u1) k
  obtain ⟨cq101, q101, q101'⟩ := Exa.cell Ec
  obtain ⟨_, _, ⟨T101, L101, k101, n101⟩, -, X101, ⟨Lc101, hQ101, l101, y101, z101⟩, st101⟩ := X0.privateBack hx (y := y_6) hown (mvT hZ (wq hw 105 rfl)) (mvT hZ (wq hw 106 rfl)) (mvT hZ (wq hw 108 rfl)) (Cond.privateMethod_at (mvP hZ (wq hw 107 rfl) (args := #[]))) (mvT hZ (wq hw 109 rfl)) (by decide) (backOf (W := 0) (rmCk l Z a0 hw [] c1 h0 n0 O0 SB) hZ (wq hw 109 rfl) (wq hw 71 rfl) (by decide) (by decide)) (g := (mkF m 32 #[vR c1, vI u1, .unset] [(.ref c1)])) rfl (by rw [hml]; rfl) (Steps.refl _) (a := c1) (by rw [e0]; exact q101) q101' (argsL := []) (rest := []) (lenOf pd_4 rfl) rfl (by show 2 * 0 + _ ≤ _; exact Nat.le_of_eq rfl) (hb hby dc12_32) (fun _ _ => ⟨rfl, e0, (by decide : 0 + 0 ≤ _), (by decide : 0 + 0 ≤ _)⟩)
  dsimp only [Pt.U, Pt.locs, Pt.cells, Pt.slots] at X101 l101 y101 z101 st101 hQ101
  subst l101 y101 z101
  obtain ⟨rfl, N101q, hh101⟩ := hQ101
  have N101 := Fr.app N0 N101q
  obtain ⟨_, _, ⟨T102, L102, k102, n102⟩, -, X102, ⟨Lc102, hQ102, l102, y102, z102⟩, st102⟩ := Jvm.LawKit.callS X101 hx (y := y_3) hown (mvT hZ (wq hw 85 rfl)) (mvT hZ (wq hw 86 rfl)) (mvT hZ (wq hw 71 rfl)) (mvT hZ (wq hw 87 rfl)) (by decide) (backOf (W := 0) (rmWi l Z a0 hw [] u1 (1 : Int32) h0 n0 O0 (own_w1 hu hlt)) hZ (wq hw 87 rfl) (wq hw 71 rfl) (by decide) (by decide)) (g := (mkF m 36 #[vR c1, vI u1, .unset] [(.int u1)])) rfl (by rw [hml]; rfl) (argsL := [(.int u1)]) (rest := []) (lenOf pd_0 rfl) rfl (by show 2 * 0 + _ ≤ _; exact Nat.le_of_eq rfl) (hb hby dc12_36) (fun _ _ => ⟨rfl, hh101, (by decide : 0 + 0 ≤ _), (by decide : 0 + 0 ≤ _)⟩)
  dsimp only [Pt.U, Pt.locs, Pt.cells, Pt.slots] at X102 l102 y102 z102 st102 hQ102
  subst l102 y102 z102
  obtain ⟨rfl, N102q, hh102⟩ := hQ102
  have N102 := Fr.app N101 N102q
  obtain ⟨T103, X103, e103, st103⟩ := gG X102 hx hZ hown (wq hw 76 rfl) hh102 Fu (g := (mkF m 42 #[vR c1, vI u1, vI (1 : Int32)] [(.ref c1), (.int (1 : Int32))])) rfl rfl (hb hby dc12_42)
  obtain ⟨fs, hr, hrun, hended, hW, hsame⟩ := X103.leave (v := some (.int (0 : Int32))) (fun h => by rw [Bd.returns] at h; cases h)
  refine ⟨_, _, pre0 _ ?_, hrun, hended, _, _, rfl, ?_, ⟨_, rfl⟩, hW, hsame.mono (by decide) (by decide)⟩
  · skip
    show Steps p.tables e below (s₁.setTop (mkF m 0 #[vR c1, vI u1, .unset] [])) _
    refine XS.iloadN X0.here hx rfl (hb hby dc12_0) rfl ?_
    refine XS.ifYes X0.here hx rfl (pc0 := 1) (pc' := 31) rfl (hb hby dc12_1) rfl ((if0 _ _).trans (flt (own_ge0 hu)).2.1) (by decide) (by decide) ?_
    refine XS.aloadN X0.here hx rfl (hb hby dc12_31) rfl rfl ?_
    refine st101.trans ?_
    refine XS.iloadN X101.here hx rfl (hb hby dc12_35) rfl ?_
    refine st102 _ ?_
    refine XS.istoreN X102.here hx rfl (hb hby dc12_39) rfl (l' := #[vR c1, vI u1, vI (1 : Int32)]) rfl ?_
    refine XS.iloadN X102.here hx rfl (hb hby dc12_40) rfl ?_
    refine XS.aloadN X102.here hx rfl (hb hby dc12_41) rfl rfl ?_
    show Steps p.tables e below (T102.setTop (mkF m 42 #[vR c1, vI u1, vI (1 : Int32)] [(.ref c1), (.int (1 : Int32))])) _
    refine st103 _ ?_
    refine XS.icmpYes X103.here hx rfl (pc0 := 45) (pc' := 67) rfl (hb hby dc12_45) rfl (by decide) (by decide) (by decide) ?_
    refine XS.iconst X103.here hx rfl (hb hby dc12_67) ?_
    exact retN X103 hx (t := .boolean) Bd.returns (by simp) (hb hby dc12_68) hr
  · show Q_ge u1 m0 (0 : Int64) h0 n0 _ T103.heap _
    rw [e103]
    exact ⟨_, rfl, N102, rfl, Or.inr ⟨rfl, fun q => (own_inn hlt).mp q (by exact own_and_0 _)⟩⟩
theorem rmGeD1 (l : Launch) (Z : State) (a0 : Array Value) (hw : HwT a0 Z) (ws : List Jvm.Cond) (c1 d1 : Addr) (kd : ClassId) (m0 m1 : Int64) (u1 : Int32) (h0 : Heap) (n0 : Nat) (O0 : Old Z n0 h0) (Ec : Exa Z h0 c1 sB) (Fw : Fld Z h0 c1 sB "words" "[J" (.ref d1)) (Fs : Fld Z h0 c1 sB "sizeIsSticky" "Z" (.int (0 : Int32))) (Fu : Fld Z h0 c1 sB "wordsInUse" "I" (.int (2 : Int32))) (Vd : Arv Z h0 d1 kd .long (2 : Int32) [(.long m0), (.long m1)] (.long (0 : Int64))) (necd : c1 ≠ d1) (gc : n0 ≤ c1) (gd : n0 ≤ d1) (hm1 : ¬ m1 = 0) (hu : own_r u1) (hlt : u1 < (64 : Int32)) (SB : Sta Z Z.heap sB "$assertionsDisabled" "Z" (.int (1 : Int32))) :
    Mt l Z y_12 jdk_92_method_26_code 3 (some .boolean) ws ({ frames := 1, cells := 0, slots := 0, locals := 12 } : Room) #[(.ref c1), (.int u1)] h0 (Q_ge u1 m0 m1 h0 n0) := by
  refine MetFree.of_bodySF (plainFor_of_name pn_1) hisR ?_
  intro p e s m args below meth c s₁ Bd hml0 hP hK
  obtain ⟨rfl, hZ, hh⟩ := hP
  have hx := Bd.exec
  have hby := Bd.bytes
  have hml : c.maxLocals = 3 := hml0
  have hown : s.vm.findClass sB = some m.cls := findClass_of_methodNamed Bd.named
  have hnm := (name_of_methodNamed Bd.named Bd.method).1
  have X0 : Stand p l e ({ frames := 1, cells := 0, slots := 0, locals := 12 } : Room) s m #[(.ref c1), (.int u1)] below meth c s₁ [] 0 0 := Stand.of_body Bd
  have e0 : s₁.heap = h0 := by rw [← hh, Bd.state]; rfl
  have N0 := Fr.nil n0
  have pre0 := fun t (k : Steps p.tables e below (s₁.setTop _) t) => castTop (ef_5 m c1 u1) k
  obtain ⟨cq101, q101, q101'⟩ := Exa.cell Ec
  obtain ⟨_, _, ⟨T101, L101, k101, n101⟩, -, X101, ⟨Lc101, hQ101, l101, y101, z101⟩, st101⟩ := X0.privateBack hx (y := y_6) hown (mvT hZ (wq hw 105 rfl)) (mvT hZ (wq hw 106 rfl)) (mvT hZ (wq hw 108 rfl)) (Cond.privateMethod_at (mvP hZ (wq hw 107 rfl) (args := #[]))) (mvT hZ (wq hw 109 rfl)) (by decide) (backOf (W := 0) (rmCk l Z a0 hw [] c1 h0 n0 O0 SB) hZ (wq hw 109 rfl) (wq hw 71 rfl) (by decide) (by decide)) (g := (mkF m 32 #[vR c1, vI u1, .unset] [(.ref c1)])) rfl (by rw [hml]; rfl) (Steps.refl _) (a := c1) (by rw [e0]; exact q101) q101' (argsL := []) (rest := []) (lenOf pd_4 rfl) rfl (by show 2 * 0 + _ ≤ _; exact Nat.le_of_eq rfl) (hb hby dc12_32) (fun _ _ => ⟨rfl, e0, (by decide : 0 + 0 ≤ _), (by decide : 0 + 0 ≤ _)⟩)
  dsimp only [Pt.U, Pt.locs, Pt.cells, Pt.slots] at X101 l101 y101 z101 st101 hQ101
  subst l101 y101 z101
  obtain ⟨rfl, N101q, hh101⟩ := hQ101
  have N101 := Fr.app N0 N101q
  obtain ⟨_, _, ⟨T102, L102, k102, n102⟩, -, X102, ⟨Lc102, hQ102, l102, y102, z102⟩, st102⟩ := Jvm.LawKit.callS X101 hx (y := y_3) hown (mvT hZ (wq hw 85 rfl)) (mvT hZ (wq hw 86 rfl)) (mvT hZ (wq hw 71 rfl)) (mvT hZ (wq hw 87 rfl)) (by decide) (backOf (W := 0) (rmWi l Z a0 hw [] u1 (0 : Int32) h0 n0 O0 (own_w0 hu hlt)) hZ (wq hw 87 rfl) (wq hw 71 rfl) (by decide) (by decide)) (g := (mkF m 36 #[vR c1, vI u1, .unset] [(.int u1)])) rfl (by rw [hml]; rfl) (argsL := [(.int u1)]) (rest := []) (lenOf pd_0 rfl) rfl (by show 2 * 0 + _ ≤ _; exact Nat.le_of_eq rfl) (hb hby dc12_36) (fun _ _ => ⟨rfl, hh101, (by decide : 0 + 0 ≤ _), (by decide : 0 + 0 ≤ _)⟩)
  dsimp only [Pt.U, Pt.locs, Pt.cells, Pt.slots] at X102 l102 y102 z102 st102 hQ102
  subst l102 y102 z102
  obtain ⟨rfl, N102q, hh102⟩ := hQ102
  have N102 := Fr.app N101 N102q
  obtain ⟨T103, X103, e103, st103⟩ := gG X102 hx hZ hown (wq hw 76 rfl) hh102 Fu (g := (mkF m 42 #[vR c1, vI u1, vI (0 : Int32)] [(.ref c1), (.int (0 : Int32))])) rfl rfl (hb hby dc12_42)
  obtain ⟨T104, X104, e104, st104⟩ := gG X103 hx hZ hown (wq hw 88 rfl) e103 Fw (g := (mkF m 49 #[vR c1, vI u1, vI (0 : Int32)] [(.ref c1)])) rfl rfl (hb hby dc12_49)
  obtain ⟨cl105, Ar105, q105, S105, N105_, H105, G105⟩ := id Vd
  have hin105 : ¬ ((0 : Int32) < 0 ∨ cl105.slots.size ≤ ((0 : Int32)).toNatClampNeg) := inb_of S105 ⟨by decide, by decide⟩
  have hat105 : cl105.slots[((0 : Int32)).toNatClampNeg]? = some (.long m0) := H105.at hin105 rfl
  have pre106 : ∀ t, Steps p.tables e below (T104.setTop (mkF m 60 #[vR c1, vI u1, vI (0 : Int32)] [(.int (lcmpW (m0 &&& (own_bt u1)) (0 : Int64)))])) t → Steps p.tables e below (s₁.setTop (entryFrame m #[(.ref c1), (.int u1)] 3)) t := fun t kt => pre0 t (by
      show Steps p.tables e below (s₁.setTop (mkF m 0 #[vR c1, vI u1, .unset] [])) _
      refine XS.iloadN X0.here hx rfl (hb hby dc12_0) rfl ?_
      refine XS.ifYes X0.here hx rfl (pc0 := 1) (pc' := 31) rfl (hb hby dc12_1) rfl ((if0 _ _).trans (flt (own_ge0 hu)).2.1) (by decide) (by decide) ?_
      refine XS.aloadN X0.here hx rfl (hb hby dc12_31) rfl rfl ?_
      refine st101.trans ?_
      refine XS.iloadN X101.here hx rfl (hb hby dc12_35) rfl ?_
      refine st102 _ ?_
      refine XS.istoreN X102.here hx rfl (hb hby dc12_39) rfl (l' := #[vR c1, vI u1, vI (0 : Int32)]) rfl ?_
      refine XS.iloadN X102.here hx rfl (hb hby dc12_40) rfl ?_
      refine XS.aloadN X102.here hx rfl (hb hby dc12_41) rfl rfl ?_
      refine st103 _ ?_
      refine XS.icmpNo X103.here hx rfl (hb hby dc12_45) rfl (by decide) ?_
      show Steps p.tables e below (T103.setTop (mkF m 48 #[vR c1, vI u1, vI (0 : Int32)] [])) _
      refine XS.aloadN X103.here hx rfl (hb hby dc12_48) rfl rfl ?_
      refine st104 _ ?_
      refine XS.iloadN X104.here hx rfl (hb hby dc12_52) rfl ?_
      refine X104.laload hx (j := (0 : Int32)) (v := (.long m0)) (by rw [e104]; exact Ar105.1) (State.isArrayOf_alike hZ.alike Ar105.2.1) Ar105.2.2 hin105 hat105 (g := (mkF m 53 #[vR c1, vI u1, vI (0 : Int32)] [(.int (0 : Int32)), (.ref d1)])) rfl rfl (hb hby dc12_53) _ ?_
      refine XS.lconst X104.here hx rfl (hb hby dc12_54) ?_
      refine XS.iloadN X104.here hx rfl (hb hby dc12_55) rfl ?_
      refine XS.lshl X104.here hx rfl (hb hby dc12_56) rfl ?_
      show Steps p.tables e below (T104.setTop (mkF m 57 #[vR c1, vI u1, vI (0 : Int32)] [(.long ((1 : Int64) <<< (u1 &&& 0x3f).toInt64)), (.long m0)])) _
      rw [(show ((1 : Int64) <<< (u1 &&& 0x3f).toInt64) = own_bt u1 from rfl)]
      refine XS.land X104.here hx rfl (hb hby dc12_57) rfl ?_
      refine XS.lconst X104.here hx rfl (hb hby dc12_58) ?_
      refine XS.lcmp X104.here hx rfl (hb hby dc12_59) rfl ?_
      exact kt)
  by_cases hc107 : (m0 &&& (own_bt u1)) = (0 : Int64)
  · skip
    obtain ⟨fs, hr, hrun, hended, hW, hsame⟩ := X104.leave (v := some (.int (0 : Int32))) (fun h => by rw [Bd.returns] at h; cases h)
    refine ⟨_, _, pre106 _ ?_, hrun, hended, _, _, rfl, ?_, ⟨_, rfl⟩, hW, hsame.mono (by decide) (by decide)⟩
    · skip
      show Steps p.tables e below (T104.setTop (mkF m 60 #[vR c1, vI u1, vI (0 : Int32)] [(.int (lcmpW (m0 &&& (own_bt u1)) (0 : Int64)))])) _
      refine XS.ifYes X104.here hx rfl (pc0 := 60) (pc' := 67) rfl (hb hby dc12_60) rfl ((if0 _ _).trans (teq ((lw_eq _ _).mpr hc107)).1) (by decide) (by decide) ?_
      refine XS.iconst X104.here hx rfl (hb hby dc12_67) ?_
      exact retN X104 hx (t := .boolean) Bd.returns (by simp) (hb hby dc12_68) hr
    · show Q_ge u1 m0 m1 h0 n0 _ T104.heap _
      rw [e104]
      exact ⟨_, rfl, N102, rfl, Or.inr ⟨rfl, fun q => (own_inp hlt).mp q hc107⟩⟩
  · skip
    obtain ⟨fs, hr, hrun, hended, hW, hsame⟩ := X104.leave (v := some (.int (1 : Int32))) (fun h => by rw [Bd.returns] at h; cases h)
    refine ⟨_, _, pre106 _ ?_, hrun, hended, _, _, rfl, ?_, ⟨_, rfl⟩, hW, hsame.mono (by decide) (by decide)⟩
    · skip
      show Steps p.tables e below (T104.setTop (mkF m 60 #[vR c1, vI u1, vI (0 : Int32)] [(.int (lcmpW (m0 &&& (own_bt u1)) (0 : Int64)))])) _
      refine XS.ifNo X104.here hx rfl (hb hby dc12_60) rfl ((if0 _ _).trans (feq (mt (lw_eq _ _).mp hc107)).1) ?_
      refine XS.iconst X104.here hx rfl (hb hby dc12_63) ?_
      refine XS.goto X104.here hx rfl (pc0 := 64) (pc' := 68) rfl (hb hby dc12_64) (by decide) (by decide) ?_
      exact retN X104 hx (t := .boolean) Bd.returns (by simp) (hb hby dc12_68) hr
    · show Q_ge u1 m0 m1 h0 n0 _ T104.heap _
      rw [e104]
      exact ⟨_, rfl, N102, rfl, Or.inl ⟨rfl, (own_inp hlt).mpr hc107⟩⟩
theorem rmGeD0 (l : Launch) (Z : State) (a0 : Array Value) (hw : HwT a0 Z) (ws : List Jvm.Cond) (c1 d1 : Addr) (kd : ClassId) (m0 m1 : Int64) (u1 : Int32) (h0 : Heap) (n0 : Nat) (O0 : Old Z n0 h0) (Ec : Exa Z h0 c1 sB) (Fw : Fld Z h0 c1 sB "words" "[J" (.ref d1)) (Fs : Fld Z h0 c1 sB "sizeIsSticky" "Z" (.int (0 : Int32))) (Fu : Fld Z h0 c1 sB "wordsInUse" "I" (.int (2 : Int32))) (Vd : Arv Z h0 d1 kd .long (2 : Int32) [(.long m0), (.long m1)] (.long (0 : Int64))) (necd : c1 ≠ d1) (gc : n0 ≤ c1) (gd : n0 ≤ d1) (hm1 : ¬ m1 = 0) (hu : own_r u1) (hlt : ¬ u1 < (64 : Int32)) (SB : Sta Z Z.heap sB "$assertionsDisabled" "Z" (.int (1 : Int32))) :
    Mt l Z y_12 jdk_92_method_26_code 3 (some .boolean) ws ({ frames := 1, cells := 0, slots := 0, locals := 12 } : Room) #[(.ref c1), (.int u1)] h0 (Q_ge u1 m0 m1 h0 n0) := by
  refine MetFree.of_bodySF (plainFor_of_name pn_1) hisR ?_
  intro p e s m args below meth c s₁ Bd hml0 hP hK
  obtain ⟨rfl, hZ, hh⟩ := hP
  have hx := Bd.exec
  have hby := Bd.bytes
  have hml : c.maxLocals = 3 := hml0
  have hown : s.vm.findClass sB = some m.cls := findClass_of_methodNamed Bd.named
  have hnm := (name_of_methodNamed Bd.named Bd.method).1
  have X0 : Stand p l e ({ frames := 1, cells := 0, slots := 0, locals := 12 } : Room) s m #[(.ref c1), (.int u1)] below meth c s₁ [] 0 0 := Stand.of_body Bd
  have e0 : s₁.heap = h0 := by rw [← hh, Bd.state]; rfl
  have N0 := Fr.nil n0
  have pre0 := fun t (k : Steps p.tables e below (s₁.setTop _) t) => castTop (ef_5 m c1 u1) k
  obtain ⟨cq101, q101, q101'⟩ := Exa.cell Ec
  obtain ⟨_, _, ⟨T101, L101, k101, n101⟩, -, X101, ⟨Lc101, hQ101, l101, y101, z101⟩, st101⟩ := X0.privateBack hx (y := y_6) hown (mvT hZ (wq hw 105 rfl)) (mvT hZ (wq hw 106 rfl)) (mvT hZ (wq hw 108 rfl)) (Cond.privateMethod_at (mvP hZ (wq hw 107 rfl) (args := #[]))) (mvT hZ (wq hw 109 rfl)) (by decide) (backOf (W := 0) (rmCk l Z a0 hw [] c1 h0 n0 O0 SB) hZ (wq hw 109 rfl) (wq hw 71 rfl) (by decide) (by decide)) (g := (mkF m 32 #[vR c1, vI u1, .unset] [(.ref c1)])) rfl (by rw [hml]; rfl) (Steps.refl _) (a := c1) (by rw [e0]; exact q101) q101' (argsL := []) (rest := []) (lenOf pd_4 rfl) rfl (by show 2 * 0 + _ ≤ _; exact Nat.le_of_eq rfl) (hb hby dc12_32) (fun _ _ => ⟨rfl, e0, (by decide : 0 + 0 ≤ _), (by decide : 0 + 0 ≤ _)⟩)
  dsimp only [Pt.U, Pt.locs, Pt.cells, Pt.slots] at X101 l101 y101 z101 st101 hQ101
  subst l101 y101 z101
  obtain ⟨rfl, N101q, hh101⟩ := hQ101
  have N101 := Fr.app N0 N101q
  obtain ⟨_, _, ⟨T102, L102, k102, n102⟩, -, X102, ⟨Lc102, hQ102, l102, y102, z102⟩, st102⟩ := Jvm.LawKit.callS X101 hx (y := y_3) hown (mvT hZ (wq hw 85 rfl)) (mvT hZ (wq hw 86 rfl)) (mvT hZ (wq hw 71 rfl)) (mvT hZ (wq hw 87 rfl)) (by decide) (backOf (W := 0) (rmWi l Z a0 hw [] u1 (1 : Int32) h0 n0 O0 (own_w1 hu hlt)) hZ (wq hw 87 rfl) (wq hw 71 rfl) (by decide) (by decide)) (g := (mkF m 36 #[vR c1, vI u1, .unset] [(.int u1)])) rfl (by rw [hml]; rfl) (argsL := [(.int u1)]) (rest := []) (lenOf pd_0 rfl) rfl (by show 2 * 0 + _ ≤ _; exact Nat.le_of_eq rfl) (hb hby dc12_36) (fun _ _ => ⟨rfl, hh101, (by decide : 0 + 0 ≤ _), (by decide : 0 + 0 ≤ _)⟩)
  dsimp only [Pt.U, Pt.locs, Pt.cells, Pt.slots] at X102 l102 y102 z102 st102 hQ102
  subst l102 y102 z102
  obtain ⟨rfl, N102q, hh102⟩ := hQ102
  have N102 := Fr.app N101 N102q
  obtain ⟨T103, X103, e103, st103⟩ := gG X102 hx hZ hown (wq hw 76 rfl) hh102 Fu (g := (mkF m 42 #[vR c1, vI u1, vI (1 : Int32)] [(.ref c1), (.int (1 : Int32))])) rfl rfl (hb hby dc12_42)
  obtain ⟨T104, X104, e104, st104⟩ := gG X103 hx hZ hown (wq hw 88 rfl) e103 Fw (g := (mkF m 49 #[vR c1, vI u1, vI (1 : Int32)] [(.ref c1)])) rfl rfl (hb hby dc12_49)
  obtain ⟨cl105, Ar105, q105, S105, N105_, H105, G105⟩ := id Vd
  have hin105 : ¬ ((1 : Int32) < 0 ∨ cl105.slots.size ≤ ((1 : Int32)).toNatClampNeg) := inb_of S105 ⟨by decide, by decide⟩
  have hat105 : cl105.slots[((1 : Int32)).toNatClampNeg]? = some (.long m1) := H105.at hin105 rfl
  have pre106 : ∀ t, Steps p.tables e below (T104.setTop (mkF m 60 #[vR c1, vI u1, vI (1 : Int32)] [(.int (lcmpW (m1 &&& (own_bt u1)) (0 : Int64)))])) t → Steps p.tables e below (s₁.setTop (entryFrame m #[(.ref c1), (.int u1)] 3)) t := fun t kt => pre0 t (by
      show Steps p.tables e below (s₁.setTop (mkF m 0 #[vR c1, vI u1, .unset] [])) _
      refine XS.iloadN X0.here hx rfl (hb hby dc12_0) rfl ?_
      refine XS.ifYes X0.here hx rfl (pc0 := 1) (pc' := 31) rfl (hb hby dc12_1) rfl ((if0 _ _).trans (flt (own_ge0 hu)).2.1) (by decide) (by decide) ?_
      refine XS.aloadN X0.here hx rfl (hb hby dc12_31) rfl rfl ?_
      refine st101.trans ?_
      refine XS.iloadN X101.here hx rfl (hb hby dc12_35) rfl ?_
      refine st102 _ ?_
      refine XS.istoreN X102.here hx rfl (hb hby dc12_39) rfl (l' := #[vR c1, vI u1, vI (1 : Int32)]) rfl ?_
      refine XS.iloadN X102.here hx rfl (hb hby dc12_40) rfl ?_
      refine XS.aloadN X102.here hx rfl (hb hby dc12_41) rfl rfl ?_
      refine st103 _ ?_
      refine XS.icmpNo X103.here hx rfl (hb hby dc12_45) rfl (by decide) ?_
      show Steps p.tables e below (T103.setTop (mkF m 48 #[vR c1, vI u1, vI (1 : Int32)] [])) _
      refine XS.aloadN X103.here hx rfl (hb hby dc12_48) rfl rfl ?_
      refine st104 _ ?_
      refine XS.iloadN X104.here hx rfl (hb hby dc12_52) rfl ?_
      refine X104.laload hx (j := (1 : Int32)) (v := (.long m1)) (by rw [e104]; exact Ar105.1) (State.isArrayOf_alike hZ.alike Ar105.2.1) Ar105.2.2 hin105 hat105 (g := (mkF m 53 #[vR c1, vI u1, vI (1 : Int32)] [(.int (1 : Int32)), (.ref d1)])) rfl rfl (hb hby dc12_53) _ ?_
      refine XS.lconst X104.here hx rfl (hb hby dc12_54) ?_
      refine XS.iloadN X104.here hx rfl (hb hby dc12_55) rfl ?_
      refine XS.lshl X104.here hx rfl (hb hby dc12_56) rfl ?_
      show Steps p.tables e below (T104.setTop (mkF m 57 #[vR c1, vI u1, vI (1 : Int32)] [(.long ((1 : Int64) <<< (u1 &&& 0x3f).toInt64)), (.long m1)])) _
      rw [(show ((1 : Int64) <<< (u1 &&& 0x3f).toInt64) = own_bt u1 from rfl)]
      refine XS.land X104.here hx rfl (hb hby dc12_57) rfl ?_
      refine XS.lconst X104.here hx rfl (hb hby dc12_58) ?_
      refine XS.lcmp X104.here hx rfl (hb hby dc12_59) rfl ?_
      exact kt)
  by_cases hc107 : (m1 &&& (own_bt u1)) = (0 : Int64)
  · skip
    obtain ⟨fs, hr, hrun, hended, hW, hsame⟩ := X104.leave (v := some (.int (0 : Int32))) (fun h => by rw [Bd.returns] at h; cases h)
    refine ⟨_, _, pre106 _ ?_, hrun, hended, _, _, rfl, ?_, ⟨_, rfl⟩, hW, hsame.mono (by decide) (by decide)⟩
    · skip
      show Steps p.tables e below (T104.setTop (mkF m 60 #[vR c1, vI u1, vI (1 : Int32)] [(.int (lcmpW (m1 &&& (own_bt u1)) (0 : Int64)))])) _
      refine XS.ifYes X104.here hx rfl (pc0 := 60) (pc' := 67) rfl (hb hby dc12_60) rfl ((if0 _ _).trans (teq ((lw_eq _ _).mpr hc107)).1) (by decide) (by decide) ?_
      refine XS.iconst X104.here hx rfl (hb hby dc12_67) ?_
      exact retN X104 hx (t := .boolean) Bd.returns (by simp) (hb hby dc12_68) hr
    · show Q_ge u1 m0 m1 h0 n0 _ T104.heap _
      rw [e104]
      exact ⟨_, rfl, N102, rfl, Or.inr ⟨rfl, fun q => (own_inn hlt).mp q hc107⟩⟩
  · skip
    obtain ⟨fs, hr, hrun, hended, hW, hsame⟩ := X104.leave (v := some (.int (1 : Int32))) (fun h => by rw [Bd.returns] at h; cases h)
    refine ⟨_, _, pre106 _ ?_, hrun, hended, _, _, rfl, ?_, ⟨_, rfl⟩, hW, hsame.mono (by decide) (by decide)⟩
    · skip
      show Steps p.tables e below (T104.setTop (mkF m 60 #[vR c1, vI u1, vI (1 : Int32)] [(.int (lcmpW (m1 &&& (own_bt u1)) (0 : Int64)))])) _
      refine XS.ifNo X104.here hx rfl (hb hby dc12_60) rfl ((if0 _ _).trans (feq (mt (lw_eq _ _).mp hc107)).1) ?_
      refine XS.iconst X104.here hx rfl (hb hby dc12_63) ?_
      refine XS.goto X104.here hx rfl (pc0 := 64) (pc' := 68) rfl (hb hby dc12_64) (by decide) (by decide) ?_
      exact retN X104 hx (t := .boolean) Bd.returns (by simp) (hb hby dc12_68) hr
    · show Q_ge u1 m0 m1 h0 n0 _ T104.heap _
      rw [e104]
      exact ⟨_, rfl, N102, rfl, Or.inl ⟨rfl, (own_inn hlt).mpr hc107⟩⟩
theorem rmGe (l : Launch) (Z : State) (a0 : Array Value) (hw : HwT a0 Z) (ws : List Jvm.Cond) (c1 d1 : Addr) (m0 m1 : Int64) (u1 : Int32) (h0 : Heap) (n0 : Nat) (O0 : Old Z n0 h0) (F1 : Bs Z h0 c1 d1 m0 m1 False) (gc : n0 ≤ c1) (gd : n0 ≤ d1) (hA : ¬ (m0 = (0 : Int64) ∧ m1 = (0 : Int64))) (hu : own_r u1) (SB : Sta Z Z.heap sB "$assertionsDisabled" "Z" (.int (1 : Int32))) :
    Mt l Z y_12 jdk_92_method_26_code 3 (some .boolean) ws ({ frames := 1, cells := 0, slots := 0, locals := 12 } : Room) #[(.ref c1), (.int u1)] h0 (Q_ge u1 m0 m1 h0 n0) := by
  obtain ⟨necd, Ec, Fw, Fs, kd, q⟩ := F1
  rcases q with ⟨Fu, Vd, rfl, rfl⟩ | ⟨Fu, Vd, rfl⟩ | ⟨Fu, Vd, hm1, hf⟩ | ⟨Fu, Vd, hm1⟩
  rotate_left 2
  · exact hf.elim
  rotate_left 1
  · exact absurd ⟨rfl, rfl⟩ hA
  all_goals by_cases hlt : u1 < (64 : Int32)
  · exact rmGeB1 l Z a0 hw ws c1 d1 kd m0 (0 : Int64) u1 h0 n0 O0 Ec Fw Fs Fu Vd necd gc gd hu hlt SB
  · exact rmGeB0 l Z a0 hw ws c1 d1 kd m0 (0 : Int64) u1 h0 n0 O0 Ec Fw Fs Fu Vd necd gc gd hu hlt SB
  · exact rmGeD1 l Z a0 hw ws c1 d1 kd m0 m1 u1 h0 n0 O0 Ec Fw Fs Fu Vd necd gc gd hm1 hu hlt SB
  · exact rmGeD0 l Z a0 hw ws c1 d1 kd m0 m1 u1 h0 n0 O0 Ec Fw Fs Fu Vd necd gc gd hm1 hu hlt SB
abbrev y_13 : MethodName := (⟨"java/util/BitSet", "recalculateWordsInUse", "()V"⟩ : MethodName)
theorem ef_6 (m : MethodId) (x0 : Addr) : entryFrame m #[(.ref x0)] 2 = mkF m 0 #[.val (.ref x0), .unset] [] := by first | (simp [entryFrame, mkF, argsToLocals, Value.category]; done) | rfl
abbrev C13 := jdk_92_method_3_code
theorem dc13_0 : decode C13 0 = .ok (.aload_n 0, 1) := by decide +kernel
theorem dc13_1 : decode C13 1 = .ok (.getfield 7, 3) := by decide +kernel
theorem dc13_4 : decode C13 4 = .ok (.iconst 1, 1) := by decide +kernel
theorem dc13_5 : decode C13 5 = .ok (.isub, 1) := by decide +kernel
theorem dc13_6 : decode C13 6 = .ok (.istore_n 1, 1) := by decide +kernel
theorem dc13_7 : decode C13 7 = .ok (.iload_n 1, 1) := by decide +kernel
theorem dc13_8 : decode C13 8 = .ok (.ifCond .lt 23, 3) := by decide +kernel
theorem dc13_11 : decode C13 11 = .ok (.aload_n 0, 1) := by decide +kernel
theorem dc13_12 : decode C13 12 = .ok (.getfield 11, 3) := by decide +kernel
theorem dc13_15 : decode C13 15 = .ok (.iload_n 1, 1) := by decide +kernel
theorem dc13_16 : decode C13 16 = .ok (.laload, 1) := by decide +kernel
theorem dc13_17 : decode C13 17 = .ok (.lconst 0, 1) := by decide +kernel
theorem dc13_18 : decode C13 18 = .ok (.lcmp, 1) := by decide +kernel
theorem dc13_19 : decode C13 19 = .ok (.ifCond .eq 6, 3) := by decide +kernel
theorem dc13_22 : decode C13 22 = .ok (.goto 9, 3) := by decide +kernel
theorem dc13_31 : decode C13 31 = .ok (.aload_n 0, 1) := by decide +kernel
theorem dc13_32 : decode C13 32 = .ok (.iload_n 1, 1) := by decide +kernel
theorem dc13_33 : decode C13 33 = .ok (.iconst 1, 1) := by decide +kernel
theorem dc13_34 : decode C13 34 = .ok (.iadd, 1) := by decide +kernel
theorem dc13_35 : decode C13 35 = .ok (.putfield 7, 3) := by decide +kernel
theorem dc13_38 : decode C13 38 = .ok (.return_, 1) := by decide +kernel
theorem rmRwB (l : Launch) (Z : State) (a0 : Array Value) (hw : HwT a0 Z) (ws : List Jvm.Cond) (c1 d1 : Addr) (kd : ClassId) (m0 m1 : Int64) (h0 : Heap) (n0 : Nat) (O0 : Old Z n0 h0) (Ec : Exa Z h0 c1 sB) (Fw : Fld Z h0 c1 sB "words" "[J" (.ref d1)) (Fs : Fld Z h0 c1 sB "sizeIsSticky" "Z" (.int (0 : Int32))) (Fu : Fld Z h0 c1 sB "wordsInUse" "I" (.int (1 : Int32))) (Vd : Arv Z h0 d1 kd .long (1 : Int32) [(.long m0)] (.long (0 : Int64))) (necd : c1 ≠ d1) (gc : n0 ≤ c1) (gd : n0 ≤ d1) (hx0 : ¬ m0 = (0 : Int64)) :
    Mt l Z y_13 jdk_92_method_3_code 2 none ws ({ frames := 0, cells := 0, slots := 0, locals := 0 } : Room) #[(.ref c1)] h0 (Q_f1 Z c1 d1 h0 n0) := by
  refine MetFree.of_bodySF (plainFor_of_name pn_1) hisR ?_
  intro p e s m args below meth c s₁ Bd hml0 hP hK
  obtain ⟨rfl, hZ, hh⟩ := hP
  have hx := Bd.exec
  have hby := Bd.bytes
  have hml : c.maxLocals = 2 := hml0
  have hown : s.vm.findClass sB = some m.cls := findClass_of_methodNamed Bd.named
  have hnm := (name_of_methodNamed Bd.named Bd.method).1
  have X0 : Stand p l e ({ frames := 0, cells := 0, slots := 0, locals := 0 } : Room) s m #[(.ref c1)] below meth c s₁ [] 0 0 := Stand.of_body Bd
  have e0 : s₁.heap = h0 := by rw [← hh, Bd.state]; rfl
  have N0 := Fr.nil n0
  have pre0 := fun t (k : Steps p.tables e below (s₁.setTop _) t) => castTop (ef_6 m c1) k
  obtain ⟨T101, X101, e101, st101⟩ := gG X0 hx hZ hown (wq hw 76 rfl) e0 Fu (g := (mkF m 1 #[vR c1, .unset] [(.ref c1)])) rfl rfl (hb hby dc13_1)
  obtain ⟨T102, X102, e102, st102⟩ := gG X101 hx hZ hown (wq hw 88 rfl) e101 Fw (g := (mkF m 12 #[vR c1, vI (0 : Int32)] [(.ref c1)])) rfl rfl (hb hby dc13_12)
  obtain ⟨cl103, Ar103, q103, S103, N103_, H103, G103⟩ := id Vd
  have hin103 : ¬ ((0 : Int32) < 0 ∨ cl103.slots.size ≤ ((0 : Int32)).toNatClampNeg) := inb_of S103 ⟨by decide, by decide⟩
  have hat103 : cl103.slots[((0 : Int32)).toNatClampNeg]? = some (.long m0) := H103.at hin103 rfl
  obtain ⟨T104, h104, X104, e104, W104, st104⟩ := putF X102 hx hZ hown (host := "") (Or.inl (wq hw 76 rfl)) Via.refl e102 Fu Ec (Or.inl (wq hw 77 rfl)) (wq hw 70 rfl) (ty := .int) (by decide) rfl rfl (g := (mkF m 35 #[vR c1, vI (0 : Int32)] [(.int (1 : Int32)), (.ref c1)])) rfl rfl (hb hby dc13_35)
  have Fw104 : Fld Z h104 c1 sB "wordsInUse" "I" (.int (1 : Int32)) := Fld.same W104 Fu
  have N104 := Fr.snoc X104 N0 gc
  obtain ⟨fs, hr, hrun, hended, hW, hsame⟩ := X104.leave (v := none) (fun _ => rfl)
  have K105 : Keep h0 h104 [c1] := (Keep.wr (Keep.refl h0 [c1]) W104 (Or.inl (List.mem_of_getElem? (i := 0) rfl)))
  have f106 := (Ec.wr W104)
  have f107 := (Fw.other W104 (Or.inr (slot_ne (Or.inl (wq hw 89 rfl)) (Or.inl (wq hw 77 rfl)) (by decide) (t := (.array .long)) (t' := .int) (by decide) (by decide))))
  have f108 := (Fs.other W104 (Or.inr (slot_ne (Or.inl (wq hw 79 rfl)) (Or.inl (wq hw 77 rfl)) (by decide) (t := .boolean) (t' := .int) (by decide) (by decide))))
  refine ⟨_, _, pre0 _ ?_, hrun, hended, _, _, rfl, ?_, ⟨_, rfl⟩, hW, hsame.mono (by decide) (by decide)⟩
  · skip
    show Steps p.tables e below (s₁.setTop (mkF m 0 #[vR c1, .unset] [])) _
    refine XS.aloadN X0.here hx rfl (hb hby dc13_0) rfl rfl ?_
    refine st101 _ ?_
    show Steps p.tables e below (T101.setTop (mkF m 4 #[vR c1, .unset] [(.int (1 : Int32))])) _
    refine XS.iconst X101.here hx rfl (hb hby dc13_4) ?_
    refine XS.isub X101.here hx rfl (hb hby dc13_5) rfl ?_
    refine XS.istoreN X101.here hx rfl (hb hby dc13_6) rfl (l' := #[vR c1, vI (0 : Int32)]) rfl ?_
    refine XS.iloadN X101.here hx rfl (hb hby dc13_7) rfl ?_
    refine XS.ifNo X101.here hx rfl (hb hby dc13_8) rfl (by decide) ?_
    refine XS.aloadN X101.here hx rfl (hb hby dc13_11) rfl rfl ?_
    refine st102 _ ?_
    refine XS.iloadN X102.here hx rfl (hb hby dc13_15) rfl ?_
    refine X102.laload hx (j := (0 : Int32)) (v := (.long m0)) (by rw [e102]; exact Ar103.1) (State.isArrayOf_alike hZ.alike Ar103.2.1) Ar103.2.2 hin103 hat103 (g := (mkF m 16 #[vR c1, vI (0 : Int32)] [(.int (0 : Int32)), (.ref d1)])) rfl rfl (hb hby dc13_16) _ ?_
    refine XS.lconst X102.here hx rfl (hb hby dc13_17) ?_
    refine XS.lcmp X102.here hx rfl (hb hby dc13_18) rfl ?_
    refine XS.ifNo X102.here hx rfl (hb hby dc13_19) rfl ((if0 _ _).trans (feq (mt (lw_eq _ _).mp hx0)).1) ?_
    show Steps p.tables e below (T102.setTop (mkF m 22 #[vR c1, vI (0 : Int32)] [])) _
    refine XS.goto X102.here hx rfl (pc0 := 22) (pc' := 31) rfl (hb hby dc13_22) (by decide) (by decide) ?_
    refine XS.aloadN X102.here hx rfl (hb hby dc13_31) rfl rfl ?_
    refine XS.iloadN X102.here hx rfl (hb hby dc13_32) rfl ?_
    refine XS.iconst X102.here hx rfl (hb hby dc13_33) ?_
    refine XS.iadd X102.here hx rfl (hb hby dc13_34) rfl ?_
    refine st104 _ ?_
    exact X104.returnOut hx Bd.returns (hb hby dc13_38) hr
  · show Q_f1 Z c1 d1 h0 n0 _ T104.heap _
    rw [e104]
    exact ⟨rfl, N104, K105, f106, f107, f108, Fw104⟩
theorem rmRwD (l : Launch) (Z : State) (a0 : Array Value) (hw : HwT a0 Z) (ws : List Jvm.Cond) (c1 d1 : Addr) (kd : ClassId) (m0 m1 : Int64) (h0 : Heap) (n0 : Nat) (O0 : Old Z n0 h0) (Ec : Exa Z h0 c1 sB) (Fw : Fld Z h0 c1 sB "words" "[J" (.ref d1)) (Fs : Fld Z h0 c1 sB "sizeIsSticky" "Z" (.int (0 : Int32))) (Fu : Fld Z h0 c1 sB "wordsInUse" "I" (.int (2 : Int32))) (Vd : Arv Z h0 d1 kd .long (2 : Int32) [(.long m0), (.long m1)] (.long (0 : Int64))) (necd : c1 ≠ d1) (gc : n0 ≤ c1) (gd : n0 ≤ d1) (hx1 : ¬ m1 = (0 : Int64)) :
    Mt l Z y_13 jdk_92_method_3_code 2 none ws ({ frames := 0, cells := 0, slots := 0, locals := 0 } : Room) #[(.ref c1)] h0 (Q_f2 Z c1 d1 h0 n0) := by
  refine MetFree.of_bodySF (plainFor_of_name pn_1) hisR ?_
  intro p e s m args below meth c s₁ Bd hml0 hP hK
  obtain ⟨rfl, hZ, hh⟩ := hP
  have hx := Bd.exec
  have hby := Bd.bytes
  have hml : c.maxLocals = 2 := hml0
  have hown : s.vm.findClass sB = some m.cls := findClass_of_methodNamed Bd.named
  have hnm := (name_of_methodNamed Bd.named Bd.method).1
  have X0 : Stand p l e ({ frames := 0, cells := 0, slots := 0, locals := 0 } : Room) s m #[(.ref c1)] below meth c s₁ [] 0 0 := Stand.of_body Bd
  have e0 : s₁.heap = h0 := by rw [← hh, Bd.state]; rfl
  have N0 := Fr.nil n0
  have pre0 := fun t (k : Steps p.tables e below (s₁.setTop _) t) => castTop (ef_6 m c1) k
  obtain ⟨T101, X101, e101, st101⟩ := gG X0 hx hZ hown (wq hw 76 rfl) e0 Fu (g := (mkF m 1 #[vR c1, .unset] [(.ref c1)])) rfl rfl (hb hby dc13_1)
  obtain ⟨T102, X102, e102, st102⟩ := gG X101 hx hZ hown (wq hw 88 rfl) e101 Fw (g := (mkF m 12 #[vR c1, vI (1 : Int32)] [(.ref c1)])) rfl rfl (hb hby dc13_12)
  obtain ⟨cl103, Ar103, q103, S103, N103_, H103, G103⟩ := id Vd
  have hin103 : ¬ ((1 : Int32) < 0 ∨ cl103.slots.size ≤ ((1 : Int32)).toNatClampNeg) := inb_of S103 ⟨by decide, by decide⟩
  have hat103 : cl103.slots[((1 : Int32)).toNatClampNeg]? = some (.long m1) := H103.at hin103 rfl
  obtain ⟨T104, h104, X104, e104, W104, st104⟩ := putF X102 hx hZ hown (host := "") (Or.inl (wq hw 76 rfl)) Via.refl e102 Fu Ec (Or.inl (wq hw 77 rfl)) (wq hw 70 rfl) (ty := .int) (by decide) rfl rfl (g := (mkF m 35 #[vR c1, vI (1 : Int32)] [(.int (2 : Int32)), (.ref c1)])) rfl rfl (hb hby dc13_35)
  have Fw104 : Fld Z h104 c1 sB "wordsInUse" "I" (.int (2 : Int32)) := Fld.same W104 Fu
  have N104 := Fr.snoc X104 N0 gc
  obtain ⟨fs, hr, hrun, hended, hW, hsame⟩ := X104.leave (v := none) (fun _ => rfl)
  have K105 : Keep h0 h104 [c1] := (Keep.wr (Keep.refl h0 [c1]) W104 (Or.inl (List.mem_of_getElem? (i := 0) rfl)))
  have f106 := (Ec.wr W104)
  have f107 := (Fw.other W104 (Or.inr (slot_ne (Or.inl (wq hw 89 rfl)) (Or.inl (wq hw 77 rfl)) (by decide) (t := (.array .long)) (t' := .int) (by decide) (by decide))))
  have f108 := (Fs.other W104 (Or.inr (slot_ne (Or.inl (wq hw 79 rfl)) (Or.inl (wq hw 77 rfl)) (by decide) (t := .boolean) (t' := .int) (by decide) (by decide))))
  refine ⟨_, _, pre0 _ ?_, hrun, hended, _, _, rfl, ?_, ⟨_, rfl⟩, hW, hsame.mono (by decide) (by decide)⟩
  · skip
    show Steps p.tables e below (s₁.setTop (mkF m 0 #[vR c1, .unset] [])) _
    refine XS.aloadN X0.here hx rfl (hb hby dc13_0) rfl rfl ?_
    refine st101 _ ?_
    show Steps p.tables e below (T101.setTop (mkF m 4 #[vR c1, .unset] [(.int (2 : Int32))])) _
    refine XS.iconst X101.here hx rfl (hb hby dc13_4) ?_
    refine XS.isub X101.here hx rfl (hb hby dc13_5) rfl ?_
    refine XS.istoreN X101.here hx rfl (hb hby dc13_6) rfl (l' := #[vR c1, vI (1 : Int32)]) rfl ?_
    refine XS.iloadN X101.here hx rfl (hb hby dc13_7) rfl ?_
    refine XS.ifNo X101.here hx rfl (hb hby dc13_8) rfl (by decide) ?_
    refine XS.aloadN X101.here hx rfl (hb hby dc13_11) rfl rfl ?_
    refine st102 _ ?_
    refine XS.iloadN X102.here hx rfl (hb hby dc13_15) rfl ?_
    refine X102.laload hx (j := (1 : Int32)) (v := (.long m1)) (by rw [e102]; exact Ar103.1) (State.isArrayOf_alike hZ.alike Ar103.2.1) Ar103.2.2 hin103 hat103 (g := (mkF m 16 #[vR c1, vI (1 : Int32)] [(.int (1 : Int32)), (.ref d1)])) rfl rfl (hb hby dc13_16) _ ?_
    refine XS.lconst X102.here hx rfl (hb hby dc13_17) ?_
    refine XS.lcmp X102.here hx rfl (hb hby dc13_18) rfl ?_
    refine XS.ifNo X102.here hx rfl (hb hby dc13_19) rfl ((if0 _ _).trans (feq (mt (lw_eq _ _).mp hx1)).1) ?_
    show Steps p.tables e below (T102.setTop (mkF m 22 #[vR c1, vI (1 : Int32)] [])) _
    refine XS.goto X102.here hx rfl (pc0 := 22) (pc' := 31) rfl (hb hby dc13_22) (by decide) (by decide) ?_
    refine XS.aloadN X102.here hx rfl (hb hby dc13_31) rfl rfl ?_
    refine XS.iloadN X102.here hx rfl (hb hby dc13_32) rfl ?_
    refine XS.iconst X102.here hx rfl (hb hby dc13_33) ?_
    refine XS.iadd X102.here hx rfl (hb hby dc13_34) rfl ?_
    refine st104 _ ?_
    exact X104.returnOut hx Bd.returns (hb hby dc13_38) hr
  · show Q_f2 Z c1 d1 h0 n0 _ T104.heap _
    rw [e104]
    exact ⟨rfl, N104, K105, f106, f107, f108, Fw104⟩
theorem dc13_25 : decode C13 25 = .ok (.iinc 1 (-1), 3) := by decide +kernel
theorem dc13_28 : decode C13 28 = .ok (.goto (-21), 3) := by decide +kernel
theorem rmRwE (l : Launch) (Z : State) (a0 : Array Value) (hw : HwT a0 Z) (ws : List Jvm.Cond) (c1 d1 : Addr) (kd : ClassId) (m0 m1 : Int64) (h0 : Heap) (n0 : Nat) (O0 : Old Z n0 h0) (Ec : Exa Z h0 c1 sB) (Fw : Fld Z h0 c1 sB "words" "[J" (.ref d1)) (Fs : Fld Z h0 c1 sB "sizeIsSticky" "Z" (.int (0 : Int32))) (Fu : Fld Z h0 c1 sB "wordsInUse" "I" (.int (2 : Int32))) (Vd : Arv Z h0 d1 kd .long (2 : Int32) [(.long m0), (.long m1)] (.long (0 : Int64))) (necd : c1 ≠ d1) (gc : n0 ≤ c1) (gd : n0 ≤ d1) (hx1 : m1 = (0 : Int64)) (hx0 : ¬ m0 = (0 : Int64)) :
    Mt l Z y_13 jdk_92_method_3_code 2 none ws ({ frames := 0, cells := 0, slots := 0, locals := 0 } : Room) #[(.ref c1)] h0 (Q_f1 Z c1 d1 h0 n0) := by
  refine MetFree.of_bodySF (plainFor_of_name pn_1) hisR ?_
  intro p e s m args below meth c s₁ Bd hml0 hP hK
  obtain ⟨rfl, hZ, hh⟩ := hP
  have hx := Bd.exec
  have hby := Bd.bytes
  have hml : c.maxLocals = 2 := hml0
  have hown : s.vm.findClass sB = some m.cls := findClass_of_methodNamed Bd.named
  have hnm := (name_of_methodNamed Bd.named Bd.method).1
  have X0 : Stand p l e ({ frames := 0, cells := 0, slots := 0, locals := 0 } : Room) s m #[(.ref c1)] below meth c s₁ [] 0 0 := Stand.of_body Bd
  have e0 : s₁.heap = h0 := by rw [← hh, Bd.state]; rfl
  have N0 := Fr.nil n0
  have pre0 := fun t (k : Steps p.tables e below (s₁.setTop _) t) => castTop (ef_6 m c1) k
  obtain ⟨T101, X101, e101, st101⟩ := gG X0 hx hZ hown (wq hw 76 rfl) e0 Fu (g := (mkF m 1 #[vR c1, .unset] [(.ref c1)])) rfl rfl (hb hby dc13_1)
  obtain ⟨T102, X102, e102, st102⟩ := gG X101 hx hZ hown (wq hw 88 rfl) e101 Fw (g := (mkF m 12 #[vR c1, vI (1 : Int32)] [(.ref c1)])) rfl rfl (hb hby dc13_12)
  obtain ⟨cl103, Ar103, q103, S103, N103_, H103, G103⟩ := id Vd
  have hin103 : ¬ ((1 : Int32) < 0 ∨ cl103.slots.size ≤ ((1 : Int32)).toNatClampNeg) := inb_of S103 ⟨by decide, by decide⟩
  have hat103 : cl103.slots[((1 : Int32)).toNatClampNeg]? = some (.long m1) := H103.at hin103 rfl
  obtain ⟨T104, X104, e104, st104⟩ := gG X102 hx hZ hown (wq hw 88 rfl) e102 Fw (g := (mkF m 12 #[vR c1, vI (0 : Int32)] [(.ref c1)])) rfl rfl (hb hby dc13_12)
  obtain ⟨cl105, Ar105, q105, S105, N105_, H105, G105⟩ := id Vd
  have hin105 : ¬ ((0 : Int32) < 0 ∨ cl105.slots.size ≤ ((0 : Int32)).toNatClampNeg) := inb_of S105 ⟨by decide, by decide⟩
  have hat105 : cl105.slots[((0 : Int32)).toNatClampNeg]? = some (.long m0) := H105.at hin105 rfl
  obtain ⟨T106, h106, X106, e106, W106, st106⟩ := putF X104 hx hZ hown (host := "") (Or.inl (wq hw 76 rfl)) Via.refl e104 Fu Ec (Or.inl (wq hw 77 rfl)) (wq hw 70 rfl) (ty := .int) (by decide) rfl rfl (g := (mkF m 35 #[vR c1, vI (0 : Int32)] [(.int (1 : Int32)), (.ref c1)])) rfl rfl (hb hby dc13_35)
  have Fw106 : Fld Z h106 c1 sB "wordsInUse" "I" (.int (1 : Int32)) := Fld.same W106 Fu
  have N106 := Fr.snoc X106 N0 gc
  obtain ⟨fs, hr, hrun, hended, hW, hsame⟩ := X106.leave (v := none) (fun _ => rfl)
  have K107 : Keep h0 h106 [c1] := (Keep.wr (Keep.refl h0 [c1]) W106 (Or.inl (List.mem_of_getElem? (i := 0) rfl)))
  have f108 := (Ec.wr W106)
  have f109 := (Fw.other W106 (Or.inr (slot_ne (Or.inl (wq hw 89 rfl)) (Or.inl (wq hw 77 rfl)) (by decide) (t := (.array .long)) (t' := .int) (by decide) (by decide))))
  have f110 := (Fs.other W106 (Or.inr (slot_ne (Or.inl (wq hw 79 rfl)) (Or.inl (wq hw 77 rfl)) (by decide) (t := .boolean) (t' := .int) (by decide) (by decide))))
  refine ⟨_, _, pre0 _ ?_, hrun, hended, _, _, rfl, ?_, ⟨_, rfl⟩, hW, hsame.mono (by decide) (by decide)⟩
  · skip
    show Steps p.tables e below (s₁.setTop (mkF m 0 #[vR c1, .unset] [])) _
    refine XS.aloadN X0.here hx rfl (hb hby dc13_0) rfl rfl ?_
    refine st101 _ ?_
    refine XS.iconst X101.here hx rfl (hb hby dc13_4) ?_
    show Steps p.tables e below (T101.setTop (mkF m 5 #[vR c1, .unset] [(.int (1 : Int32)), (.int (2 : Int32))])) _
    refine XS.isub X101.here hx rfl (hb hby dc13_5) rfl ?_
    refine XS.istoreN X101.here hx rfl (hb hby dc13_6) rfl (l' := #[vR c1, vI (1 : Int32)]) rfl ?_
    refine XS.iloadN X101.here hx rfl (hb hby dc13_7) rfl ?_
    refine XS.ifNo X101.here hx rfl (hb hby dc13_8) rfl (by decide) ?_
    refine XS.aloadN X101.here hx rfl (hb hby dc13_11) rfl rfl ?_
    refine st102 _ ?_
    refine XS.iloadN X102.here hx rfl (hb hby dc13_15) rfl ?_
    refine X102.laload hx (j := (1 : Int32)) (v := (.long m1)) (by rw [e102]; exact Ar103.1) (State.isArrayOf_alike hZ.alike Ar103.2.1) Ar103.2.2 hin103 hat103 (g := (mkF m 16 #[vR c1, vI (1 : Int32)] [(.int (1 : Int32)), (.ref d1)])) rfl rfl (hb hby dc13_16) _ ?_
    refine XS.lconst X102.here hx rfl (hb hby dc13_17) ?_
    refine XS.lcmp X102.here hx rfl (hb hby dc13_18) rfl ?_
    refine XS.ifYes X102.here hx rfl (pc0 := 19) (pc' := 25) rfl (hb hby dc13_19) rfl ((if0 _ _).trans (teq ((lw_eq _ _).mpr hx1)).1) (by decide) (by decide) ?_
    refine XS.iinc X102.here hx rfl (hb hby dc13_25) rfl (l' := #[vR c1, vI (0 : Int32)]) rfl ?_
    show Steps p.tables e below (T102.setTop (mkF m 28 #[vR c1, vI (0 : Int32)] [])) _
    refine XS.goto X102.here hx rfl (pc0 := 28) (pc' := 7) rfl (hb hby dc13_28) (by decide) (by decide) ?_
    refine XS.iloadN X102.here hx rfl (hb hby dc13_7) rfl ?_
    refine XS.ifNo X102.here hx rfl (hb hby dc13_8) rfl (by decide) ?_
    refine XS.aloadN X102.here hx rfl (hb hby dc13_11) rfl rfl ?_
    refine st104 _ ?_
    refine XS.iloadN X104.here hx rfl (hb hby dc13_15) rfl ?_
    refine X104.laload hx (j := (0 : Int32)) (v := (.long m0)) (by rw [e104]; exact Ar105.1) (State.isArrayOf_alike hZ.alike Ar105.2.1) Ar105.2.2 hin105 hat105 (g := (mkF m 16 #[vR c1, vI (0 : Int32)] [(.int (0 : Int32)), (.ref d1)])) rfl rfl (hb hby dc13_16) _ ?_
    refine XS.lconst X104.here hx rfl (hb hby dc13_17) ?_
    refine XS.lcmp X104.here hx rfl (hb hby dc13_18) rfl ?_
    refine XS.ifNo X104.here hx rfl (hb hby dc13_19) rfl ((if0 _ _).trans (feq (mt (lw_eq _ _).mp hx0)).1) ?_
    refine XS.goto X104.here hx rfl (pc0 := 22) (pc' := 31) rfl (hb hby dc13_22) (by decide) (by decide) ?_
    refine XS.aloadN X104.here hx rfl (hb hby dc13_31) rfl rfl ?_
    show Steps p.tables e below (T104.setTop (mkF m 32 #[vR c1, vI (0 : Int32)] [(.ref c1)])) _
    refine XS.iloadN X104.here hx rfl (hb hby dc13_32) rfl ?_
    refine XS.iconst X104.here hx rfl (hb hby dc13_33) ?_
    refine XS.iadd X104.here hx rfl (hb hby dc13_34) rfl ?_
    refine st106 _ ?_
    exact X106.returnOut hx Bd.returns (hb hby dc13_38) hr
  · show Q_f1 Z c1 d1 h0 n0 _ T106.heap _
    rw [e106]
    exact ⟨rfl, N106, K107, f108, f109, f110, Fw106⟩
def Q_cl (Z : State) (c1 d1 : Addr) (u1 : Int32) (m0 m1 : Int64) (h0 : Heap) (n0 : Nat) (v : Option Value) (h : Heap) (L : List Loc) : Prop := v = none ∧ Fr n0 L ∧ Keep h0 h [c1, d1] ∧ Bs Z h c1 d1 (own_c0 u1 m0) (own_c1 u1 m1) (¬ u1 < (64 : Int32))
abbrev y_14 : MethodName := (⟨"java/util/BitSet", "clear", "(I)V"⟩ : MethodName)
abbrev C14 := jdk_92_method_23_code
theorem dc14_0 : decode C14 0 = .ok (.iload_n 1, 1) := by decide +kernel
theorem dc14_1 : decode C14 1 = .ok (.ifCond .ge 30, 3) := by decide +kernel
theorem dc14_31 : decode C14 31 = .ok (.iload_n 1, 1) := by decide +kernel
theorem dc14_32 : decode C14 32 = .ok (.invokestatic 52, 3) := by decide +kernel
theorem dc14_35 : decode C14 35 = .ok (.istore_n 2, 1) := by decide +kernel
theorem dc14_36 : decode C14 36 = .ok (.iload_n 2, 1) := by decide +kernel
theorem dc14_37 : decode C14 37 = .ok (.aload_n 0, 1) := by decide +kernel
theorem dc14_38 : decode C14 38 = .ok (.getfield 7, 3) := by decide +kernel
theorem dc14_41 : decode C14 41 = .ok (.if_icmp .lt 4, 3) := by decide +kernel
theorem dc14_45 : decode C14 45 = .ok (.aload_n 0, 1) := by decide +kernel
theorem dc14_46 : decode C14 46 = .ok (.getfield 11, 3) := by decide +kernel
theorem dc14_49 : decode C14 49 = .ok (.iload_n 2, 1) := by decide +kernel
theorem dc14_50 : decode C14 50 = .ok (.dup2, 1) := by decide +kernel
theorem dc14_51 : decode C14 51 = .ok (.laload, 1) := by decide +kernel
theorem dc14_52 : decode C14 52 = .ok (.lconst 1, 1) := by decide +kernel
theorem dc14_53 : decode C14 53 = .ok (.iload_n 1, 1) := by decide +kernel
theorem dc14_54 : decode C14 54 = .ok (.lshl, 1) := by decide +kernel
theorem dc14_55 : decode C14 55 = .ok (.ldc2_w 165, 3) := by decide +kernel
theorem dc14_58 : decode C14 58 = .ok (.lxor, 1) := by decide +kernel
theorem dc14_59 : decode C14 59 = .ok (.land, 1) := by decide +kernel
theorem dc14_60 : decode C14 60 = .ok (.lastore, 1) := by decide +kernel
theorem dc14_61 : decode C14 61 = .ok (.aload_n 0, 1) := by decide +kernel
theorem dc14_62 : decode C14 62 = .ok (.invokevirtual 158, 3) := by decide +kernel
theorem dc14_65 : decode C14 65 = .ok (.aload_n 0, 1) := by decide +kernel
theorem dc14_66 : decode C14 66 = .ok (.invokevirtual 56, 3) := by decide +kernel
theorem dc14_69 : decode C14 69 = .ok (.return_, 1) := by decide +kernel
theorem rmClB1 (l : Launch) (Z : State) (a0 : Array Value) (hw : HwT a0 Z) (ws : List Jvm.Cond) (c1 d1 : Addr) (kd : ClassId) (m0 m1 : Int64) (u1 : Int32) (h0 : Heap) (n0 : Nat) (O0 : Old Z n0 h0) (Ec : Exa Z h0 c1 sB) (Fw : Fld Z h0 c1 sB "words" "[J" (.ref d1)) (Fs : Fld Z h0 c1 sB "sizeIsSticky" "Z" (.int (0 : Int32))) (Fu : Fld Z h0 c1 sB "wordsInUse" "I" (.int (1 : Int32))) (Vd : Arv Z h0 d1 kd .long (1 : Int32) [(.long m0)] (.long (0 : Int64))) (necd : c1 ≠ d1) (gc : n0 ≤ c1) (gd : n0 ≤ d1) (hu : own_r u1) (hlt : u1 < (64 : Int32)) (hne : ¬ ((m0 &&& ((own_bt u1) ^^^ (-1 : Int64))) = (0 : Int64) ∧ (0 : Int64) = (0 : Int64))) (SB : Sta Z Z.heap sB "$assertionsDisabled" "Z" (.int (1 : Int32))) :
    Mt l Z y_14 jdk_92_method_23_code 3 none ws ({ frames := 1, cells := 0, slots := 0, locals := 13 } : Room) #[(.ref c1), (.int u1)] h0 (Q_cl Z c1 d1 u1 m0 (0 : Int64) h0 n0) := by
  refine MetFree.of_bodySF (plainFor_of_name pn_1) hisR ?_
  intro p e s m args below meth c s₁ Bd hml0 hP hK
  obtain ⟨rfl, hZ, hh⟩ := hP
  have hx := Bd.exec
  have hby := Bd.bytes
  have hml : c.maxLocals = 3 := hml0
  have hown : s.vm.findClass sB = some m.cls := findClass_of_methodNamed Bd.named
  have hnm := (name_of_methodNamed Bd.named Bd.method).1
  have X0 : Stand p l e ({ frames := 1, cells := 0, slots := 0, locals := 13 } : Room) s m #[(.ref c1), (.int u1)] below meth c s₁ [] 0 0 := Stand.of_body Bd
  have e0 : s₁.heap = h0 := by rw [← hh, Bd.state]; rfl
  have N0 := Fr.nil n0
  have pre0 := fun t (k : Steps p.tables e below (s₁.setTop _) t) => castTop (ef_5 m c1 u1) k
  have hz0 : ¬ (m0 &&& ((own_bt u1) ^^^ (-1 : Int64))) = (0 : Int64) := fun q => hne ⟨q, rfl⟩
  obtain ⟨_, _, ⟨T101, L101, k101, n101⟩, -, X101, ⟨Lc101, hQ101, l101, y101, z101⟩, st101⟩ := Jvm.LawKit.callS X0 hx (y := y_3) hown (mvT hZ (wq hw 85 rfl)) (mvT hZ (wq hw 86 rfl)) (mvT hZ (wq hw 71 rfl)) (mvT hZ (wq hw 87 rfl)) (by decide) (backOf (W := 0) (rmWi l Z a0 hw [] u1 (0 : Int32) h0 n0 O0 (own_w0 hu hlt)) hZ (wq hw 87 rfl) (wq hw 71 rfl) (by decide) (by decide)) (g := (mkF m 32 #[vR c1, vI u1, .unset] [(.int u1)])) rfl (by rw [hml]; rfl) (argsL := [(.int u1)]) (rest := []) (lenOf pd_0 rfl) rfl (by show 2 * 0 + _ ≤ _; exact Nat.le_of_eq rfl) (hb hby dc14_32) (fun _ _ => ⟨rfl, e0, (by decide : 0 + 0 ≤ _), (by decide : 0 + 0 ≤ _)⟩)
  dsimp only [Pt.U, Pt.locs, Pt.cells, Pt.slots] at X101 l101 y101 z101 st101 hQ101
  subst l101 y101 z101
  obtain ⟨rfl, N101q, hh101⟩ := hQ101
  have N101 := Fr.app N0 N101q
  obtain ⟨T102, X102, e102, st102⟩ := gG X101 hx hZ hown (wq hw 76 rfl) hh101 Fu (g := (mkF m 38 #[vR c1, vI u1, vI (0 : Int32)] [(.ref c1), (.int (0 : Int32))])) rfl rfl (hb hby dc14_38)
  obtain ⟨T103, X103, e103, st103⟩ := gG X102 hx hZ hown (wq hw 88 rfl) e102 Fw (g := (mkF m 46 #[vR c1, vI u1, vI (0 : Int32)] [(.ref c1)])) rfl rfl (hb hby dc14_46)
  obtain ⟨cl104, Ar104, q104, S104, N104_, H104, G104⟩ := id Vd
  have hin104 : ¬ ((0 : Int32) < 0 ∨ cl104.slots.size ≤ ((0 : Int32)).toNatClampNeg) := inb_of S104 ⟨by decide, by decide⟩
  have hat104 : cl104.slots[((0 : Int32)).toNatClampNeg]? = some (.long m0) := H104.at hin104 rfl
  obtain ⟨cl105, Ar105, q105, S105, N105_, H105, G105⟩ := id Vd
  have hin105 : ¬ ((0 : Int32) < 0 ∨ cl105.slots.size ≤ ((0 : Int32)).toNatClampNeg) := inb_of S105 ⟨by decide, by decide⟩
  obtain ⟨T106, h106, X106, e106, W106, st106⟩ := stJ X103 hx hZ e103 Ar105 (j := (0 : Int32)) hin105 (g := (mkF m 60 #[vR c1, vI u1, vI (0 : Int32)] [(.long (m0 &&& ((own_bt u1) ^^^ (-1 : Int64)))), (.int (0 : Int32)), (.ref d1)])) rfl rfl (hb hby dc14_60)
  have V106 : Arv Z h106 d1 kd .long (1 : Int32) [(.long (m0 &&& ((own_bt u1) ^^^ (-1 : Int64))))] (.long (0 : Int64)) := Arv.set Ar105 q105 S105 N105_ H105 G105 rfl W106 0 rfl (Nat.le_of_ble_eq_true rfl)
  have N106 := Fr.snoc X106 N101 gd
  have f107 := (Ec.wr W106)
  have f108 := (Fw.other W106 (Or.inl necd))
  have f109 := (Fs.other W106 (Or.inl necd))
  have f110 := (Fu.other W106 (Or.inl necd))
  have K111 : Keep h0 h106 [c1, d1] := (Keep.wr (Keep.refl h0 [c1, d1]) W106 (Or.inl (List.mem_of_getElem? (i := 1) rfl)))
  have O112 : Old Z n0 h106 := (O0.wr W106 gd)
  obtain ⟨cq113, q113, q113'⟩ := Exa.cell f107
  obtain ⟨_, _, ⟨T113, L113, k113, n113⟩, -, X113, ⟨Lc113, hQ113, l113, y113, z113⟩, st113⟩ := X106.privateBack hx (y := y_13) hown (mvT hZ (wq hw 133 rfl)) (mvT hZ (wq hw 134 rfl)) (mvT hZ (wq hw 136 rfl)) (Cond.privateMethod_at (mvP hZ (wq hw 135 rfl) (args := #[]))) (mvT hZ (wq hw 137 rfl)) (by decide) (backOf (W := 0) (rmRwB l Z a0 hw [] c1 d1 kd (m0 &&& ((own_bt u1) ^^^ (-1 : Int64))) (0 : Int64) h106 n0 O112 f107 f108 f109 f110 V106 necd gc gd hz0) hZ (wq hw 137 rfl) (wq hw 71 rfl) (by decide) (by decide)) (g := (mkF m 62 #[vR c1, vI u1, vI (0 : Int32)] [(.ref c1)])) rfl (by rw [hml]; rfl) (Steps.refl _) (a := c1) (by rw [e106]; exact q113) q113' (argsL := []) (rest := []) (lenOf pd_4 rfl) rfl (by show 2 * 0 + _ ≤ _; exact Nat.le_of_eq rfl) (hb hby dc14_62) (fun _ _ => ⟨rfl, e106, (by decide : 0 + 0 ≤ _), (by decide : 0 + 0 ≤ _)⟩)
  dsimp only [Pt.U, Pt.locs, Pt.cells, Pt.slots] at X113 l113 y113 z113 st113 hQ113
  subst l113 y113 z113
  obtain ⟨rfl, N113q, K113, Ec113, Fw113, Fs113, Fu113⟩ := hQ113
  have N113 := Fr.app N106 N113q
  have O114 : Old Z n0 T113.heap := (O112.keep K113 (allS gc all0))
  obtain ⟨cq115, q115, q115'⟩ := Exa.cell Ec113
  obtain ⟨_, _, ⟨T115, L115, k115, n115⟩, -, X115, ⟨Lc115, hQ115, l115, y115, z115⟩, st115⟩ := X113.privateBack hx (y := y_6) hown (mvT hZ (wq hw 105 rfl)) (mvT hZ (wq hw 106 rfl)) (mvT hZ (wq hw 108 rfl)) (Cond.privateMethod_at (mvP hZ (wq hw 107 rfl) (args := #[]))) (mvT hZ (wq hw 109 rfl)) (by decide) (backOf (W := 0) (rmCk l Z a0 hw [] c1 T113.heap n0 O114 SB) hZ (wq hw 109 rfl) (wq hw 71 rfl) (by decide) (by decide)) (g := (mkF m 66 #[vR c1, vI u1, vI (0 : Int32)] [(.ref c1)])) rfl (by rw [hml]; rfl) (Steps.refl _) (a := c1) q115 q115' (argsL := []) (rest := []) (lenOf pd_4 rfl) rfl (by show 2 * 0 + _ ≤ _; exact Nat.le_of_eq rfl) (hb hby dc14_66) (fun _ _ => ⟨rfl, rfl, (by decide : 0 + 0 ≤ _), (by decide : 0 + 0 ≤ _)⟩)
  dsimp only [Pt.U, Pt.locs, Pt.cells, Pt.slots] at X115 l115 y115 z115 st115 hQ115
  subst l115 y115 z115
  obtain ⟨rfl, N115q, hh115⟩ := hQ115
  have N115 := Fr.app N113 N115q
  obtain ⟨fs, hr, hrun, hended, hW, hsame⟩ := X115.leave (v := none) (fun _ => rfl)
  have K116 : Keep h0 T113.heap [c1, d1] := (Keep.trans K111 K113 (allS (P := fun x => x ∈ [c1, d1] ∨ h0.size ≤ x) (Or.inl (List.mem_of_getElem? (i := 0) rfl)) all0))
  have f117 := (V106.keep K113 (ninS (Ne.symm necd) nin0))
  refine ⟨_, _, pre0 _ ?_, hrun, hended, _, _, rfl, ?_, ⟨_, rfl⟩, hW, hsame.mono (by decide) (by decide)⟩
  · skip
    show Steps p.tables e below (s₁.setTop (mkF m 0 #[vR c1, vI u1, .unset] [])) _
    refine XS.iloadN X0.here hx rfl (hb hby dc14_0) rfl ?_
    refine XS.ifYes X0.here hx rfl (pc0 := 1) (pc' := 31) rfl (hb hby dc14_1) rfl ((if0 _ _).trans (flt (own_ge0 hu)).2.1) (by decide) (by decide) ?_
    refine XS.iloadN X0.here hx rfl (hb hby dc14_31) rfl ?_
    refine st101 _ ?_
    refine XS.istoreN X101.here hx rfl (hb hby dc14_35) rfl (l' := #[vR c1, vI u1, vI (0 : Int32)]) rfl ?_
    show Steps p.tables e below (T101.setTop (mkF m 36 #[vR c1, vI u1, vI (0 : Int32)] [])) _
    refine XS.iloadN X101.here hx rfl (hb hby dc14_36) rfl ?_
    refine XS.aloadN X101.here hx rfl (hb hby dc14_37) rfl rfl ?_
    refine st102 _ ?_
    refine XS.icmpYes X102.here hx rfl (pc0 := 41) (pc' := 45) rfl (hb hby dc14_41) rfl (by decide) (by decide) (by decide) ?_
    refine XS.aloadN X102.here hx rfl (hb hby dc14_45) rfl rfl ?_
    refine st103 _ ?_
    refine XS.iloadN X103.here hx rfl (hb hby dc14_49) rfl ?_
    jvm_step X103.here [X103.here.top, hx, (hb hby dc14_50), Value.category]
    refine X103.laload hx (j := (0 : Int32)) (v := (.long m0)) (by rw [e103]; exact Ar104.1) (State.isArrayOf_alike hZ.alike Ar104.2.1) Ar104.2.2 hin104 hat104 (g := (mkF m 51 #[vR c1, vI u1, vI (0 : Int32)] [(.int (0 : Int32)), (.ref d1), (.int (0 : Int32)), (.ref d1)])) rfl rfl (hb hby dc14_51) _ ?_
    refine XS.lconst X103.here hx rfl (hb hby dc14_52) ?_
    refine XS.iloadN X103.here hx rfl (hb hby dc14_53) rfl ?_
    refine XS.lshl X103.here hx rfl (hb hby dc14_54) rfl ?_
    show Steps p.tables e below (T103.setTop (mkF m 55 #[vR c1, vI u1, vI (0 : Int32)] [(.long ((1 : Int64) <<< (u1 &&& 0x3f).toInt64)), (.long m0), (.int (0 : Int32)), (.ref d1)])) _
    rw [(show ((1 : Int64) <<< (u1 &&& 0x3f).toInt64) = own_bt u1 from rfl)]
    refine X103.ldc2Long hx hown (mvT hZ (wq hw 132 rfl)) (g := (mkF m 55 #[vR c1, vI u1, vI (0 : Int32)] [(.long (own_bt u1)), (.long m0), (.int (0 : Int32)), (.ref d1)])) rfl (hb hby dc14_55) _ ?_
    refine XS.lxor X103.here hx rfl (hb hby dc14_58) rfl ?_
    refine XS.land X103.here hx rfl (hb hby dc14_59) rfl ?_
    refine st106 _ ?_
    refine XS.aloadN X106.here hx rfl (hb hby dc14_61) rfl rfl ?_
    refine st113.trans ?_
    refine XS.aloadN X113.here hx rfl (hb hby dc14_65) rfl rfl ?_
    refine st115.trans ?_
    exact X115.returnOut hx Bd.returns (hb hby dc14_69) hr
  · show Q_cl Z c1 d1 u1 m0 (0 : Int64) h0 n0 _ T115.heap _
    rw [hh115]
    unfold Q_cl
    rw [own_c0p hlt, own_c1p hlt]
    exact ⟨rfl, N115, K116, ⟨necd, Ec113, Fw113, Fs113, _, Or.inr (Or.inl ⟨Fu113, f117, rfl⟩)⟩⟩
theorem rmClD1 (l : Launch) (Z : State) (a0 : Array Value) (hw : HwT a0 Z) (ws : List Jvm.Cond) (c1 d1 : Addr) (kd : ClassId) (m0 m1 : Int64) (u1 : Int32) (h0 : Heap) (n0 : Nat) (O0 : Old Z n0 h0) (Ec : Exa Z h0 c1 sB) (Fw : Fld Z h0 c1 sB "words" "[J" (.ref d1)) (Fs : Fld Z h0 c1 sB "sizeIsSticky" "Z" (.int (0 : Int32))) (Fu : Fld Z h0 c1 sB "wordsInUse" "I" (.int (2 : Int32))) (Vd : Arv Z h0 d1 kd .long (2 : Int32) [(.long m0), (.long m1)] (.long (0 : Int64))) (necd : c1 ≠ d1) (gc : n0 ≤ c1) (gd : n0 ≤ d1) (hm1 : ¬ m1 = 0) (hu : own_r u1) (hlt : u1 < (64 : Int32)) (hne : ¬ ((m0 &&& ((own_bt u1) ^^^ (-1 : Int64))) = (0 : Int64) ∧ m1 = (0 : Int64))) (SB : Sta Z Z.heap sB "$assertionsDisabled" "Z" (.int (1 : Int32))) :
    Mt l Z y_14 jdk_92_method_23_code 3 none ws ({ frames := 1, cells := 0, slots := 0, locals := 13 } : Room) #[(.ref c1), (.int u1)] h0 (Q_cl Z c1 d1 u1 m0 m1 h0 n0) := by
  refine MetFree.of_bodySF (plainFor_of_name pn_1) hisR ?_
  intro p e s m args below meth c s₁ Bd hml0 hP hK
  obtain ⟨rfl, hZ, hh⟩ := hP
  have hx := Bd.exec
  have hby := Bd.bytes
  have hml : c.maxLocals = 3 := hml0
  have hown : s.vm.findClass sB = some m.cls := findClass_of_methodNamed Bd.named
  have hnm := (name_of_methodNamed Bd.named Bd.method).1
  have X0 : Stand p l e ({ frames := 1, cells := 0, slots := 0, locals := 13 } : Room) s m #[(.ref c1), (.int u1)] below meth c s₁ [] 0 0 := Stand.of_body Bd
  have e0 : s₁.heap = h0 := by rw [← hh, Bd.state]; rfl
  have N0 := Fr.nil n0
  have pre0 := fun t (k : Steps p.tables e below (s₁.setTop _) t) => castTop (ef_5 m c1 u1) k
  obtain ⟨_, _, ⟨T101, L101, k101, n101⟩, -, X101, ⟨Lc101, hQ101, l101, y101, z101⟩, st101⟩ := Jvm.LawKit.callS X0 hx (y := y_3) hown (mvT hZ (wq hw 85 rfl)) (mvT hZ (wq hw 86 rfl)) (mvT hZ (wq hw 71 rfl)) (mvT hZ (wq hw 87 rfl)) (by decide) (backOf (W := 0) (rmWi l Z a0 hw [] u1 (0 : Int32) h0 n0 O0 (own_w0 hu hlt)) hZ (wq hw 87 rfl) (wq hw 71 rfl) (by decide) (by decide)) (g := (mkF m 32 #[vR c1, vI u1, .unset] [(.int u1)])) rfl (by rw [hml]; rfl) (argsL := [(.int u1)]) (rest := []) (lenOf pd_0 rfl) rfl (by show 2 * 0 + _ ≤ _; exact Nat.le_of_eq rfl) (hb hby dc14_32) (fun _ _ => ⟨rfl, e0, (by decide : 0 + 0 ≤ _), (by decide : 0 + 0 ≤ _)⟩)
  dsimp only [Pt.U, Pt.locs, Pt.cells, Pt.slots] at X101 l101 y101 z101 st101 hQ101
  subst l101 y101 z101
  obtain ⟨rfl, N101q, hh101⟩ := hQ101
  have N101 := Fr.app N0 N101q
  obtain ⟨T102, X102, e102, st102⟩ := gG X101 hx hZ hown (wq hw 76 rfl) hh101 Fu (g := (mkF m 38 #[vR c1, vI u1, vI (0 : Int32)] [(.ref c1), (.int (0 : Int32))])) rfl rfl (hb hby dc14_38)
  obtain ⟨T103, X103, e103, st103⟩ := gG X102 hx hZ hown (wq hw 88 rfl) e102 Fw (g := (mkF m 46 #[vR c1, vI u1, vI (0 : Int32)] [(.ref c1)])) rfl rfl (hb hby dc14_46)
  obtain ⟨cl104, Ar104, q104, S104, N104_, H104, G104⟩ := id Vd
  have hin104 : ¬ ((0 : Int32) < 0 ∨ cl104.slots.size ≤ ((0 : Int32)).toNatClampNeg) := inb_of S104 ⟨by decide, by decide⟩
  have hat104 : cl104.slots[((0 : Int32)).toNatClampNeg]? = some (.long m0) := H104.at hin104 rfl
  obtain ⟨cl105, Ar105, q105, S105, N105_, H105, G105⟩ := id Vd
  have hin105 : ¬ ((0 : Int32) < 0 ∨ cl105.slots.size ≤ ((0 : Int32)).toNatClampNeg) := inb_of S105 ⟨by decide, by decide⟩
  obtain ⟨T106, h106, X106, e106, W106, st106⟩ := stJ X103 hx hZ e103 Ar105 (j := (0 : Int32)) hin105 (g := (mkF m 60 #[vR c1, vI u1, vI (0 : Int32)] [(.long (m0 &&& ((own_bt u1) ^^^ (-1 : Int64)))), (.int (0 : Int32)), (.ref d1)])) rfl rfl (hb hby dc14_60)
  have V106 : Arv Z h106 d1 kd .long (2 : Int32) [(.long (m0 &&& ((own_bt u1) ^^^ (-1 : Int64)))), (.long m1)] (.long (0 : Int64)) := Arv.set Ar105 q105 S105 N105_ H105 G105 rfl W106 0 rfl (Nat.le_of_ble_eq_true rfl)
  have N106 := Fr.snoc X106 N101 gd
  have f107 := (Ec.wr W106)
  have f108 := (Fw.other W106 (Or.inl necd))
  have f109 := (Fs.other W106 (Or.inl necd))
  have f110 := (Fu.other W106 (Or.inl necd))
  have K111 : Keep h0 h106 [c1, d1] := (Keep.wr (Keep.refl h0 [c1, d1]) W106 (Or.inl (List.mem_of_getElem? (i := 1) rfl)))
  have O112 : Old Z n0 h106 := (O0.wr W106 gd)
  obtain ⟨cq113, q113, q113'⟩ := Exa.cell f107
  obtain ⟨_, _, ⟨T113, L113, k113, n113⟩, -, X113, ⟨Lc113, hQ113, l113, y113, z113⟩, st113⟩ := X106.privateBack hx (y := y_13) hown (mvT hZ (wq hw 133 rfl)) (mvT hZ (wq hw 134 rfl)) (mvT hZ (wq hw 136 rfl)) (Cond.privateMethod_at (mvP hZ (wq hw 135 rfl) (args := #[]))) (mvT hZ (wq hw 137 rfl)) (by decide) (backOf (W := 0) (rmRwD l Z a0 hw [] c1 d1 kd (m0 &&& ((own_bt u1) ^^^ (-1 : Int64))) m1 h106 n0 O112 f107 f108 f109 f110 V106 necd gc gd hm1) hZ (wq hw 137 rfl) (wq hw 71 rfl) (by decide) (by decide)) (g := (mkF m 62 #[vR c1, vI u1, vI (0 : Int32)] [(.ref c1)])) rfl (by rw [hml]; rfl) (Steps.refl _) (a := c1) (by rw [e106]; exact q113) q113' (argsL := []) (rest := []) (lenOf pd_4 rfl) rfl (by show 2 * 0 + _ ≤ _; exact Nat.le_of_eq rfl) (hb hby dc14_62) (fun _ _ => ⟨rfl, e106, (by decide : 0 + 0 ≤ _), (by decide : 0 + 0 ≤ _)⟩)
  dsimp only [Pt.U, Pt.locs, Pt.cells, Pt.slots] at X113 l113 y113 z113 st113 hQ113
  subst l113 y113 z113
  obtain ⟨rfl, N113q, K113, Ec113, Fw113, Fs113, Fu113⟩ := hQ113
  have N113 := Fr.app N106 N113q
  have O114 : Old Z n0 T113.heap := (O112.keep K113 (allS gc all0))
  obtain ⟨cq115, q115, q115'⟩ := Exa.cell Ec113
  obtain ⟨_, _, ⟨T115, L115, k115, n115⟩, -, X115, ⟨Lc115, hQ115, l115, y115, z115⟩, st115⟩ := X113.privateBack hx (y := y_6) hown (mvT hZ (wq hw 105 rfl)) (mvT hZ (wq hw 106 rfl)) (mvT hZ (wq hw 108 rfl)) (Cond.privateMethod_at (mvP hZ (wq hw 107 rfl) (args := #[]))) (mvT hZ (wq hw 109 rfl)) (by decide) (backOf (W := 0) (rmCk l Z a0 hw [] c1 T113.heap n0 O114 SB) hZ (wq hw 109 rfl) (wq hw 71 rfl) (by decide) (by decide)) (g := (mkF m 66 #[vR c1, vI u1, vI (0 : Int32)] [(.ref c1)])) rfl (by rw [hml]; rfl) (Steps.refl _) (a := c1) q115 q115' (argsL := []) (rest := []) (lenOf pd_4 rfl) rfl (by show 2 * 0 + _ ≤ _; exact Nat.le_of_eq rfl) (hb hby dc14_66) (fun _ _ => ⟨rfl, rfl, (by decide : 0 + 0 ≤ _), (by decide : 0 + 0 ≤ _)⟩)
  dsimp only [Pt.U, Pt.locs, Pt.cells, Pt.slots] at X115 l115 y115 z115 st115 hQ115
  subst l115 y115 z115
  obtain ⟨rfl, N115q, hh115⟩ := hQ115
  have N115 := Fr.app N113 N115q
  obtain ⟨fs, hr, hrun, hended, hW, hsame⟩ := X115.leave (v := none) (fun _ => rfl)
  have K116 : Keep h0 T113.heap [c1, d1] := (Keep.trans K111 K113 (allS (P := fun x => x ∈ [c1, d1] ∨ h0.size ≤ x) (Or.inl (List.mem_of_getElem? (i := 0) rfl)) all0))
  have f117 := (V106.keep K113 (ninS (Ne.symm necd) nin0))
  refine ⟨_, _, pre0 _ ?_, hrun, hended, _, _, rfl, ?_, ⟨_, rfl⟩, hW, hsame.mono (by decide) (by decide)⟩
  · skip
    show Steps p.tables e below (s₁.setTop (mkF m 0 #[vR c1, vI u1, .unset] [])) _
    refine XS.iloadN X0.here hx rfl (hb hby dc14_0) rfl ?_
    refine XS.ifYes X0.here hx rfl (pc0 := 1) (pc' := 31) rfl (hb hby dc14_1) rfl ((if0 _ _).trans (flt (own_ge0 hu)).2.1) (by decide) (by decide) ?_
    refine XS.iloadN X0.here hx rfl (hb hby dc14_31) rfl ?_
    refine st101 _ ?_
    refine XS.istoreN X101.here hx rfl (hb hby dc14_35) rfl (l' := #[vR c1, vI u1, vI (0 : Int32)]) rfl ?_
    show Steps p.tables e below (T101.setTop (mkF m 36 #[vR c1, vI u1, vI (0 : Int32)] [])) _
    refine XS.iloadN X101.here hx rfl (hb hby dc14_36) rfl ?_
    refine XS.aloadN X101.here hx rfl (hb hby dc14_37) rfl rfl ?_
    refine st102 _ ?_
    refine XS.icmpYes X102.here hx rfl (pc0 := 41) (pc' := 45) rfl (hb hby dc14_41) rfl (by decide) (by decide) (by decide) ?_
    refine XS.aloadN X102.here hx rfl (hb hby dc14_45) rfl rfl ?_
    refine st103 _ ?_
    refine XS.iloadN X103.here hx rfl (hb hby dc14_49) rfl ?_
    jvm_step X103.here [X103.here.top, hx, (hb hby dc14_50), Value.category]
    refine X103.laload hx (j := (0 : Int32)) (v := (.long m0)) (by rw [e103]; exact Ar104.1) (State.isArrayOf_alike hZ.alike Ar104.2.1) Ar104.2.2 hin104 hat104 (g := (mkF m 51 #[vR c1, vI u1, vI (0 : Int32)] [(.int (0 : Int32)), (.ref d1), (.int (0 : Int32)), (.ref d1)])) rfl rfl (hb hby dc14_51) _ ?_
    refine XS.lconst X103.here hx rfl (hb hby dc14_52) ?_
    refine XS.iloadN X103.here hx rfl (hb hby dc14_53) rfl ?_
    refine XS.lshl X103.here hx rfl (hb hby dc14_54) rfl ?_
    show Steps p.tables e below (T103.setTop (mkF m 55 #[vR c1, vI u1, vI (0 : Int32)] [(.long ((1 : Int64) <<< (u1 &&& 0x3f).toInt64)), (.long m0), (.int (0 : Int32)), (.ref d1)])) _
    rw [(show ((1 : Int64) <<< (u1 &&& 0x3f).toInt64) = own_bt u1 from rfl)]
    refine X103.ldc2Long hx hown (mvT hZ (wq hw 132 rfl)) (g := (mkF m 55 #[vR c1, vI u1, vI (0 : Int32)] [(.long (own_bt u1)), (.long m0), (.int (0 : Int32)), (.ref d1)])) rfl (hb hby dc14_55) _ ?_
    refine XS.lxor X103.here hx rfl (hb hby dc14_58) rfl ?_
    refine XS.land X103.here hx rfl (hb hby dc14_59) rfl ?_
    refine st106 _ ?_
    refine XS.aloadN X106.here hx rfl (hb hby dc14_61) rfl rfl ?_
    refine st113.trans ?_
    refine XS.aloadN X113.here hx rfl (hb hby dc14_65) rfl rfl ?_
    refine st115.trans ?_
    exact X115.returnOut hx Bd.returns (hb hby dc14_69) hr
  · show Q_cl Z c1 d1 u1 m0 m1 h0 n0 _ T115.heap _
    rw [hh115]
    unfold Q_cl
    rw [own_c0p hlt, own_c1p hlt]
    exact ⟨rfl, N115, K116, ⟨necd, Ec113, Fw113, Fs113, _, Or.inr (Or.inr (Or.inr (⟨Fu113, f117, hm1⟩)))⟩⟩
theorem rmClD0 (l : Launch) (Z : State) (a0 : Array Value) (hw : HwT a0 Z) (ws : List Jvm.Cond) (c1 d1 : Addr) (kd : ClassId) (m0 m1 : Int64) (u1 : Int32) (h0 : Heap) (n0 : Nat) (O0 : Old Z n0 h0) (Ec : Exa Z h0 c1 sB) (Fw : Fld Z h0 c1 sB "words" "[J" (.ref d1)) (Fs : Fld Z h0 c1 sB "sizeIsSticky" "Z" (.int (0 : Int32))) (Fu : Fld Z h0 c1 sB "wordsInUse" "I" (.int (2 : Int32))) (Vd : Arv Z h0 d1 kd .long (2 : Int32) [(.long m0), (.long m1)] (.long (0 : Int64))) (necd : c1 ≠ d1) (gc : n0 ≤ c1) (gd : n0 ≤ d1) (hm1 : ¬ m1 = 0) (hu : own_r u1) (hlt : ¬ u1 < (64 : Int32)) (hne : ¬ (m0 = (0 : Int64) ∧ (m1 &&& ((own_bt u1) ^^^ (-1 : Int64))) = (0 : Int64))) (SB : Sta Z Z.heap sB "$assertionsDisabled" "Z" (.int (1 : Int32))) :
    Mt l Z y_14 jdk_92_method_23_code 3 none ws ({ frames := 1, cells := 0, slots := 0, locals := 13 } : Room) #[(.ref c1), (.int u1)] h0 (Q_cl Z c1 d1 u1 m0 m1 h0 n0) := by
  refine MetFree.of_bodySF (plainFor_of_name pn_1) hisR ?_
  intro p e s m args below meth c s₁ Bd hml0 hP hK
  obtain ⟨rfl, hZ, hh⟩ := hP
  have hx := Bd.exec
  have hby := Bd.bytes
  have hml : c.maxLocals = 3 := hml0
  have hown : s.vm.findClass sB = some m.cls := findClass_of_methodNamed Bd.named
  have hnm := (name_of_methodNamed Bd.named Bd.method).1
  have X0 : Stand p l e ({ frames := 1, cells := 0, slots := 0, locals := 13 } : Room) s m #[(.ref c1), (.int u1)] below meth c s₁ [] 0 0 := Stand.of_body Bd
  have e0 : s₁.heap = h0 := by rw [← hh, Bd.state]; rfl
  have N0 := Fr.nil n0
  have pre0 := fun t (k : Steps p.tables e below (s₁.setTop _) t) => castTop (ef_5 m c1 u1) k
  obtain ⟨_, _, ⟨T101, L101, k101, n101⟩, -, X101, ⟨Lc101, hQ101, l101, y101, z101⟩, st101⟩ := Jvm.LawKit.callS X0 hx (y := y_3) hown (mvT hZ (wq hw 85 rfl)) (mvT hZ (wq hw 86 rfl)) (mvT hZ (wq hw 71 rfl)) (mvT hZ (wq hw 87 rfl)) (by decide) (backOf (W := 0) (rmWi l Z a0 hw [] u1 (1 : Int32) h0 n0 O0 (own_w1 hu hlt)) hZ (wq hw 87 rfl) (wq hw 71 rfl) (by decide) (by decide)) (g := (mkF m 32 #[vR c1, vI u1, .unset] [(.int u1)])) rfl (by rw [hml]; rfl) (argsL := [(.int u1)]) (rest := []) (lenOf pd_0 rfl) rfl (by show 2 * 0 + _ ≤ _; exact Nat.le_of_eq rfl) (hb hby dc14_32) (fun _ _ => ⟨rfl, e0, (by decide : 0 + 0 ≤ _), (by decide : 0 + 0 ≤ _)⟩)
  dsimp only [Pt.U, Pt.locs, Pt.cells, Pt.slots] at X101 l101 y101 z101 st101 hQ101
  subst l101 y101 z101
  obtain ⟨rfl, N101q, hh101⟩ := hQ101
  have N101 := Fr.app N0 N101q
  obtain ⟨T102, X102, e102, st102⟩ := gG X101 hx hZ hown (wq hw 76 rfl) hh101 Fu (g := (mkF m 38 #[vR c1, vI u1, vI (1 : Int32)] [(.ref c1), (.int (1 : Int32))])) rfl rfl (hb hby dc14_38)
  obtain ⟨T103, X103, e103, st103⟩ := gG X102 hx hZ hown (wq hw 88 rfl) e102 Fw (g := (mkF m 46 #[vR c1, vI u1, vI (1 : Int32)] [(.ref c1)])) rfl rfl (hb hby dc14_46)
  obtain ⟨cl104, Ar104, q104, S104, N104_, H104, G104⟩ := id Vd
  have hin104 : ¬ ((1 : Int32) < 0 ∨ cl104.slots.size ≤ ((1 : Int32)).toNatClampNeg) := inb_of S104 ⟨by decide, by decide⟩
  have hat104 : cl104.slots[((1 : Int32)).toNatClampNeg]? = some (.long m1) := H104.at hin104 rfl
  obtain ⟨cl105, Ar105, q105, S105, N105_, H105, G105⟩ := id Vd
  have hin105 : ¬ ((1 : Int32) < 0 ∨ cl105.slots.size ≤ ((1 : Int32)).toNatClampNeg) := inb_of S105 ⟨by decide, by decide⟩
  obtain ⟨T106, h106, X106, e106, W106, st106⟩ := stJ X103 hx hZ e103 Ar105 (j := (1 : Int32)) hin105 (g := (mkF m 60 #[vR c1, vI u1, vI (1 : Int32)] [(.long (m1 &&& ((own_bt u1) ^^^ (-1 : Int64)))), (.int (1 : Int32)), (.ref d1)])) rfl rfl (hb hby dc14_60)
  have V106 : Arv Z h106 d1 kd .long (2 : Int32) [(.long m0), (.long (m1 &&& ((own_bt u1) ^^^ (-1 : Int64))))] (.long (0 : Int64)) := Arv.set Ar105 q105 S105 N105_ H105 G105 rfl W106 1 rfl (Nat.le_of_ble_eq_true rfl)
  have N106 := Fr.snoc X106 N101 gd
  have pre107 : ∀ t, Steps p.tables e below (T106.setTop (mkF m 62 #[vR c1, vI u1, vI (1 : Int32)] [(.ref c1)])) t → Steps p.tables e below (s₁.setTop (entryFrame m #[(.ref c1), (.int u1)] 3)) t := fun t kt => pre0 t (by
      show Steps p.tables e below (s₁.setTop (mkF m 0 #[vR c1, vI u1, .unset] [])) _
      refine XS.iloadN X0.here hx rfl (hb hby dc14_0) rfl ?_
      refine XS.ifYes X0.here hx rfl (pc0 := 1) (pc' := 31) rfl (hb hby dc14_1) rfl ((if0 _ _).trans (flt (own_ge0 hu)).2.1) (by decide) (by decide) ?_
      refine XS.iloadN X0.here hx rfl (hb hby dc14_31) rfl ?_
      refine st101 _ ?_
      refine XS.istoreN X101.here hx rfl (hb hby dc14_35) rfl (l' := #[vR c1, vI u1, vI (1 : Int32)]) rfl ?_
      refine XS.iloadN X101.here hx rfl (hb hby dc14_36) rfl ?_
      refine XS.aloadN X101.here hx rfl (hb hby dc14_37) rfl rfl ?_
      refine st102 _ ?_
      refine XS.icmpYes X102.here hx rfl (pc0 := 41) (pc' := 45) rfl (hb hby dc14_41) rfl (by decide) (by decide) (by decide) ?_
      show Steps p.tables e below (T102.setTop (mkF m 45 #[vR c1, vI u1, vI (1 : Int32)] [])) _
      refine XS.aloadN X102.here hx rfl (hb hby dc14_45) rfl rfl ?_
      refine st103 _ ?_
      refine XS.iloadN X103.here hx rfl (hb hby dc14_49) rfl ?_
      jvm_step X103.here [X103.here.top, hx, (hb hby dc14_50), Value.category]
      refine X103.laload hx (j := (1 : Int32)) (v := (.long m1)) (by rw [e103]; exact Ar104.1) (State.isArrayOf_alike hZ.alike Ar104.2.1) Ar104.2.2 hin104 hat104 (g := (mkF m 51 #[vR c1, vI u1, vI (1 : Int32)] [(.int (1 : Int32)), (.ref d1), (.int (1 : Int32)), (.ref d1)])) rfl rfl (hb hby dc14_51) _ ?_
      refine XS.lconst X103.here hx rfl (hb hby dc14_52) ?_
      refine XS.iloadN X103.here hx rfl (hb hby dc14_53) rfl ?_
      refine XS.lshl X103.here hx rfl (hb hby dc14_54) rfl ?_
      show Steps p.tables e below (T103.setTop (mkF m 55 #[vR c1, vI u1, vI (1 : Int32)] [(.long ((1 : Int64) <<< (u1 &&& 0x3f).toInt64)), (.long m1), (.int (1 : Int32)), (.ref d1)])) _
      rw [(show ((1 : Int64) <<< (u1 &&& 0x3f).toInt64) = own_bt u1 from rfl)]
      refine X103.ldc2Long hx hown (mvT hZ (wq hw 132 rfl)) (g := (mkF m 55 #[vR c1, vI u1, vI (1 : Int32)] [(.long (own_bt u1)), (.long m1), (.int (1 : Int32)), (.ref d1)])) rfl (hb hby dc14_55) _ ?_
      refine XS.lxor X103.here hx rfl (hb hby dc14_58) rfl ?_
      refine XS.land X103.here hx rfl (hb hby dc14_59) rfl ?_
      show Steps p.tables e below (T103.setTop (mkF m 60 #[vR c1, vI u1, vI (1 : Int32)] [(.long (m1 &&& ((own_bt u1) ^^^ (-1 : Int64)))), (.int (1 : Int32)), (.ref d1)])) _
      refine st106 _ ?_
      refine XS.aloadN X106.here hx rfl (hb hby dc14_61) rfl rfl ?_
      exact kt)
  by_cases hc108 : (m1 &&& ((own_bt u1) ^^^ (-1 : Int64))) = (0 : Int64)
  · skip
    have hz0 : ¬ m0 = (0 : Int64) := fun q => hne ⟨q, hc108⟩
    have f109 := (Ec.wr W106)
    have f110 := (Fw.other W106 (Or.inl necd))
    have f111 := (Fs.other W106 (Or.inl necd))
    have f112 := (Fu.other W106 (Or.inl necd))
    have K113 : Keep h0 h106 [c1, d1] := (Keep.wr (Keep.refl h0 [c1, d1]) W106 (Or.inl (List.mem_of_getElem? (i := 1) rfl)))
    have O114 : Old Z n0 h106 := (O0.wr W106 gd)
    obtain ⟨cq115, q115, q115'⟩ := Exa.cell f109
    obtain ⟨_, _, ⟨T115, L115, k115, n115⟩, -, X115, ⟨Lc115, hQ115, l115, y115, z115⟩, st115⟩ := X106.privateBack hx (y := y_13) hown (mvT hZ (wq hw 133 rfl)) (mvT hZ (wq hw 134 rfl)) (mvT hZ (wq hw 136 rfl)) (Cond.privateMethod_at (mvP hZ (wq hw 135 rfl) (args := #[]))) (mvT hZ (wq hw 137 rfl)) (by decide) (backOf (W := 0) (rmRwE l Z a0 hw [] c1 d1 kd m0 (m1 &&& ((own_bt u1) ^^^ (-1 : Int64))) h106 n0 O114 f109 f110 f111 f112 V106 necd gc gd hc108 hz0) hZ (wq hw 137 rfl) (wq hw 71 rfl) (by decide) (by decide)) (g := (mkF m 62 #[vR c1, vI u1, vI (1 : Int32)] [(.ref c1)])) rfl (by rw [hml]; rfl) (Steps.refl _) (a := c1) (by rw [e106]; exact q115) q115' (argsL := []) (rest := []) (lenOf pd_4 rfl) rfl (by show 2 * 0 + _ ≤ _; exact Nat.le_of_eq rfl) (hb hby dc14_62) (fun _ _ => ⟨rfl, e106, (by decide : 0 + 0 ≤ _), (by decide : 0 + 0 ≤ _)⟩)
    dsimp only [Pt.U, Pt.locs, Pt.cells, Pt.slots] at X115 l115 y115 z115 st115 hQ115
    subst l115 y115 z115
    obtain ⟨rfl, N115q, K115, Ec115, Fw115, Fs115, Fu115⟩ := hQ115
    have N115 := Fr.app N106 N115q
    have O116 : Old Z n0 T115.heap := (O114.keep K115 (allS gc all0))
    obtain ⟨cq117, q117, q117'⟩ := Exa.cell Ec115
    obtain ⟨_, _, ⟨T117, L117, k117, n117⟩, -, X117, ⟨Lc117, hQ117, l117, y117, z117⟩, st117⟩ := X115.privateBack hx (y := y_6) hown (mvT hZ (wq hw 105 rfl)) (mvT hZ (wq hw 106 rfl)) (mvT hZ (wq hw 108 rfl)) (Cond.privateMethod_at (mvP hZ (wq hw 107 rfl) (args := #[]))) (mvT hZ (wq hw 109 rfl)) (by decide) (backOf (W := 0) (rmCk l Z a0 hw [] c1 T115.heap n0 O116 SB) hZ (wq hw 109 rfl) (wq hw 71 rfl) (by decide) (by decide)) (g := (mkF m 66 #[vR c1, vI u1, vI (1 : Int32)] [(.ref c1)])) rfl (by rw [hml]; rfl) (Steps.refl _) (a := c1) q117 q117' (argsL := []) (rest := []) (lenOf pd_4 rfl) rfl (by show 2 * 0 + _ ≤ _; exact Nat.le_of_eq rfl) (hb hby dc14_66) (fun _ _ => ⟨rfl, rfl, (by decide : 0 + 0 ≤ _), (by decide : 0 + 0 ≤ _)⟩)
    dsimp only [Pt.U, Pt.locs, Pt.cells, Pt.slots] at X117 l117 y117 z117 st117 hQ117
    subst l117 y117 z117
    obtain ⟨rfl, N117q, hh117⟩ := hQ117
    have N117 := Fr.app N115 N117q
    obtain ⟨fs, hr, hrun, hended, hW, hsame⟩ := X117.leave (v := none) (fun _ => rfl)
    have K118 : Keep h0 T115.heap [c1, d1] := (Keep.trans K113 K115 (allS (P := fun x => x ∈ [c1, d1] ∨ h0.size ≤ x) (Or.inl (List.mem_of_getElem? (i := 0) rfl)) all0))
    have f119 := (V106.keep K115 (ninS (Ne.symm necd) nin0))
    refine ⟨_, _, pre107 _ ?_, hrun, hended, _, _, rfl, ?_, ⟨_, rfl⟩, hW, hsame.mono (by decide) (by decide)⟩
    · skip
      show Steps p.tables e below (T106.setTop (mkF m 62 #[vR c1, vI u1, vI (1 : Int32)] [(.ref c1)])) _
      refine st115.trans ?_
      refine XS.aloadN X115.here hx rfl (hb hby dc14_65) rfl rfl ?_
      refine st117.trans ?_
      exact X117.returnOut hx Bd.returns (hb hby dc14_69) hr
    · show Q_cl Z c1 d1 u1 m0 m1 h0 n0 _ T117.heap _
      rw [hh117]
      unfold Q_cl
      rw [own_c0n hlt, own_c1n hlt]
      exact ⟨rfl, N117, K118, ⟨necd, Ec115, Fw115, Fs115, _, Or.inr (Or.inr (Or.inl ⟨Fu115, f119, hc108, hlt⟩))⟩⟩
  · skip
    have f120 := (Ec.wr W106)
    have f121 := (Fw.other W106 (Or.inl necd))
    have f122 := (Fs.other W106 (Or.inl necd))
    have f123 := (Fu.other W106 (Or.inl necd))
    have K124 : Keep h0 h106 [c1, d1] := (Keep.wr (Keep.refl h0 [c1, d1]) W106 (Or.inl (List.mem_of_getElem? (i := 1) rfl)))
    have O125 : Old Z n0 h106 := (O0.wr W106 gd)
    obtain ⟨cq126, q126, q126'⟩ := Exa.cell f120
    obtain ⟨_, _, ⟨T126, L126, k126, n126⟩, -, X126, ⟨Lc126, hQ126, l126, y126, z126⟩, st126⟩ := X106.privateBack hx (y := y_13) hown (mvT hZ (wq hw 133 rfl)) (mvT hZ (wq hw 134 rfl)) (mvT hZ (wq hw 136 rfl)) (Cond.privateMethod_at (mvP hZ (wq hw 135 rfl) (args := #[]))) (mvT hZ (wq hw 137 rfl)) (by decide) (backOf (W := 0) (rmRwD l Z a0 hw [] c1 d1 kd m0 (m1 &&& ((own_bt u1) ^^^ (-1 : Int64))) h106 n0 O125 f120 f121 f122 f123 V106 necd gc gd hc108) hZ (wq hw 137 rfl) (wq hw 71 rfl) (by decide) (by decide)) (g := (mkF m 62 #[vR c1, vI u1, vI (1 : Int32)] [(.ref c1)])) rfl (by rw [hml]; rfl) (Steps.refl _) (a := c1) (by rw [e106]; exact q126) q126' (argsL := []) (rest := []) (lenOf pd_4 rfl) rfl (by show 2 * 0 + _ ≤ _; exact Nat.le_of_eq rfl) (hb hby dc14_62) (fun _ _ => ⟨rfl, e106, (by decide : 0 + 0 ≤ _), (by decide : 0 + 0 ≤ _)⟩)
    dsimp only [Pt.U, Pt.locs, Pt.cells, Pt.slots] at X126 l126 y126 z126 st126 hQ126
    subst l126 y126 z126
    obtain ⟨rfl, N126q, K126, Ec126, Fw126, Fs126, Fu126⟩ := hQ126
    have N126 := Fr.app N106 N126q
    have O127 : Old Z n0 T126.heap := (O125.keep K126 (allS gc all0))
    obtain ⟨cq128, q128, q128'⟩ := Exa.cell Ec126
    obtain ⟨_, _, ⟨T128, L128, k128, n128⟩, -, X128, ⟨Lc128, hQ128, l128, y128, z128⟩, st128⟩ := X126.privateBack hx (y := y_6) hown (mvT hZ (wq hw 105 rfl)) (mvT hZ (wq hw 106 rfl)) (mvT hZ (wq hw 108 rfl)) (Cond.privateMethod_at (mvP hZ (wq hw 107 rfl) (args := #[]))) (mvT hZ (wq hw 109 rfl)) (by decide) (backOf (W := 0) (rmCk l Z a0 hw [] c1 T126.heap n0 O127 SB) hZ (wq hw 109 rfl) (wq hw 71 rfl) (by decide) (by decide)) (g := (mkF m 66 #[vR c1, vI u1, vI (1 : Int32)] [(.ref c1)])) rfl (by rw [hml]; rfl) (Steps.refl _) (a := c1) q128 q128' (argsL := []) (rest := []) (lenOf pd_4 rfl) rfl (by show 2 * 0 + _ ≤ _; exact Nat.le_of_eq rfl) (hb hby dc14_66) (fun _ _ => ⟨rfl, rfl, (by decide : 0 + 0 ≤ _), (by decide : 0 + 0 ≤ _)⟩)
    dsimp only [Pt.U, Pt.locs, Pt.cells, Pt.slots] at X128 l128 y128 z128 st128 hQ128
    subst l128 y128 z128
    obtain ⟨rfl, N128q, hh128⟩ := hQ128
    have N128 := Fr.app N126 N128q
    obtain ⟨fs, hr, hrun, hended, hW, hsame⟩ := X128.leave (v := none) (fun _ => rfl)
    have K129 : Keep h0 T126.heap [c1, d1] := (Keep.trans K124 K126 (allS (P := fun x => x ∈ [c1, d1] ∨ h0.size ≤ x) (Or.inl (List.mem_of_getElem? (i := 0) rfl)) all0))
    have f130 := (V106.keep K126 (ninS (Ne.symm necd) nin0))
    refine ⟨_, _, pre107 _ ?_, hrun, hended, _, _, rfl, ?_, ⟨_, rfl⟩, hW, hsame.mono (by decide) (by decide)⟩
    · skip
      show Steps p.tables e below (T106.setTop (mkF m 62 #[vR c1, vI u1, vI (1 : Int32)] [(.ref c1)])) _
      refine st126.trans ?_
      refine XS.aloadN X126.here hx rfl (hb hby dc14_65) rfl rfl ?_
      refine st128.trans ?_
      exact X128.returnOut hx Bd.returns (hb hby dc14_69) hr
    · show Q_cl Z c1 d1 u1 m0 m1 h0 n0 _ T128.heap _
      rw [hh128]
      unfold Q_cl
      rw [own_c0n hlt, own_c1n hlt]
      exact ⟨rfl, N128, K129, ⟨necd, Ec126, Fw126, Fs126, _, Or.inr (Or.inr (Or.inr (⟨Fu126, f130, hc108⟩)))⟩⟩
theorem rmCl (l : Launch) (Z : State) (a0 : Array Value) (hw : HwT a0 Z) (ws : List Jvm.Cond) (c1 d1 : Addr) (m0 m1 : Int64) (u1 : Int32) (h0 : Heap) (n0 : Nat) (O0 : Old Z n0 h0) (F1 : Bs Z h0 c1 d1 m0 m1 False) (gc : n0 ≤ c1) (gd : n0 ≤ d1) (hin : own_in u1 m0 m1) (hne : ¬ (own_c0 u1 m0 = (0 : Int64) ∧ own_c1 u1 m1 = (0 : Int64))) (hu : own_r u1) (SB : Sta Z Z.heap sB "$assertionsDisabled" "Z" (.int (1 : Int32))) :
    Mt l Z y_14 jdk_92_method_23_code 3 none ws ({ frames := 1, cells := 0, slots := 0, locals := 13 } : Room) #[(.ref c1), (.int u1)] h0 (Q_cl Z c1 d1 u1 m0 m1 h0 n0) := by
  obtain ⟨necd, Ec, Fw, Fs, kd, q⟩ := F1
  rcases q with ⟨Fu, Vd, rfl, rfl⟩ | ⟨Fu, Vd, rfl⟩ | ⟨Fu, Vd, hm1, hf⟩ | ⟨Fu, Vd, hm1⟩
  rotate_left 2
  · exact hf.elim
  rotate_left 1
  all_goals by_cases hlt : u1 < (64 : Int32)
  · exact absurd (own_and_0 _) ((own_inp hlt).mp hin)
  · exact absurd (own_and_0 _) ((own_inn hlt).mp hin)
  · rw [own_c0p hlt, own_c1p hlt] at hne; exact rmClB1 l Z a0 hw ws c1 d1 kd m0 (0 : Int64) u1 h0 n0 O0 Ec Fw Fs Fu Vd necd gc gd hu hlt hne SB
  · exact absurd (by exact own_and_0 _) ((own_inn hlt).mp hin)
  · rw [own_c0p hlt, own_c1p hlt] at hne; exact rmClD1 l Z a0 hw ws c1 d1 kd m0 m1 u1 h0 n0 O0 Ec Fw Fs Fu Vd necd gc gd hm1 hu hlt hne SB
  · rw [own_c0n hlt, own_c1n hlt] at hne; exact rmClD0 l Z a0 hw ws c1 d1 kd m0 m1 u1 h0 n0 O0 Ec Fw Fs Fu Vd necd gc gd hm1 hu hlt hne SB
def Q_le (m1 : Int64) (h0 : Heap) (n0 : Nat) (v : Option Value) (h : Heap) (L : List Loc) : Prop := ∃ r : Int32, v = some (.int r) ∧ Fr n0 L ∧ h = h0 ∧ 0 ≤ r.toInt ∧ r.toInt ≤ 128 ∧ (m1 = 0 → r.toInt ≤ 64)
abbrev y_15 : MethodName := (⟨"java/util/BitSet", "length", "()I"⟩ : MethodName)
abbrev C15 := jdk_92_method_32_code
theorem dc15_0 : decode C15 0 = .ok (.aload_n 0, 1) := by decide +kernel
theorem dc15_1 : decode C15 1 = .ok (.getfield 7, 3) := by decide +kernel
theorem dc15_4 : decode C15 4 = .ok (.ifCond .ne 5, 3) := by decide +kernel
theorem dc15_9 : decode C15 9 = .ok (.bipush 64, 2) := by decide +kernel
theorem dc15_11 : decode C15 11 = .ok (.aload_n 0, 1) := by decide +kernel
theorem dc15_12 : decode C15 12 = .ok (.getfield 7, 3) := by decide +kernel
theorem dc15_15 : decode C15 15 = .ok (.iconst 1, 1) := by decide +kernel
theorem dc15_16 : decode C15 16 = .ok (.isub, 1) := by decide +kernel
theorem dc15_17 : decode C15 17 = .ok (.imul, 1) := by decide +kernel
theorem dc15_18 : decode C15 18 = .ok (.bipush 64, 2) := by decide +kernel
theorem dc15_20 : decode C15 20 = .ok (.aload_n 0, 1) := by decide +kernel
theorem dc15_21 : decode C15 21 = .ok (.getfield 11, 3) := by decide +kernel
theorem dc15_24 : decode C15 24 = .ok (.aload_n 0, 1) := by decide +kernel
theorem dc15_25 : decode C15 25 = .ok (.getfield 7, 3) := by decide +kernel
theorem dc15_28 : decode C15 28 = .ok (.iconst 1, 1) := by decide +kernel
theorem dc15_29 : decode C15 29 = .ok (.isub, 1) := by decide +kernel
theorem dc15_30 : decode C15 30 = .ok (.laload, 1) := by decide +kernel
theorem dc15_31 : decode C15 31 = .ok (.invokestatic 190, 3) := by decide +kernel
theorem pd_5 : parseMethodDescriptor "(J)I" = some ⟨[.long], some .int⟩ := by decide +kernel
theorem dc15_34 : decode C15 34 = .ok (.isub, 1) := by decide +kernel
theorem dc15_35 : decode C15 35 = .ok (.iadd, 1) := by decide +kernel
theorem dc15_36 : decode C15 36 = .ok (.ireturn, 1) := by decide +kernel
theorem rmLeB (l : Launch) (Z : State) (a0 : Array Value) (hw : HwT a0 Z) (ws : List Jvm.Cond) (c1 d1 : Addr) (kd : ClassId) (m0 m1 : Int64) (h0 : Heap) (n0 : Nat) (O0 : Old Z n0 h0) (Ec : Exa Z h0 c1 sB) (Fw : Fld Z h0 c1 sB "words" "[J" (.ref d1)) (Fs : Fld Z h0 c1 sB "sizeIsSticky" "Z" (.int (0 : Int32))) (Fu : Fld Z h0 c1 sB "wordsInUse" "I" (.int (1 : Int32))) (Vd : Arv Z h0 d1 kd .long (1 : Int32) [(.long m0)] (.long (0 : Int64))) (necd : c1 ≠ d1) (gc : n0 ≤ c1) (gd : n0 ≤ d1) :
    Mt l Z y_15 jdk_92_method_32_code 1 (some .int) ws ({ frames := 2, cells := 0, slots := 0, locals := 30 } : Room) #[(.ref c1)] h0 (Q_le (0 : Int64) h0 n0) := by
  refine MetFree.of_bodySF (plainFor_of_name pn_1) hisR ?_
  intro p e s m args below meth c s₁ Bd hml0 hP hK
  obtain ⟨rfl, hZ, hh⟩ := hP
  have hx := Bd.exec
  have hby := Bd.bytes
  have hml : c.maxLocals = 1 := hml0
  have hown : s.vm.findClass sB = some m.cls := findClass_of_methodNamed Bd.named
  have hnm := (name_of_methodNamed Bd.named Bd.method).1
  have X0 : Stand p l e ({ frames := 2, cells := 0, slots := 0, locals := 30 } : Room) s m #[(.ref c1)] below meth c s₁ [] 0 0 := Stand.of_body Bd
  have e0 : s₁.heap = h0 := by rw [← hh, Bd.state]; rfl
  have N0 := Fr.nil n0
  have pre0 := fun t (k : Steps p.tables e below (s₁.setTop _) t) => castTop (ef_4 m c1) k
  obtain ⟨T101, X101, e101, st101⟩ := gG X0 hx hZ hown (wq hw 76 rfl) e0 Fu (g := (mkF m 1 #[vR c1] [(.ref c1)])) rfl rfl (hb hby dc15_1)
  obtain ⟨T102, X102, e102, st102⟩ := gG X101 hx hZ hown (wq hw 76 rfl) e101 Fu (g := (mkF m 12 #[vR c1] [(.ref c1), (.int (64 : Int32))])) rfl rfl (hb hby dc15_12)
  obtain ⟨T103, X103, e103, st103⟩ := gG X102 hx hZ hown (wq hw 88 rfl) e102 Fw (g := (mkF m 21 #[vR c1] [(.ref c1), (.int (64 : Int32)), (.int (0 : Int32))])) rfl rfl (hb hby dc15_21)
  obtain ⟨T104, X104, e104, st104⟩ := gG X103 hx hZ hown (wq hw 76 rfl) e103 Fu (g := (mkF m 25 #[vR c1] [(.ref c1), (.ref d1), (.int (64 : Int32)), (.int (0 : Int32))])) rfl rfl (hb hby dc15_25)
  obtain ⟨cl105, Ar105, q105, S105, N105_, H105, G105⟩ := id Vd
  have hin105 : ¬ ((0 : Int32) < 0 ∨ cl105.slots.size ≤ ((0 : Int32)).toNatClampNeg) := inb_of S105 ⟨by decide, by decide⟩
  have hat105 : cl105.slots[((0 : Int32)).toNatClampNeg]? = some (.long m0) := H105.at hin105 rfl
  obtain ⟨_, _, ⟨T106, L106, k106, n106⟩, -, X106, ⟨Lc106, hQ106, l106, y106, z106⟩, st106⟩ := Jvm.LawKit.callS X104 hx (y := y_5) hown (mvT hZ (wq hw 143 rfl)) (mvT hZ (wq hw 144 rfl)) (mvT hZ (wq hw 145 rfl)) (mvT hZ (wq hw 146 rfl)) (by decide) (backOf (W := 2) (rmLn l Z a0 hw [] m0 h0 n0 O0) hZ (wq hw 146 rfl) (wq hw 145 rfl) (by decide) (by decide)) (g := (mkF m 31 #[vR c1] [(.long m0), (.int (64 : Int32)), (.int (0 : Int32))])) rfl (by rw [hml]; rfl) (argsL := [(.long m0)]) (rest := [(.int (64 : Int32)), (.int (0 : Int32))]) (lenOf pd_5 rfl) rfl (by show 2 * 0 + _ ≤ _; exact Nat.le_of_eq rfl) (hb hby dc15_31) (fun _ _ => ⟨rfl, e104, (by decide : 0 + 0 ≤ _), (by decide : 0 + 0 ≤ _)⟩)
  dsimp only [Pt.U, Pt.locs, Pt.cells, Pt.slots] at X106 l106 y106 z106 st106 hQ106
  subst l106 y106 z106
  obtain ⟨r106, rfl, N106q, hh106, lo106, hi106⟩ := hQ106
  have N106 := Fr.app N0 N106q
  obtain ⟨fs, hr, hrun, hended, hW, hsame⟩ := X106.leave (v := some (.int ((0 : Int32) + ((64 : Int32) - r106)))) (fun h => by rw [Bd.returns] at h; cases h)
  refine ⟨_, _, pre0 _ ?_, hrun, hended, _, _, rfl, ?_, ⟨_, rfl⟩, hW, hsame.mono (by decide) (by decide)⟩
  · skip
    show Steps p.tables e below (s₁.setTop (mkF m 0 #[vR c1] [])) _
    refine XS.aloadN X0.here hx rfl (hb hby dc15_0) rfl rfl ?_
    refine st101 _ ?_
    refine XS.ifYes X101.here hx rfl (pc0 := 4) (pc' := 9) rfl (hb hby dc15_4) rfl (by decide) (by decide) (by decide) ?_
    refine XS.bipush X101.here hx rfl (hb hby dc15_9) ?_
    refine XS.aloadN X101.here hx rfl (hb hby dc15_11) rfl rfl ?_
    show Steps p.tables e below (T101.setTop (mkF m 12 #[vR c1] [(.ref c1), (.int (64 : Int32))])) _
    refine st102 _ ?_
    refine XS.iconst X102.here hx rfl (hb hby dc15_15) ?_
    refine XS.isub X102.here hx rfl (hb hby dc15_16) rfl ?_
    refine XS.imul X102.here hx rfl (hb hby dc15_17) rfl ?_
    refine XS.bipush X102.here hx rfl (hb hby dc15_18) ?_
    refine XS.aloadN X102.here hx rfl (hb hby dc15_20) rfl rfl ?_
    refine st103 _ ?_
    refine XS.aloadN X103.here hx rfl (hb hby dc15_24) rfl rfl ?_
    refine st104 _ ?_
    refine XS.iconst X104.here hx rfl (hb hby dc15_28) ?_
    refine XS.isub X104.here hx rfl (hb hby dc15_29) rfl ?_
    refine X104.laload hx (j := (0 : Int32)) (v := (.long m0)) (by rw [e104]; exact Ar105.1) (State.isArrayOf_alike hZ.alike Ar105.2.1) Ar105.2.2 hin105 hat105 (g := (mkF m 30 #[vR c1] [(.int (0 : Int32)), (.ref d1), (.int (64 : Int32)), (.int (0 : Int32))])) rfl rfl (hb hby dc15_30) _ ?_
    show Steps p.tables e below (T104.setTop (mkF m 31 #[vR c1] [(.long m0), (.int (64 : Int32)), (.int (0 : Int32))])) _
    refine st106 _ ?_
    refine XS.isub X106.here hx rfl (hb hby dc15_34) rfl ?_
    refine XS.iadd X106.here hx rfl (hb hby dc15_35) rfl ?_
    exact retI X106 hx Bd.returns (hb hby dc15_36) hr
  · show Q_le (0 : Int64) h0 n0 _ T106.heap _
    rw [hh106]
    have e64 : (64 : Int32).toInt = 64 := rfl
    have eb : (0 : Int32).toInt = 0 := rfl
    have s1 := c_isub 64 r106
    have s2 := rng32 ((64 : Int32) - r106)
    have s3 := c_iadd (0 : Int32) ((64 : Int32) - r106)
    have s4 := rng32 ((0 : Int32) + ((64 : Int32) - r106))
    exact ⟨_, rfl, N106, rfl, by omega, by omega, fun q => by omega⟩
theorem rmLeC (l : Launch) (Z : State) (a0 : Array Value) (hw : HwT a0 Z) (ws : List Jvm.Cond) (c1 d1 : Addr) (kd : ClassId) (m0 m1 : Int64) (h0 : Heap) (n0 : Nat) (O0 : Old Z n0 h0) (Ec : Exa Z h0 c1 sB) (Fw : Fld Z h0 c1 sB "words" "[J" (.ref d1)) (Fs : Fld Z h0 c1 sB "sizeIsSticky" "Z" (.int (0 : Int32))) (Fu : Fld Z h0 c1 sB "wordsInUse" "I" (.int (1 : Int32))) (Vd : Arv Z h0 d1 kd .long (2 : Int32) [(.long m0), (.long m1)] (.long (0 : Int64))) (necd : c1 ≠ d1) (gc : n0 ≤ c1) (gd : n0 ≤ d1) (hm1 : m1 = 0) :
    Mt l Z y_15 jdk_92_method_32_code 1 (some .int) ws ({ frames := 2, cells := 0, slots := 0, locals := 30 } : Room) #[(.ref c1)] h0 (Q_le m1 h0 n0) := by
  refine MetFree.of_bodySF (plainFor_of_name pn_1) hisR ?_
  intro p e s m args below meth c s₁ Bd hml0 hP hK
  obtain ⟨rfl, hZ, hh⟩ := hP
  have hx := Bd.exec
  have hby := Bd.bytes
  have hml : c.maxLocals = 1 := hml0
  have hown : s.vm.findClass sB = some m.cls := findClass_of_methodNamed Bd.named
  have hnm := (name_of_methodNamed Bd.named Bd.method).1
  have X0 : Stand p l e ({ frames := 2, cells := 0, slots := 0, locals := 30 } : Room) s m #[(.ref c1)] below meth c s₁ [] 0 0 := Stand.of_body Bd
  have e0 : s₁.heap = h0 := by rw [← hh, Bd.state]; rfl
  have N0 := Fr.nil n0
  have pre0 := fun t (k : Steps p.tables e below (s₁.setTop _) t) => castTop (ef_4 m c1) k
  obtain ⟨T101, X101, e101, st101⟩ := gG X0 hx hZ hown (wq hw 76 rfl) e0 Fu (g := (mkF m 1 #[vR c1] [(.ref c1)])) rfl rfl (hb hby dc15_1)
  obtain ⟨T102, X102, e102, st102⟩ := gG X101 hx hZ hown (wq hw 76 rfl) e101 Fu (g := (mkF m 12 #[vR c1] [(.ref c1), (.int (64 : Int32))])) rfl rfl (hb hby dc15_12)
  obtain ⟨T103, X103, e103, st103⟩ := gG X102 hx hZ hown (wq hw 88 rfl) e102 Fw (g := (mkF m 21 #[vR c1] [(.ref c1), (.int (64 : Int32)), (.int (0 : Int32))])) rfl rfl (hb hby dc15_21)
  obtain ⟨T104, X104, e104, st104⟩ := gG X103 hx hZ hown (wq hw 76 rfl) e103 Fu (g := (mkF m 25 #[vR c1] [(.ref c1), (.ref d1), (.int (64 : Int32)), (.int (0 : Int32))])) rfl rfl (hb hby dc15_25)
  obtain ⟨cl105, Ar105, q105, S105, N105_, H105, G105⟩ := id Vd
  have hin105 : ¬ ((0 : Int32) < 0 ∨ cl105.slots.size ≤ ((0 : Int32)).toNatClampNeg) := inb_of S105 ⟨by decide, by decide⟩
  have hat105 : cl105.slots[((0 : Int32)).toNatClampNeg]? = some (.long m0) := H105.at hin105 rfl
  obtain ⟨_, _, ⟨T106, L106, k106, n106⟩, -, X106, ⟨Lc106, hQ106, l106, y106, z106⟩, st106⟩ := Jvm.LawKit.callS X104 hx (y := y_5) hown (mvT hZ (wq hw 143 rfl)) (mvT hZ (wq hw 144 rfl)) (mvT hZ (wq hw 145 rfl)) (mvT hZ (wq hw 146 rfl)) (by decide) (backOf (W := 2) (rmLn l Z a0 hw [] m0 h0 n0 O0) hZ (wq hw 146 rfl) (wq hw 145 rfl) (by decide) (by decide)) (g := (mkF m 31 #[vR c1] [(.long m0), (.int (64 : Int32)), (.int (0 : Int32))])) rfl (by rw [hml]; rfl) (argsL := [(.long m0)]) (rest := [(.int (64 : Int32)), (.int (0 : Int32))]) (lenOf pd_5 rfl) rfl (by show 2 * 0 + _ ≤ _; exact Nat.le_of_eq rfl) (hb hby dc15_31) (fun _ _ => ⟨rfl, e104, (by decide : 0 + 0 ≤ _), (by decide : 0 + 0 ≤ _)⟩)
  dsimp only [Pt.U, Pt.locs, Pt.cells, Pt.slots] at X106 l106 y106 z106 st106 hQ106
  subst l106 y106 z106
  obtain ⟨r106, rfl, N106q, hh106, lo106, hi106⟩ := hQ106
  have N106 := Fr.app N0 N106q
  obtain ⟨fs, hr, hrun, hended, hW, hsame⟩ := X106.leave (v := some (.int ((0 : Int32) + ((64 : Int32) - r106)))) (fun h => by rw [Bd.returns] at h; cases h)
  refine ⟨_, _, pre0 _ ?_, hrun, hended, _, _, rfl, ?_, ⟨_, rfl⟩, hW, hsame.mono (by decide) (by decide)⟩
  · skip
    show Steps p.tables e below (s₁.setTop (mkF m 0 #[vR c1] [])) _
    refine XS.aloadN X0.here hx rfl (hb hby dc15_0) rfl rfl ?_
    refine st101 _ ?_
    refine XS.ifYes X101.here hx rfl (pc0 := 4) (pc' := 9) rfl (hb hby dc15_4) rfl (by decide) (by decide) (by decide) ?_
    refine XS.bipush X101.here hx rfl (hb hby dc15_9) ?_
    refine XS.aloadN X101.here hx rfl (hb hby dc15_11) rfl rfl ?_
    show Steps p.tables e below (T101.setTop (mkF m 12 #[vR c1] [(.ref c1), (.int (64 : Int32))])) _
    refine st102 _ ?_
    refine XS.iconst X102.here hx rfl (hb hby dc15_15) ?_
    refine XS.isub X102.here hx rfl (hb hby dc15_16) rfl ?_
    refine XS.imul X102.here hx rfl (hb hby dc15_17) rfl ?_
    refine XS.bipush X102.here hx rfl (hb hby dc15_18) ?_
    refine XS.aloadN X102.here hx rfl (hb hby dc15_20) rfl rfl ?_
    refine st103 _ ?_
    refine XS.aloadN X103.here hx rfl (hb hby dc15_24) rfl rfl ?_
    refine st104 _ ?_
    refine XS.iconst X104.here hx rfl (hb hby dc15_28) ?_
    refine XS.isub X104.here hx rfl (hb hby dc15_29) rfl ?_
    refine X104.laload hx (j := (0 : Int32)) (v := (.long m0)) (by rw [e104]; exact Ar105.1) (State.isArrayOf_alike hZ.alike Ar105.2.1) Ar105.2.2 hin105 hat105 (g := (mkF m 30 #[vR c1] [(.int (0 : Int32)), (.ref d1), (.int (64 : Int32)), (.int (0 : Int32))])) rfl rfl (hb hby dc15_30) _ ?_
    show Steps p.tables e below (T104.setTop (mkF m 31 #[vR c1] [(.long m0), (.int (64 : Int32)), (.int (0 : Int32))])) _
    refine st106 _ ?_
    refine XS.isub X106.here hx rfl (hb hby dc15_34) rfl ?_
    refine XS.iadd X106.here hx rfl (hb hby dc15_35) rfl ?_
    exact retI X106 hx Bd.returns (hb hby dc15_36) hr
  · show Q_le m1 h0 n0 _ T106.heap _
    rw [hh106]
    have e64 : (64 : Int32).toInt = 64 := rfl
    have eb : (0 : Int32).toInt = 0 := rfl
    have s1 := c_isub 64 r106
    have s2 := rng32 ((64 : Int32) - r106)
    have s3 := c_iadd (0 : Int32) ((64 : Int32) - r106)
    have s4 := rng32 ((0 : Int32) + ((64 : Int32) - r106))
    exact ⟨_, rfl, N106, rfl, by omega, by omega, fun q => by omega⟩
theorem rmLeD (l : Launch) (Z : State) (a0 : Array Value) (hw : HwT a0 Z) (ws : List Jvm.Cond) (c1 d1 : Addr) (kd : ClassId) (m0 m1 : Int64) (h0 : Heap) (n0 : Nat) (O0 : Old Z n0 h0) (Ec : Exa Z h0 c1 sB) (Fw : Fld Z h0 c1 sB "words" "[J" (.ref d1)) (Fs : Fld Z h0 c1 sB "sizeIsSticky" "Z" (.int (0 : Int32))) (Fu : Fld Z h0 c1 sB "wordsInUse" "I" (.int (2 : Int32))) (Vd : Arv Z h0 d1 kd .long (2 : Int32) [(.long m0), (.long m1)] (.long (0 : Int64))) (necd : c1 ≠ d1) (gc : n0 ≤ c1) (gd : n0 ≤ d1) (hm1 : ¬ m1 = 0) :
    Mt l Z y_15 jdk_92_method_32_code 1 (some .int) ws ({ frames := 2, cells := 0, slots := 0, locals := 30 } : Room) #[(.ref c1)] h0 (Q_le m1 h0 n0) := by
  refine MetFree.of_bodySF (plainFor_of_name pn_1) hisR ?_
  intro p e s m args below meth c s₁ Bd hml0 hP hK
  obtain ⟨rfl, hZ, hh⟩ := hP
  have hx := Bd.exec
  have hby := Bd.bytes
  have hml : c.maxLocals = 1 := hml0
  have hown : s.vm.findClass sB = some m.cls := findClass_of_methodNamed Bd.named
  have hnm := (name_of_methodNamed Bd.named Bd.method).1
  have X0 : Stand p l e ({ frames := 2, cells := 0, slots := 0, locals := 30 } : Room) s m #[(.ref c1)] below meth c s₁ [] 0 0 := Stand.of_body Bd
  have e0 : s₁.heap = h0 := by rw [← hh, Bd.state]; rfl
  have N0 := Fr.nil n0
  have pre0 := fun t (k : Steps p.tables e below (s₁.setTop _) t) => castTop (ef_4 m c1) k
  obtain ⟨T101, X101, e101, st101⟩ := gG X0 hx hZ hown (wq hw 76 rfl) e0 Fu (g := (mkF m 1 #[vR c1] [(.ref c1)])) rfl rfl (hb hby dc15_1)
  obtain ⟨T102, X102, e102, st102⟩ := gG X101 hx hZ hown (wq hw 76 rfl) e101 Fu (g := (mkF m 12 #[vR c1] [(.ref c1), (.int (64 : Int32))])) rfl rfl (hb hby dc15_12)
  obtain ⟨T103, X103, e103, st103⟩ := gG X102 hx hZ hown (wq hw 88 rfl) e102 Fw (g := (mkF m 21 #[vR c1] [(.ref c1), (.int (64 : Int32)), (.int (64 : Int32))])) rfl rfl (hb hby dc15_21)
  obtain ⟨T104, X104, e104, st104⟩ := gG X103 hx hZ hown (wq hw 76 rfl) e103 Fu (g := (mkF m 25 #[vR c1] [(.ref c1), (.ref d1), (.int (64 : Int32)), (.int (64 : Int32))])) rfl rfl (hb hby dc15_25)
  obtain ⟨cl105, Ar105, q105, S105, N105_, H105, G105⟩ := id Vd
  have hin105 : ¬ ((1 : Int32) < 0 ∨ cl105.slots.size ≤ ((1 : Int32)).toNatClampNeg) := inb_of S105 ⟨by decide, by decide⟩
  have hat105 : cl105.slots[((1 : Int32)).toNatClampNeg]? = some (.long m1) := H105.at hin105 rfl
  obtain ⟨_, _, ⟨T106, L106, k106, n106⟩, -, X106, ⟨Lc106, hQ106, l106, y106, z106⟩, st106⟩ := Jvm.LawKit.callS X104 hx (y := y_5) hown (mvT hZ (wq hw 143 rfl)) (mvT hZ (wq hw 144 rfl)) (mvT hZ (wq hw 145 rfl)) (mvT hZ (wq hw 146 rfl)) (by decide) (backOf (W := 2) (rmLn l Z a0 hw [] m1 h0 n0 O0) hZ (wq hw 146 rfl) (wq hw 145 rfl) (by decide) (by decide)) (g := (mkF m 31 #[vR c1] [(.long m1), (.int (64 : Int32)), (.int (64 : Int32))])) rfl (by rw [hml]; rfl) (argsL := [(.long m1)]) (rest := [(.int (64 : Int32)), (.int (64 : Int32))]) (lenOf pd_5 rfl) rfl (by show 2 * 0 + _ ≤ _; exact Nat.le_of_eq rfl) (hb hby dc15_31) (fun _ _ => ⟨rfl, e104, (by decide : 0 + 0 ≤ _), (by decide : 0 + 0 ≤ _)⟩)
  dsimp only [Pt.U, Pt.locs, Pt.cells, Pt.slots] at X106 l106 y106 z106 st106 hQ106
  subst l106 y106 z106
  obtain ⟨r106, rfl, N106q, hh106, lo106, hi106⟩ := hQ106
  have N106 := Fr.app N0 N106q
  obtain ⟨fs, hr, hrun, hended, hW, hsame⟩ := X106.leave (v := some (.int ((64 : Int32) + ((64 : Int32) - r106)))) (fun h => by rw [Bd.returns] at h; cases h)
  refine ⟨_, _, pre0 _ ?_, hrun, hended, _, _, rfl, ?_, ⟨_, rfl⟩, hW, hsame.mono (by decide) (by decide)⟩
  · skip
    show Steps p.tables e below (s₁.setTop (mkF m 0 #[vR c1] [])) _
    refine XS.aloadN X0.here hx rfl (hb hby dc15_0) rfl rfl ?_
    refine st101 _ ?_
    refine XS.ifYes X101.here hx rfl (pc0 := 4) (pc' := 9) rfl (hb hby dc15_4) rfl (by decide) (by decide) (by decide) ?_
    refine XS.bipush X101.here hx rfl (hb hby dc15_9) ?_
    refine XS.aloadN X101.here hx rfl (hb hby dc15_11) rfl rfl ?_
    show Steps p.tables e below (T101.setTop (mkF m 12 #[vR c1] [(.ref c1), (.int (64 : Int32))])) _
    refine st102 _ ?_
    refine XS.iconst X102.here hx rfl (hb hby dc15_15) ?_
    refine XS.isub X102.here hx rfl (hb hby dc15_16) rfl ?_
    refine XS.imul X102.here hx rfl (hb hby dc15_17) rfl ?_
    refine XS.bipush X102.here hx rfl (hb hby dc15_18) ?_
    refine XS.aloadN X102.here hx rfl (hb hby dc15_20) rfl rfl ?_
    refine st103 _ ?_
    refine XS.aloadN X103.here hx rfl (hb hby dc15_24) rfl rfl ?_
    refine st104 _ ?_
    refine XS.iconst X104.here hx rfl (hb hby dc15_28) ?_
    refine XS.isub X104.here hx rfl (hb hby dc15_29) rfl ?_
    refine X104.laload hx (j := (1 : Int32)) (v := (.long m1)) (by rw [e104]; exact Ar105.1) (State.isArrayOf_alike hZ.alike Ar105.2.1) Ar105.2.2 hin105 hat105 (g := (mkF m 30 #[vR c1] [(.int (1 : Int32)), (.ref d1), (.int (64 : Int32)), (.int (64 : Int32))])) rfl rfl (hb hby dc15_30) _ ?_
    show Steps p.tables e below (T104.setTop (mkF m 31 #[vR c1] [(.long m1), (.int (64 : Int32)), (.int (64 : Int32))])) _
    refine st106 _ ?_
    refine XS.isub X106.here hx rfl (hb hby dc15_34) rfl ?_
    refine XS.iadd X106.here hx rfl (hb hby dc15_35) rfl ?_
    exact retI X106 hx Bd.returns (hb hby dc15_36) hr
  · show Q_le m1 h0 n0 _ T106.heap _
    rw [hh106]
    have e64 : (64 : Int32).toInt = 64 := rfl
    have eb : (64 : Int32).toInt = 64 := rfl
    have s1 := c_isub 64 r106
    have s2 := rng32 ((64 : Int32) - r106)
    have s3 := c_iadd (64 : Int32) ((64 : Int32) - r106)
    have s4 := rng32 ((64 : Int32) + ((64 : Int32) - r106))
    exact ⟨_, rfl, N106, rfl, by omega, by omega, fun q => absurd q hm1⟩
theorem rmLe (l : Launch) (Z : State) (a0 : Array Value) (hw : HwT a0 Z) (ws : List Jvm.Cond) (c1 d1 : Addr) (m0 m1 : Int64) (h0 : Heap) (n0 : Nat) (O0 : Old Z n0 h0) (F1 : Bs Z h0 c1 d1 m0 m1 True) (gc : n0 ≤ c1) (gd : n0 ≤ d1) (hA : ¬ (m0 = (0 : Int64) ∧ m1 = (0 : Int64))) :
    Mt l Z y_15 jdk_92_method_32_code 1 (some .int) ws ({ frames := 2, cells := 0, slots := 0, locals := 30 } : Room) #[(.ref c1)] h0 (Q_le m1 h0 n0) := by
  obtain ⟨necd, Ec, Fw, Fs, kd, q⟩ := F1
  rcases q with ⟨Fu, Vd, rfl, rfl⟩ | ⟨Fu, Vd, rfl⟩ | ⟨Fu, Vd, hm1, hf⟩ | ⟨Fu, Vd, hm1⟩
  · exact absurd ⟨rfl, rfl⟩ hA
  · exact rmLeB l Z a0 hw ws c1 d1 kd m0 (0 : Int64) h0 n0 O0 Ec Fw Fs Fu Vd necd gc gd
  · exact rmLeC l Z a0 hw ws c1 d1 kd m0 m1 h0 n0 O0 Ec Fw Fs Fu Vd necd gc gd hm1
  · exact rmLeD l Z a0 hw ws c1 d1 kd m0 m1 h0 n0 O0 Ec Fw Fs Fu Vd necd gc gd hm1
def Q_iw (Z : State) (c1 : Addr) (h0 : Heap) (n0 : Nat) (v : Option Value) (h : Heap) (L : List Loc) : Prop := ∃ (d2 : Addr) (k2 : ClassId), v = none ∧ Fr n0 L ∧ n0 ≤ d2 ∧ h0.size ≤ d2 ∧ Keep h0 h [c1] ∧ Exa Z h c1 sB ∧ Fld Z h c1 sB "words" "[J" (.ref d2) ∧ Fld Z h c1 sB "sizeIsSticky" "Z" (.int (0 : Int32)) ∧ Fld Z h c1 sB "wordsInUse" "I" (.int (0 : Int32)) ∧ Arv Z h d2 k2 .long (1 : Int32) [(.long (0 : Int64))] (.long (0 : Int64))
abbrev y_16 : MethodName := (⟨"java/util/BitSet", "initWords", "(I)V"⟩ : MethodName)
theorem ef_7 (m : MethodId) (x0 : Addr) (x1 : Int32) : entryFrame m #[(.ref x0), (.int x1)] 2 = mkF m 0 #[.val (.ref x0), .val (.int x1)] [] := by first | (simp [entryFrame, mkF, argsToLocals, Value.category]; done) | rfl
abbrev C16 := jdk_92_method_6_code
theorem dc16_0 : decode C16 0 = .ok (.aload_n 0, 1) := by decide +kernel
theorem dc16_1 : decode C16 1 = .ok (.iload_n 1, 1) := by decide +kernel
theorem dc16_2 : decode C16 2 = .ok (.iconst 1, 1) := by decide +kernel
theorem dc16_3 : decode C16 3 = .ok (.isub, 1) := by decide +kernel
theorem dc16_4 : decode C16 4 = .ok (.invokestatic 52, 3) := by decide +kernel
theorem dc16_7 : decode C16 7 = .ok (.iconst 1, 1) := by decide +kernel
theorem dc16_8 : decode C16 8 = .ok (.iadd, 1) := by decide +kernel
theorem dc16_9 : decode C16 9 = .ok (.newarray .long, 2) := by decide +kernel
theorem dc16_11 : decode C16 11 = .ok (.putfield 11, 3) := by decide +kernel
theorem dc16_14 : decode C16 14 = .ok (.return_, 1) := by decide +kernel
theorem rmIw (l : Launch) (Z : State) (a0 : Array Value) (hw : HwT a0 Z) (ws : List Jvm.Cond) (c1 : Addr) (h0 : Heap) (n0 : Nat) (O0 : Old Z n0 h0) (Ec : Exa Z h0 c1 sB) (Fw : Fld Z h0 c1 sB "words" "[J" .null) (Fs : Fld Z h0 c1 sB "sizeIsSticky" "Z" (.int (0 : Int32))) (Fu : Fld Z h0 c1 sB "wordsInUse" "I" (.int (0 : Int32))) (gc : n0 ≤ c1) :
    Mt l Z y_16 jdk_92_method_6_code 2 none ws ({ frames := 1, cells := 1, slots := 1, locals := 13 } : Room) #[(.ref c1), (.int (64 : Int32))] h0 (Q_iw Z c1 h0 n0) := by
  refine MetFree.of_bodySF (plainFor_of_name pn_1) hisR ?_
  intro p e s m args below meth c s₁ Bd hml0 hP hK
  obtain ⟨rfl, hZ, hh⟩ := hP
  have hx := Bd.exec
  have hby := Bd.bytes
  have hml : c.maxLocals = 2 := hml0
  have hown : s.vm.findClass sB = some m.cls := findClass_of_methodNamed Bd.named
  have hnm := (name_of_methodNamed Bd.named Bd.method).1
  have X0 : Stand p l e ({ frames := 1, cells := 1, slots := 1, locals := 13 } : Room) s m #[(.ref c1), (.int (64 : Int32))] below meth c s₁ [] 0 0 := Stand.of_body Bd
  have e0 : s₁.heap = h0 := by rw [← hh, Bd.state]; rfl
  have N0 := Fr.nil n0
  have pre0 := fun t (k : Steps p.tables e below (s₁.setTop _) t) => castTop (ef_7 m c1 (64 : Int32)) k
  obtain ⟨_, _, ⟨T101, L101, k101, n101⟩, -, X101, ⟨Lc101, hQ101, l101, y101, z101⟩, st101⟩ := Jvm.LawKit.callS X0 hx (y := y_3) hown (mvT hZ (wq hw 85 rfl)) (mvT hZ (wq hw 86 rfl)) (mvT hZ (wq hw 71 rfl)) (mvT hZ (wq hw 87 rfl)) (by decide) (backOf (W := 1) (rmWi l Z a0 hw [] (63 : Int32) (0 : Int32) h0 n0 O0 (by decide)) hZ (wq hw 87 rfl) (wq hw 71 rfl) (by decide) (by decide)) (g := (mkF m 4 #[vR c1, vI (64 : Int32)] [(.int (63 : Int32)), (.ref c1)])) rfl (by rw [hml]; rfl) (argsL := [(.int (63 : Int32))]) (rest := [(.ref c1)]) (lenOf pd_0 rfl) rfl (by show 2 * 0 + _ ≤ _; exact Nat.le_of_eq rfl) (hb hby dc16_4) (fun _ _ => ⟨rfl, e0, (by decide : 0 + 0 ≤ _), (by decide : 0 + 0 ≤ _)⟩)
  dsimp only [Pt.U, Pt.locs, Pt.cells, Pt.slots] at X101 l101 y101 z101 st101 hQ101
  subst l101 y101 z101
  obtain ⟨rfl, N101q, hh101⟩ := hQ101
  have N101 := Fr.app N0 N101q
  obtain ⟨T102, h102, k102, X102, e102, E102, A102, st102⟩ := newP X101 hx hZ (wq hw 12 rfl) hh101 (g := (mkF m 9 #[vR c1, vI (64 : Int32)] [(.int (1 : Int32)), (.ref c1)])) rfl (hb hby dc16_9) rfl (by decide) (cap := 1) (by decide) (by decide) (by decide) (by decide)
  obtain ⟨b102, g102⟩ : ∃ z, z = h0.size := ⟨_, rfl⟩
  rw [← g102] at A102 st102
  have gb102 : n0 ≤ b102 := by rw [g102, ← O0.1]; exact O0.2.1
  have ne102_c1 : c1 ≠ b102 := by rw [g102]; exact Nat.ne_of_lt (Ec).lt
  have sz102 : h0.size ≤ b102 := by rw [g102]; exact ((Keep.refl h0 [c1])).1
  have V102 : Arv Z h102 b102 k102 .long (1 : Int32) [(.long (0 : Int64))] (.long (0 : Int64)) := (Arv.new A102 (by decide)).pad (pad_rep [] (.long (0 : Int64)) 1)
  have f103 := (Ec.ext E102)
  have f104 := (Fw.ext E102)
  obtain ⟨T105, h105, X105, e105, W105, st105⟩ := putF X102 hx hZ hown (host := "") (Or.inl (wq hw 88 rfl)) Via.refl e102 f104 f103 (Or.inl (wq hw 89 rfl)) (wq hw 70 rfl) (ty := (.array .long)) (by decide) rfl rfl (g := (mkF m 11 #[vR c1, vI (64 : Int32)] [(.ref b102), (.ref c1)])) rfl rfl (hb hby dc16_11)
  have Fw105 : Fld Z h105 c1 sB "words" "[J" (.ref b102) := Fld.same W105 f104
  have N105 := Fr.snoc X105 N101 gc
  obtain ⟨fs, hr, hrun, hended, hW, hsame⟩ := X105.leave (v := none) (fun _ => rfl)
  have K106 : Keep h0 h105 [c1] := (Keep.wr (Keep.ext (Keep.refl h0 [c1]) E102) W105 (Or.inl (List.mem_of_getElem? (i := 0) rfl)))
  have f107 := (f103.wr W105)
  have f108 := ((Fs.ext E102).other W105 (Or.inr (slot_ne (Or.inl (wq hw 79 rfl)) (Or.inl (wq hw 89 rfl)) (by decide) (t := .boolean) (t' := (.array .long)) (by decide) (by decide))))
  have f109 := ((Fu.ext E102).other W105 (Or.inr (slot_ne (Or.inl (wq hw 77 rfl)) (Or.inl (wq hw 89 rfl)) (by decide) (t := .int) (t' := (.array .long)) (by decide) (by decide))))
  have f110 := (V102.other W105 (Ne.symm ne102_c1))
  refine ⟨_, _, pre0 _ ?_, hrun, hended, _, _, rfl, ?_, ⟨_, rfl⟩, hW, hsame.mono (by decide) (by decide)⟩
  · skip
    show Steps p.tables e below (s₁.setTop (mkF m 0 #[vR c1, vI (64 : Int32)] [])) _
    refine XS.aloadN X0.here hx rfl (hb hby dc16_0) rfl rfl ?_
    show Steps p.tables e below (s₁.setTop (mkF m 1 #[vR c1, vI (64 : Int32)] [(.ref c1)])) _
    refine XS.iloadN X0.here hx rfl (hb hby dc16_1) rfl ?_
    refine XS.iconst X0.here hx rfl (hb hby dc16_2) ?_
    refine XS.isub X0.here hx rfl (hb hby dc16_3) rfl ?_
    refine st101 _ ?_
    refine XS.iconst X101.here hx rfl (hb hby dc16_7) ?_
    refine XS.iadd X101.here hx rfl (hb hby dc16_8) rfl ?_
    refine st102 _ ?_
    refine st105 _ ?_
    exact X105.returnOut hx Bd.returns (hb hby dc16_14) hr
  · show Q_iw Z c1 h0 n0 _ T105.heap _
    rw [e105]
    exact ⟨_, _, rfl, N105, gb102, sz102, K106, f107, Fw105, f108, f109, f110⟩
abbrev y_17 : MethodName := (⟨"java/util/BitSet", "<init>", "()V"⟩ : MethodName)
abbrev C17 := jdk_92_method_4_code
theorem dc17_0 : decode C17 0 = .ok (.aload_n 0, 1) := by decide +kernel
theorem dc17_1 : decode C17 1 = .ok (.invokespecial 21, 3) := by decide +kernel
theorem dc17_4 : decode C17 4 = .ok (.aload_n 0, 1) := by decide +kernel
theorem dc17_5 : decode C17 5 = .ok (.iconst 0, 1) := by decide +kernel
theorem dc17_6 : decode C17 6 = .ok (.putfield 7, 3) := by decide +kernel
theorem dc17_9 : decode C17 9 = .ok (.aload_n 0, 1) := by decide +kernel
theorem dc17_10 : decode C17 10 = .ok (.iconst 0, 1) := by decide +kernel
theorem dc17_11 : decode C17 11 = .ok (.putfield 24, 3) := by decide +kernel
theorem dc17_14 : decode C17 14 = .ok (.aload_n 0, 1) := by decide +kernel
theorem dc17_15 : decode C17 15 = .ok (.bipush 64, 2) := by decide +kernel
theorem dc17_17 : decode C17 17 = .ok (.invokevirtual 27, 3) := by decide +kernel
theorem dc17_20 : decode C17 20 = .ok (.aload_n 0, 1) := by decide +kernel
theorem dc17_21 : decode C17 21 = .ok (.iconst 0, 1) := by decide +kernel
theorem dc17_22 : decode C17 22 = .ok (.putfield 24, 3) := by decide +kernel
theorem dc17_25 : decode C17 25 = .ok (.return_, 1) := by decide +kernel
theorem rmBi (l : Launch) (Z : State) (a0 : Array Value) (hw : HwT a0 Z) (ws : List Jvm.Cond) (c1 : Addr) (h0 : Heap) (n0 : Nat) (O0 : Old Z n0 h0) (Ec : Exa Z h0 c1 sB) (Fw : Fld Z h0 c1 sB "words" "[J" .null) (Fs : Fld Z h0 c1 sB "sizeIsSticky" "Z" (.int (0 : Int32))) (Fu : Fld Z h0 c1 sB "wordsInUse" "I" (.int (0 : Int32))) (gc : n0 ≤ c1) :
    Mt l Z y_17 jdk_92_method_4_code 1 none ws ({ frames := 2, cells := 1, slots := 1, locals := 26 } : Room) #[(.ref c1)] h0 (Q_iw Z c1 h0 n0) := by
  refine MetFree.of_bodySF (plainFor_of_name pn_1) hisR ?_
  intro p e s m args below meth c s₁ Bd hml0 hP hK
  obtain ⟨rfl, hZ, hh⟩ := hP
  have hx := Bd.exec
  have hby := Bd.bytes
  have hml : c.maxLocals = 1 := hml0
  have hown : s.vm.findClass sB = some m.cls := findClass_of_methodNamed Bd.named
  have hnm := (name_of_methodNamed Bd.named Bd.method).1
  have X0 : Stand p l e ({ frames := 2, cells := 1, slots := 1, locals := 26 } : Room) s m #[(.ref c1)] below meth c s₁ [] 0 0 := Stand.of_body Bd
  have e0 : s₁.heap = h0 := by rw [← hh, Bd.state]; rfl
  have N0 := Fr.nil n0
  have pre0 := fun t (k : Steps p.tables e below (s₁.setTop _) t) => castTop (ef_4 m c1) k
  obtain ⟨T101, X101, e101, st101⟩ := initO X0 hx hZ hown (wq hw 75 rfl) (wq hw 7 rfl) (wq hw 8 rfl) e0 (g := (mkF m 1 #[vR c1] [(.ref c1)])) rfl (by rw [hml]; rfl) rfl (hb hby dc17_1) (by decide) (W := 0) (by show 2 * 0 + _ ≤ _; exact Nat.le_of_eq rfl) (by decide)
  obtain ⟨T102, h102, X102, e102, W102, st102⟩ := putF X101 hx hZ hown (host := "") (Or.inl (wq hw 76 rfl)) Via.refl e101 Fu Ec (Or.inl (wq hw 77 rfl)) (wq hw 70 rfl) (ty := .int) (by decide) rfl rfl (g := (mkF m 6 #[vR c1] [(.int (0 : Int32)), (.ref c1)])) rfl rfl (hb hby dc17_6)
  have Fw102 : Fld Z h102 c1 sB "wordsInUse" "I" (.int (0 : Int32)) := Fld.same W102 Fu
  have N102 := Fr.snoc X102 N0 gc
  have f103 := (Ec.wr W102)
  have f104 := (Fs.other W102 (Or.inr (slot_ne (Or.inl (wq hw 79 rfl)) (Or.inl (wq hw 77 rfl)) (by decide) (t := .boolean) (t' := .int) (by decide) (by decide))))
  obtain ⟨T105, h105, X105, e105, W105, st105⟩ := putFN X102 hx hZ hown (wq hw 78 rfl) Via.refl e102 f104 f103 (Or.inl (wq hw 79 rfl)) (wq hw 70 rfl) (ty := .boolean) (v' := (.int (0 : Int32))) (by decide) rfl rfl (g := (mkF m 11 #[vR c1] [(.int (0 : Int32)), (.ref c1)])) rfl rfl (hb hby dc17_11)
  have Fw105 : Fld Z h105 c1 sB "sizeIsSticky" "Z" (.int (0 : Int32)) := Fld.same W105 f104
  have N105 := Fr.snoc X105 N102 gc
  have f106 := (f103.wr W105)
  have f107 := ((Fw.other W102 (Or.inr (slot_ne (Or.inl (wq hw 89 rfl)) (Or.inl (wq hw 77 rfl)) (by decide) (t := (.array .long)) (t' := .int) (by decide) (by decide)))).other W105 (Or.inr (slot_ne (Or.inl (wq hw 89 rfl)) (Or.inl (wq hw 79 rfl)) (by decide) (t := (.array .long)) (t' := .boolean) (by decide) (by decide))))
  have f108 := (Fw102.other W105 (Or.inr (slot_ne (Or.inl (wq hw 77 rfl)) (Or.inl (wq hw 79 rfl)) (by decide) (t := .int) (t' := .boolean) (by decide) (by decide))))
  have K109 : Keep h0 h105 [c1] := (Keep.wr (Keep.wr (Keep.refl h0 [c1]) W102 (Or.inl (List.mem_of_getElem? (i := 0) rfl))) W105 (Or.inl (List.mem_of_getElem? (i := 0) rfl)))
  have O110 : Old Z n0 h105 := ((O0.wr W102 gc).wr W105 gc)
  obtain ⟨cq111, q111, q111'⟩ := Exa.cell f106
  obtain ⟨_, _, ⟨T111, L111, k111, n111⟩, -, X111, ⟨Lc111, hQ111, l111, y111, z111⟩, st111⟩ := X105.privateBack hx (y := y_16) hown (mvT hZ (wq hw 80 rfl)) (mvT hZ (wq hw 81 rfl)) (mvT hZ (wq hw 83 rfl)) (Cond.privateMethod_at (mvP hZ (wq hw 82 rfl) (args := #[]))) (mvT hZ (wq hw 84 rfl)) (by decide) (backOf (W := 0) (rmIw l Z a0 hw [] c1 h105 n0 O110 f106 f107 Fw105 f108 gc) hZ (wq hw 84 rfl) (wq hw 71 rfl) (by decide) (by decide)) (g := (mkF m 17 #[vR c1] [(.int (64 : Int32)), (.ref c1)])) rfl (by rw [hml]; rfl) (Steps.refl _) (a := c1) (by rw [e105]; exact q111) q111' (argsL := [(.int (64 : Int32))]) (rest := []) (lenOf pd_3 rfl) rfl (by show 2 * 0 + _ ≤ _; exact Nat.le_of_eq rfl) (hb hby dc17_17) (fun _ _ => ⟨rfl, e105, (by decide : 0 + 1 ≤ _), (by decide : 0 + 1 ≤ _)⟩)
  dsimp only [Pt.U, Pt.locs, Pt.cells, Pt.slots] at X111 l111 y111 z111 st111 hQ111
  subst l111 y111 z111
  obtain ⟨b111, kb111, rfl, N111q, gb111, sz111, K111, Ec111, Fw111, Fs111, Fu111, V111⟩ := hQ111
  have N111 := Fr.app N105 N111q
  have ne111_c1 : c1 ≠ b111 := Nat.ne_of_lt (Nat.lt_of_lt_of_le (f106).lt sz111)
  have sz0111 : h0.size ≤ b111 := Nat.le_trans (K109).1 sz111
  obtain ⟨T112, h112, X112, e112, W112, st112⟩ := putFN X111 hx hZ hown (wq hw 78 rfl) Via.refl rfl Fs111 Ec111 (Or.inl (wq hw 79 rfl)) (wq hw 70 rfl) (ty := .boolean) (v' := (.int (0 : Int32))) (by decide) rfl rfl (g := (mkF m 22 #[vR c1] [(.int (0 : Int32)), (.ref c1)])) rfl rfl (hb hby dc17_22)
  have Fw112 : Fld Z h112 c1 sB "sizeIsSticky" "Z" (.int (0 : Int32)) := Fld.same W112 Fs111
  have N112 := Fr.snoc X112 N111 gc
  obtain ⟨fs, hr, hrun, hended, hW, hsame⟩ := X112.leave (v := none) (fun _ => rfl)
  have K113 : Keep h0 h112 [c1] := (Keep.wr (Keep.trans K109 K111 (allS (P := fun x => x ∈ [c1] ∨ h0.size ≤ x) (Or.inl (List.mem_of_getElem? (i := 0) rfl)) all0)) W112 (Or.inl (List.mem_of_getElem? (i := 0) rfl)))
  have f114 := (Ec111.wr W112)
  have f115 := (Fw111.other W112 (Or.inr (slot_ne (Or.inl (wq hw 89 rfl)) (Or.inl (wq hw 79 rfl)) (by decide) (t := (.array .long)) (t' := .boolean) (by decide) (by decide))))
  have f116 := (Fu111.other W112 (Or.inr (slot_ne (Or.inl (wq hw 77 rfl)) (Or.inl (wq hw 79 rfl)) (by decide) (t := .int) (t' := .boolean) (by decide) (by decide))))
  have f117 := (V111.other W112 (Ne.symm ne111_c1))
  refine ⟨_, _, pre0 _ ?_, hrun, hended, _, _, rfl, ?_, ⟨_, rfl⟩, hW, hsame.mono (by decide) (by decide)⟩
  · skip
    show Steps p.tables e below (s₁.setTop (mkF m 0 #[vR c1] [])) _
    refine XS.aloadN X0.here hx rfl (hb hby dc17_0) rfl rfl ?_
    refine st101 _ ?_
    refine XS.aloadN X101.here hx rfl (hb hby dc17_4) rfl rfl ?_
    refine XS.iconst X101.here hx rfl (hb hby dc17_5) ?_
    refine st102 _ ?_
    refine XS.aloadN X102.here hx rfl (hb hby dc17_9) rfl rfl ?_
    refine XS.iconst X102.here hx rfl (hb hby dc17_10) ?_
    refine st105 _ ?_
    show Steps p.tables e below (T105.setTop (mkF m 14 #[vR c1] [])) _
    refine XS.aloadN X105.here hx rfl (hb hby dc17_14) rfl rfl ?_
    refine XS.bipush X105.here hx rfl (hb hby dc17_15) ?_
    refine st111.trans ?_
    refine XS.aloadN X111.here hx rfl (hb hby dc17_20) rfl rfl ?_
    refine XS.iconst X111.here hx rfl (hb hby dc17_21) ?_
    refine st112 _ ?_
    exact X112.returnOut hx Bd.returns (hb hby dc17_25) hr
  · show Q_iw Z c1 h0 n0 _ T112.heap _
    rw [e112]
    exact ⟨_, _, rfl, N112, gb111, sz0111, K113, f114, f115, Fw112, f116, f117⟩
def Srt : List Int32 → Prop
  | [] => True
  | [x] => own_r x
  | x :: y :: t => own_r x ∧ x.toInt < y.toInt ∧ Srt (y :: t)
def own_at0 (u1 i1 : Int32) : Prop := False
def own_pl0 (u1 j1 : Int32) : Prop := (j1 = (0 : Int32))
def own_R0 (u1 r1 : Int32) : Prop := (∃ i1 : Int32, r1 = i1 ∧ own_at0 u1 i1) ∨ (∃ j1 : Int32, r1 = (-(j1 + (1 : Int32))) ∧ own_pl0 u1 j1)
def Q_fi0 (u1 : Int32) (h0 : Heap) (n0 : Nat) (v : Option Value) (h : Heap) (L : List Loc) : Prop := ∃ r1 : Int32, v = some (.int r1) ∧ Fr n0 L ∧ h = h0 ∧ own_R0 u1 r1
def own_at1 (t0 u1 i1 : Int32) : Prop := (i1 = (0 : Int32) ∧ t0 = u1)
def own_pl1 (t0 u1 j1 : Int32) : Prop := (j1 = (0 : Int32) ∧ u1 < t0) ∨ (j1 = (1 : Int32) ∧ t0 < u1)
def own_R1 (t0 u1 r1 : Int32) : Prop := (∃ i1 : Int32, r1 = i1 ∧ own_at1 t0 u1 i1) ∨ (∃ j1 : Int32, r1 = (-(j1 + (1 : Int32))) ∧ own_pl1 t0 u1 j1)
def Q_fi1 (t0 u1 : Int32) (h0 : Heap) (n0 : Nat) (v : Option Value) (h : Heap) (L : List Loc) : Prop := ∃ r1 : Int32, v = some (.int r1) ∧ Fr n0 L ∧ h = h0 ∧ own_R1 t0 u1 r1
def own_at2 (t0 t1 u1 i1 : Int32) : Prop := (i1 = (0 : Int32) ∧ t0 = u1) ∨ (i1 = (1 : Int32) ∧ t1 = u1)
def own_pl2 (t0 t1 u1 j1 : Int32) : Prop := (j1 = (0 : Int32) ∧ u1 < t0) ∨ (j1 = (1 : Int32) ∧ t0 < u1 ∧ u1 < t1) ∨ (j1 = (2 : Int32) ∧ t1 < u1)
def own_R2 (t0 t1 u1 r1 : Int32) : Prop := (∃ i1 : Int32, r1 = i1 ∧ own_at2 t0 t1 u1 i1) ∨ (∃ j1 : Int32, r1 = (-(j1 + (1 : Int32))) ∧ own_pl2 t0 t1 u1 j1)
def Q_fi2 (t0 t1 u1 : Int32) (h0 : Heap) (n0 : Nat) (v : Option Value) (h : Heap) (L : List Loc) : Prop := ∃ r1 : Int32, v = some (.int r1) ∧ Fr n0 L ∧ h = h0 ∧ own_R2 t0 t1 u1 r1
def own_at3 (t0 t1 t2 u1 i1 : Int32) : Prop := (i1 = (0 : Int32) ∧ t0 = u1) ∨ (i1 = (1 : Int32) ∧ t1 = u1) ∨ (i1 = (2 : Int32) ∧ t2 = u1)
def own_pl3 (t0 t1 t2 u1 j1 : Int32) : Prop := (j1 = (0 : Int32) ∧ u1 < t0) ∨ (j1 = (1 : Int32) ∧ t0 < u1 ∧ u1 < t1) ∨ (j1 = (2 : Int32) ∧ t1 < u1 ∧ u1 < t2) ∨ (j1 = (3 : Int32) ∧ t2 < u1)
def own_R3 (t0 t1 t2 u1 r1 : Int32) : Prop := (∃ i1 : Int32, r1 = i1 ∧ own_at3 t0 t1 t2 u1 i1) ∨ (∃ j1 : Int32, r1 = (-(j1 + (1 : Int32))) ∧ own_pl3 t0 t1 t2 u1 j1)
def Q_fi3 (t0 t1 t2 u1 : Int32) (h0 : Heap) (n0 : Nat) (v : Option Value) (h : Heap) (L : List Loc) : Prop := ∃ r1 : Int32, v = some (.int r1) ∧ Fr n0 L ∧ h = h0 ∧ own_R3 t0 t1 t2 u1 r1
def own_at4 (t0 t1 t2 t3 u1 i1 : Int32) : Prop := (i1 = (0 : Int32) ∧ t0 = u1) ∨ (i1 = (1 : Int32) ∧ t1 = u1) ∨ (i1 = (2 : Int32) ∧ t2 = u1) ∨ (i1 = (3 : Int32) ∧ t3 = u1)
def own_pl4 (t0 t1 t2 t3 u1 j1 : Int32) : Prop := (j1 = (0 : Int32) ∧ u1 < t0) ∨ (j1 = (1 : Int32) ∧ t0 < u1 ∧ u1 < t1) ∨ (j1 = (2 : Int32) ∧ t1 < u1 ∧ u1 < t2) ∨ (j1 = (3 : Int32) ∧ t2 < u1 ∧ u1 < t3) ∨ (j1 = (4 : Int32) ∧ t3 < u1)
def own_R4 (t0 t1 t2 t3 u1 r1 : Int32) : Prop := (∃ i1 : Int32, r1 = i1 ∧ own_at4 t0 t1 t2 t3 u1 i1) ∨ (∃ j1 : Int32, r1 = (-(j1 + (1 : Int32))) ∧ own_pl4 t0 t1 t2 t3 u1 j1)
def Q_fi4 (t0 t1 t2 t3 u1 : Int32) (h0 : Heap) (n0 : Nat) (v : Option Value) (h : Heap) (L : List Loc) : Prop := ∃ r1 : Int32, v = some (.int r1) ∧ Fr n0 L ∧ h = h0 ∧ own_R4 t0 t1 t2 t3 u1 r1
theorem own_nn {x y : Int32} (h1 : ¬ x < y) (h2 : ¬ y < x) : x = y := by rw [Int32.lt_iff_toInt_lt] at h1 h2; exact Int32.toInt_inj.mp (by omega)
abbrev y_18 : MethodName := (⟨"java/util/Arrays", "rangeCheck", "(III)V"⟩ : MethodName)
theorem ef_8 (m : MethodId) (x0 : Int32) (x1 : Int32) (x2 : Int32) : entryFrame m #[(.int x0), (.int x1), (.int x2)] 3 = mkF m 0 #[.val (.int x0), .val (.int x1), .val (.int x2)] [] := by first | (simp [entryFrame, mkF, argsToLocals, Value.category]; done) | rfl
abbrev C18 := jdk_65_method_30_code
theorem dc18_0 : decode C18 0 = .ok (.iload_n 1, 1) := by decide +kernel
theorem dc18_1 : decode C18 1 = .ok (.iload_n 2, 1) := by decide +kernel
theorem dc18_2 : decode C18 2 = .ok (.if_icmp .le 44, 3) := by decide +kernel
theorem dc18_46 : decode C18 46 = .ok (.iload_n 1, 1) := by decide +kernel
theorem dc18_47 : decode C18 47 = .ok (.ifCond .ge 12, 3) := by decide +kernel
theorem dc18_59 : decode C18 59 = .ok (.iload_n 2, 1) := by decide +kernel
theorem dc18_60 : decode C18 60 = .ok (.iload_n 0, 1) := by decide +kernel
theorem dc18_61 : decode C18 61 = .ok (.if_icmp .le 12, 3) := by decide +kernel
theorem dc18_73 : decode C18 73 = .ok (.return_, 1) := by decide +kernel
theorem rmRc (l : Launch) (Z : State) (a0 : Array Value) (hw : HwT a0 Z) (ws : List Jvm.Cond) (x0 x1 x2 : Int32) (h0 : Heap) (n0 : Nat) (O0 : Old Z n0 h0) (h1 : ¬ x2 < x1) (h2 : ¬ x1 < (0 : Int32)) (h3 : ¬ x0 < x2) :
    Mt l Z y_18 jdk_65_method_30_code 3 none ws ({ frames := 0, cells := 0, slots := 0, locals := 0 } : Room) #[(.int x0), (.int x1), (.int x2)] h0 (Q_n h0 n0) := by
  refine MetFree.of_bodySF (plainFor_of_name pn_4) hisR ?_
  intro p e s m args below meth c s₁ Bd hml0 hP hK
  obtain ⟨rfl, hZ, hh⟩ := hP
  have hx := Bd.exec
  have hby := Bd.bytes
  have hml : c.maxLocals = 3 := hml0
  have hown : s.vm.findClass "java/util/Arrays" = some m.cls := findClass_of_methodNamed Bd.named
  have hnm := (name_of_methodNamed Bd.named Bd.method).1
  have X0 : Stand p l e ({ frames := 0, cells := 0, slots := 0, locals := 0 } : Room) s m #[(.int x0), (.int x1), (.int x2)] below meth c s₁ [] 0 0 := Stand.of_body Bd
  have e0 : s₁.heap = h0 := by rw [← hh, Bd.state]; rfl
  have N0 := Fr.nil n0
  have pre0 := fun t (k : Steps p.tables e below (s₁.setTop _) t) => castTop (ef_8 m x0 x1 x2) k
  obtain ⟨fs, hr, hrun, hended, hW, hsame⟩ := X0.leave (v := none) (fun _ => rfl)
  refine ⟨_, _, pre0 _ ?_, hrun, hended, _, _, rfl, ?_, ⟨_, rfl⟩, hW, hsame.mono (by decide) (by decide)⟩
  · skip
    show Steps p.tables e below (s₁.setTop (mkF m 0 #[vI x0, vI x1, vI x2] [])) _
    refine XS.iloadN X0.here hx rfl (hb hby dc18_0) rfl ?_
    refine XS.iloadN X0.here hx rfl (hb hby dc18_1) rfl ?_
    show Steps p.tables e below (s₁.setTop (mkF m 2 #[vI x0, vI x1, vI x2] [(.int x2), (.int x1)])) _
    refine XS.icmpYes X0.here hx rfl (pc0 := 2) (pc' := 46) rfl (hb hby dc18_2) rfl (flt h1).2.2.2 (by decide) (by decide) ?_
    refine XS.iloadN X0.here hx rfl (hb hby dc18_46) rfl ?_
    refine XS.ifYes X0.here hx rfl (pc0 := 47) (pc' := 59) rfl (hb hby dc18_47) rfl ((if0 _ _).trans (flt h2).2.1) (by decide) (by decide) ?_
    refine XS.iloadN X0.here hx rfl (hb hby dc18_59) rfl ?_
    refine XS.iloadN X0.here hx rfl (hb hby dc18_60) rfl ?_
    refine XS.icmpYes X0.here hx rfl (pc0 := 61) (pc' := 73) rfl (hb hby dc18_61) rfl (flt h3).2.2.2 (by decide) (by decide) ?_
    exact X0.returnOut hx Bd.returns (hb hby dc18_73) hr
  · show Q_n h0 n0 _ s₁.heap _
    rw [e0]
    exact ⟨rfl, N0, rfl⟩
def Iv (Z : State) (h : Heap) (b : Addr) (n : Nat) (f : Int32 → Int32) : Prop := ∃ c : Cell, Arr Z h b c .int ∧ c.slots.size = n ∧ ∀ j : Int32, ¬ (j < 0 ∨ c.slots.size ≤ j.toNatClampNeg) → c.slots[j.toNatClampNeg]? = some (.int (f j))
theorem own_inN {j : Int32} {N : Nat} (h0 : 0 ≤ j.toInt) (h1 : j.toInt < N) : ¬ (j < 0 ∨ N ≤ j.toNatClampNeg) := by
  rw [Int32.lt_iff_toInt_lt]; have e : (0 : Int32).toInt = 0 := rfl; have q : j.toNatClampNeg = j.toInt.toNat := rfl; omega
theorem own_ltI {x y : Int32} (h : x.toInt < y.toInt) : x < y := Int32.lt_iff_toInt_lt.mpr h
theorem own_nltI {x y : Int32} (h : y.toInt ≤ x.toInt) : ¬ x < y := fun q => by rw [Int32.lt_iff_toInt_lt] at q; omega
theorem own_toI {x y : Int32} (h : x < y) : x.toInt < y.toInt := Int32.lt_iff_toInt_lt.mp h
theorem own_ntoI {x y : Int32} (h : ¬ x < y) : y.toInt ≤ x.toInt := by rw [Int32.lt_iff_toInt_lt] at h; omega
theorem own_ad {x y : Int32} (h0 : 0 ≤ x.toInt + y.toInt) (h1 : x.toInt + y.toInt < 1000) : (x + y).toInt = x.toInt + y.toInt := by have a := c_iadd x y; have b := rng32 (x + y); omega
theorem own_sb1 {x : Int32} (h0 : 0 ≤ x.toInt) : (x - (1 : Int32)).toInt = x.toInt - 1 := by have a := c_isub x 1; have b := rng32 (x - 1); have c := rng32 x; have e : (1 : Int32).toInt = 1 := rfl; omega
def own_Rf (n1 : Int32) (a : Int32 → Int32) (u1 r1 : Int32) : Prop := (∃ i1 : Int32, r1 = i1 ∧ 0 ≤ i1.toInt ∧ i1.toInt < n1.toInt ∧ a i1 = u1) ∨ (∃ j1 : Int32, r1 = (-(j1 + (1 : Int32))) ∧ 0 ≤ j1.toInt ∧ j1.toInt ≤ n1.toInt ∧ (∀ i : Int32, 0 ≤ i.toInt → i.toInt < j1.toInt → (a i).toInt < u1.toInt) ∧ (∀ i : Int32, j1.toInt ≤ i.toInt → i.toInt < n1.toInt → u1.toInt < (a i).toInt))
def own_Mo (n1 : Int32) (a : Int32 → Int32) : Prop := ∀ i j : Int32, 0 ≤ i.toInt → i.toInt < j.toInt → j.toInt < n1.toInt → (a i).toInt < (a j).toInt
def own_Lo (a : Int32 → Int32) (u1 x : Int32) : Prop := ∀ i : Int32, 0 ≤ i.toInt → i.toInt < x.toInt → (a i).toInt < u1.toInt
def own_Hi (n1 : Int32) (a : Int32 → Int32) (u1 x : Int32) : Prop := ∀ i : Int32, x.toInt < i.toInt → i.toInt < n1.toInt → u1.toInt < (a i).toInt
def own_f1 (e0 : Int32) : Int32 → Int32 := fun _ => e0
def own_f2 (e0 e1 : Int32) : Int32 → Int32 := fun j => if j = 0 then e0 else e1
def own_f4 (e0 e1 e2 e3 : Int32) : Int32 → Int32 := fun j => if j = 0 then e0 else if j = 1 then e1 else if j = 2 then e2 else e3
theorem own_small {i : Int32} (h0 : 0 ≤ i.toInt) (h1 : i.toInt < 5) : i = 0 ∨ i = 1 ∨ i = 2 ∨ i = 3 ∨ i = 4 := by
  simp only [← Int32.toInt_inj]
  have e0 : (0 : Int32).toInt = 0 := rfl
  have e1 : (1 : Int32).toInt = 1 := rfl
  have e2 : (2 : Int32).toInt = 2 := rfl
  have e3 : (3 : Int32).toInt = 3 := rfl
  have e4 : (4 : Int32).toInt = 4 := rfl
  omega
theorem Iv.of1 {Z : State} {h : Heap} {b : Addr} {kc : ClassId} {t0 : Int32} {dv : Value} (V : Arv Z h b kc .int (1 : Int32) [(.int t0)] dv) : Iv Z h b 1 (own_f1 t0) := by
  obtain ⟨cl, A, -, S, -, H, -⟩ := V
  refine ⟨cl, A, S.trans rfl, fun j hj => H.at hj ?_⟩
  have S' : cl.slots.size = 1 := S.trans rfl
  rw [S', Int32.lt_iff_toInt_lt] at hj
  have e0 : (0 : Int32).toInt = 0 := rfl
  have eN : j.toNatClampNeg = j.toInt.toNat := rfl
  rcases own_small (i := j) (by omega) (by omega) with rfl | rfl | rfl | rfl | rfl
  all_goals first | rfl | (exfalso; revert hj; decide)
theorem Iv.of2 {Z : State} {h : Heap} {b : Addr} {kc : ClassId} {t0 t1 : Int32} {dv : Value} (V : Arv Z h b kc .int (2 : Int32) [(.int t0), (.int t1)] dv) : Iv Z h b 2 (own_f2 t0 t1) := by
  obtain ⟨cl, A, -, S, -, H, -⟩ := V
  refine ⟨cl, A, S.trans rfl, fun j hj => H.at hj ?_⟩
  have S' : cl.slots.size = 2 := S.trans rfl
  rw [S', Int32.lt_iff_toInt_lt] at hj
  have e0 : (0 : Int32).toInt = 0 := rfl
  have eN : j.toNatClampNeg = j.toInt.toNat := rfl
  rcases own_small (i := j) (by omega) (by omega) with rfl | rfl | rfl | rfl | rfl
  all_goals first | rfl | (exfalso; revert hj; decide)
theorem Iv.of4 {Z : State} {h : Heap} {b : Addr} {kc : ClassId} {t0 t1 t2 t3 : Int32} {dv : Value} (V : Arv Z h b kc .int (4 : Int32) [(.int t0), (.int t1), (.int t2), (.int t3)] dv) : Iv Z h b 4 (own_f4 t0 t1 t2 t3) := by
  obtain ⟨cl, A, -, S, -, H, -⟩ := V
  refine ⟨cl, A, S.trans rfl, fun j hj => H.at hj ?_⟩
  have S' : cl.slots.size = 4 := S.trans rfl
  rw [S', Int32.lt_iff_toInt_lt] at hj
  have e0 : (0 : Int32).toInt = 0 := rfl
  have eN : j.toNatClampNeg = j.toInt.toNat := rfl
  rcases own_small (i := j) (by omega) (by omega) with rfl | rfl | rfl | rfl | rfl
  all_goals first | rfl | (exfalso; revert hj; decide)
theorem own_mo01 {t0 : Int32} : own_Mo (0 : Int32) (own_f1 t0) := by
  intro i j h0 h1 h2
  have en : (0 : Int32).toInt = 0 := rfl
  omega
theorem own_cv01 {t0 u1 r1 : Int32} (q : own_Rf (0 : Int32) (own_f1 t0) u1 r1) : own_R0 u1 r1 := by
  have en : (0 : Int32).toInt = 0 := rfl
  rcases q with ⟨i, er, h0, h1, h2⟩ | ⟨j, rfl, h0, h1, h2, h3⟩
  · omega
  · rcases own_small (i := j) (by omega) (by omega) with rfl | rfl | rfl | rfl | rfl
    · exact Or.inr ⟨_, rfl, rfl⟩
    · exfalso; revert h1; decide
    · exfalso; revert h1; decide
    · exfalso; revert h1; decide
    · exfalso; revert h1; decide
theorem own_mo02 {t0 t1 : Int32} : own_Mo (0 : Int32) (own_f2 t0 t1) := by
  intro i j h0 h1 h2
  have en : (0 : Int32).toInt = 0 := rfl
  omega
theorem own_cv02 {t0 t1 u1 r1 : Int32} (q : own_Rf (0 : Int32) (own_f2 t0 t1) u1 r1) : own_R0 u1 r1 := by
  have en : (0 : Int32).toInt = 0 := rfl
  rcases q with ⟨i, er, h0, h1, h2⟩ | ⟨j, rfl, h0, h1, h2, h3⟩
  · omega
  · rcases own_small (i := j) (by omega) (by omega) with rfl | rfl | rfl | rfl | rfl
    · exact Or.inr ⟨_, rfl, rfl⟩
    · exfalso; revert h1; decide
    · exfalso; revert h1; decide
    · exfalso; revert h1; decide
    · exfalso; revert h1; decide
theorem own_mo11 {t0 : Int32} : own_Mo (1 : Int32) (own_f1 t0) := by
  intro i j h0 h1 h2
  have en : (1 : Int32).toInt = 1 := rfl
  omega
theorem own_cv11 {t0 u1 r1 : Int32} (q : own_Rf (1 : Int32) (own_f1 t0) u1 r1) : own_R1 t0 u1 r1 := by
  have en : (1 : Int32).toInt = 1 := rfl
  rcases q with ⟨i, er, h0, h1, h2⟩ | ⟨j, rfl, h0, h1, h2, h3⟩
  · rw [er]; rcases own_small (i := i) (by omega) (by omega) with rfl | rfl | rfl | rfl | rfl
    · exact Or.inl ⟨_, rfl, ⟨rfl, h2⟩⟩
    · exfalso; revert h1; decide
    · exfalso; revert h1; decide
    · exfalso; revert h1; decide
    · exfalso; revert h1; decide
  · rcases own_small (i := j) (by omega) (by omega) with rfl | rfl | rfl | rfl | rfl
    · exact Or.inr ⟨_, rfl, Or.inl ⟨rfl, own_ltI (h3 (0 : Int32) (by decide) (by decide))⟩⟩
    · exact Or.inr ⟨_, rfl, Or.inr (⟨rfl, own_ltI (h2 (0 : Int32) (by decide) (by decide))⟩)⟩
    · exfalso; revert h1; decide
    · exfalso; revert h1; decide
    · exfalso; revert h1; decide
theorem own_mo12 {t0 t1 : Int32} : own_Mo (1 : Int32) (own_f2 t0 t1) := by
  intro i j h0 h1 h2
  have en : (1 : Int32).toInt = 1 := rfl
  omega
theorem own_cv12 {t0 t1 u1 r1 : Int32} (q : own_Rf (1 : Int32) (own_f2 t0 t1) u1 r1) : own_R1 t0 u1 r1 := by
  have en : (1 : Int32).toInt = 1 := rfl
  rcases q with ⟨i, er, h0, h1, h2⟩ | ⟨j, rfl, h0, h1, h2, h3⟩
  · rw [er]; rcases own_small (i := i) (by omega) (by omega) with rfl | rfl | rfl | rfl | rfl
    · exact Or.inl ⟨_, rfl, ⟨rfl, h2⟩⟩
    · exfalso; revert h1; decide
    · exfalso; revert h1; decide
    · exfalso; revert h1; decide
    · exfalso; revert h1; decide
  · rcases own_small (i := j) (by omega) (by omega) with rfl | rfl | rfl | rfl | rfl
    · exact Or.inr ⟨_, rfl, Or.inl ⟨rfl, own_ltI (h3 (0 : Int32) (by decide) (by decide))⟩⟩
    · exact Or.inr ⟨_, rfl, Or.inr (⟨rfl, own_ltI (h2 (0 : Int32) (by decide) (by decide))⟩)⟩
    · exfalso; revert h1; decide
    · exfalso; revert h1; decide
    · exfalso; revert h1; decide
theorem own_mo22 {t0 t1 : Int32} (hs : Srt [t0, t1]) : own_Mo (2 : Int32) (own_f2 t0 t1) := by
  intro i j h0 h1 h2
  have en : (2 : Int32).toInt = 2 := rfl
  simp only [Srt, own_r] at hs
  rcases own_small (i := i) (by omega) (by omega) with rfl | rfl | rfl | rfl | rfl <;> rcases own_small (i := j) (by omega) (by omega) with rfl | rfl | rfl | rfl | rfl
  all_goals first | (exfalso; revert h1; decide) | (exfalso; revert h2; decide) | (simp [own_f2]; omega)
theorem own_cv22 {t0 t1 u1 r1 : Int32} (q : own_Rf (2 : Int32) (own_f2 t0 t1) u1 r1) : own_R2 t0 t1 u1 r1 := by
  have en : (2 : Int32).toInt = 2 := rfl
  rcases q with ⟨i, er, h0, h1, h2⟩ | ⟨j, rfl, h0, h1, h2, h3⟩
  · rw [er]; rcases own_small (i := i) (by omega) (by omega) with rfl | rfl | rfl | rfl | rfl
    · exact Or.inl ⟨_, rfl, Or.inl ⟨rfl, h2⟩⟩
    · exact Or.inl ⟨_, rfl, Or.inr (⟨rfl, h2⟩)⟩
    · exfalso; revert h1; decide
    · exfalso; revert h1; decide
    · exfalso; revert h1; decide
  · rcases own_small (i := j) (by omega) (by omega) with rfl | rfl | rfl | rfl | rfl
    · exact Or.inr ⟨_, rfl, Or.inl ⟨rfl, own_ltI (h3 (0 : Int32) (by decide) (by decide))⟩⟩
    · exact Or.inr ⟨_, rfl, Or.inr (Or.inl ⟨rfl, own_ltI (h2 (0 : Int32) (by decide) (by decide)), own_ltI (h3 (1 : Int32) (by decide) (by decide))⟩)⟩
    · exact Or.inr ⟨_, rfl, Or.inr (Or.inr (⟨rfl, own_ltI (h2 (1 : Int32) (by decide) (by decide))⟩))⟩
    · exfalso; revert h1; decide
    · exfalso; revert h1; decide
theorem own_mo24 {t0 t1 t2 t3 : Int32} (hs : Srt [t0, t1]) : own_Mo (2 : Int32) (own_f4 t0 t1 t2 t3) := by
  intro i j h0 h1 h2
  have en : (2 : Int32).toInt = 2 := rfl
  simp only [Srt, own_r] at hs
  rcases own_small (i := i) (by omega) (by omega) with rfl | rfl | rfl | rfl | rfl <;> rcases own_small (i := j) (by omega) (by omega) with rfl | rfl | rfl | rfl | rfl
  all_goals first | (exfalso; revert h1; decide) | (exfalso; revert h2; decide) | (simp [own_f4]; omega)
theorem own_cv24 {t0 t1 t2 t3 u1 r1 : Int32} (q : own_Rf (2 : Int32) (own_f4 t0 t1 t2 t3) u1 r1) : own_R2 t0 t1 u1 r1 := by
  have en : (2 : Int32).toInt = 2 := rfl
  rcases q with ⟨i, er, h0, h1, h2⟩ | ⟨j, rfl, h0, h1, h2, h3⟩
  · rw [er]; rcases own_small (i := i) (by omega) (by omega) with rfl | rfl | rfl | rfl | rfl
    · exact Or.inl ⟨_, rfl, Or.inl ⟨rfl, h2⟩⟩
    · exact Or.inl ⟨_, rfl, Or.inr (⟨rfl, h2⟩)⟩
    · exfalso; revert h1; decide
    · exfalso; revert h1; decide
    · exfalso; revert h1; decide
  · rcases own_small (i := j) (by omega) (by omega) with rfl | rfl | rfl | rfl | rfl
    · exact Or.inr ⟨_, rfl, Or.inl ⟨rfl, own_ltI (h3 (0 : Int32) (by decide) (by decide))⟩⟩
    · exact Or.inr ⟨_, rfl, Or.inr (Or.inl ⟨rfl, own_ltI (h2 (0 : Int32) (by decide) (by decide)), own_ltI (h3 (1 : Int32) (by decide) (by decide))⟩)⟩
    · exact Or.inr ⟨_, rfl, Or.inr (Or.inr (⟨rfl, own_ltI (h2 (1 : Int32) (by decide) (by decide))⟩))⟩
    · exfalso; revert h1; decide
    · exfalso; revert h1; decide
theorem own_mo34 {t0 t1 t2 t3 : Int32} (hs : Srt [t0, t1, t2]) : own_Mo (3 : Int32) (own_f4 t0 t1 t2 t3) := by
  intro i j h0 h1 h2
  have en : (3 : Int32).toInt = 3 := rfl
  simp only [Srt, own_r] at hs
  rcases own_small (i := i) (by omega) (by omega) with rfl | rfl | rfl | rfl | rfl <;> rcases own_small (i := j) (by omega) (by omega) with rfl | rfl | rfl | rfl | rfl
  all_goals first | (exfalso; revert h1; decide) | (exfalso; revert h2; decide) | (simp [own_f4]; omega)
theorem own_cv34 {t0 t1 t2 t3 u1 r1 : Int32} (q : own_Rf (3 : Int32) (own_f4 t0 t1 t2 t3) u1 r1) : own_R3 t0 t1 t2 u1 r1 := by
  have en : (3 : Int32).toInt = 3 := rfl
  rcases q with ⟨i, er, h0, h1, h2⟩ | ⟨j, rfl, h0, h1, h2, h3⟩
  · rw [er]; rcases own_small (i := i) (by omega) (by omega) with rfl | rfl | rfl | rfl | rfl
    · exact Or.inl ⟨_, rfl, Or.inl ⟨rfl, h2⟩⟩
    · exact Or.inl ⟨_, rfl, Or.inr (Or.inl ⟨rfl, h2⟩)⟩
    · exact Or.inl ⟨_, rfl, Or.inr (Or.inr (⟨rfl, h2⟩))⟩
    · exfalso; revert h1; decide
    · exfalso; revert h1; decide
  · rcases own_small (i := j) (by omega) (by omega) with rfl | rfl | rfl | rfl | rfl
    · exact Or.inr ⟨_, rfl, Or.inl ⟨rfl, own_ltI (h3 (0 : Int32) (by decide) (by decide))⟩⟩
    · exact Or.inr ⟨_, rfl, Or.inr (Or.inl ⟨rfl, own_ltI (h2 (0 : Int32) (by decide) (by decide)), own_ltI (h3 (1 : Int32) (by decide) (by decide))⟩)⟩
    · exact Or.inr ⟨_, rfl, Or.inr (Or.inr (Or.inl ⟨rfl, own_ltI (h2 (1 : Int32) (by decide) (by decide)), own_ltI (h3 (2 : Int32) (by decide) (by decide))⟩))⟩
    · exact Or.inr ⟨_, rfl, Or.inr (Or.inr (Or.inr (⟨rfl, own_ltI (h2 (2 : Int32) (by decide) (by decide))⟩)))⟩
    · exfalso; revert h1; decide
theorem own_mo44 {t0 t1 t2 t3 : Int32} (hs : Srt [t0, t1, t2, t3]) : own_Mo (4 : Int32) (own_f4 t0 t1 t2 t3) := by
  intro i j h0 h1 h2
  have en : (4 : Int32).toInt = 4 := rfl
  simp only [Srt, own_r] at hs
  rcases own_small (i := i) (by omega) (by omega) with rfl | rfl | rfl | rfl | rfl <;> rcases own_small (i := j) (by omega) (by omega) with rfl | rfl | rfl | rfl | rfl
  all_goals first | (exfalso; revert h1; decide) | (exfalso; revert h2; decide) | (simp [own_f4]; omega)
theorem own_cv44 {t0 t1 t2 t3 u1 r1 : Int32} (q : own_Rf (4 : Int32) (own_f4 t0 t1 t2 t3) u1 r1) : own_R4 t0 t1 t2 t3 u1 r1 := by
  have en : (4 : Int32).toInt = 4 := rfl
  rcases q with ⟨i, er, h0, h1, h2⟩ | ⟨j, rfl, h0, h1, h2, h3⟩
  · rw [er]; rcases own_small (i := i) (by omega) (by omega) with rfl | rfl | rfl | rfl | rfl
    · exact Or.inl ⟨_, rfl, Or.inl ⟨rfl, h2⟩⟩
    · exact Or.inl ⟨_, rfl, Or.inr (Or.inl ⟨rfl, h2⟩)⟩
    · exact Or.inl ⟨_, rfl, Or.inr (Or.inr (Or.inl ⟨rfl, h2⟩))⟩
    · exact Or.inl ⟨_, rfl, Or.inr (Or.inr (Or.inr (⟨rfl, h2⟩)))⟩
    · exfalso; revert h1; decide
  · rcases own_small (i := j) (by omega) (by omega) with rfl | rfl | rfl | rfl | rfl
    · exact Or.inr ⟨_, rfl, Or.inl ⟨rfl, own_ltI (h3 (0 : Int32) (by decide) (by decide))⟩⟩
    · exact Or.inr ⟨_, rfl, Or.inr (Or.inl ⟨rfl, own_ltI (h2 (0 : Int32) (by decide) (by decide)), own_ltI (h3 (1 : Int32) (by decide) (by decide))⟩)⟩
    · exact Or.inr ⟨_, rfl, Or.inr (Or.inr (Or.inl ⟨rfl, own_ltI (h2 (1 : Int32) (by decide) (by decide)), own_ltI (h3 (2 : Int32) (by decide) (by decide))⟩))⟩
    · exact Or.inr ⟨_, rfl, Or.inr (Or.inr (Or.inr (Or.inl ⟨rfl, own_ltI (h2 (2 : Int32) (by decide) (by decide)), own_ltI (h3 (3 : Int32) (by decide) (by decide))⟩)))⟩
    · exact Or.inr ⟨_, rfl, Or.inr (Or.inr (Or.inr (Or.inr (⟨rfl, own_ltI (h2 (3 : Int32) (by decide) (by decide))⟩))))⟩
abbrev C19 := jdk_65_method_59_code
theorem dc19_8 : decode C19 8 = .ok (.iload 4, 2) := by decide +kernel
theorem dc19_10 : decode C19 10 = .ok (.iload 5, 2) := by decide +kernel
theorem dc19_12 : decode C19 12 = .ok (.if_icmp .gt 54, 3) := by decide +kernel
theorem dc19_15 : decode C19 15 = .ok (.iload 4, 2) := by decide +kernel
theorem dc19_17 : decode C19 17 = .ok (.iload 5, 2) := by decide +kernel
theorem dc19_19 : decode C19 19 = .ok (.iadd, 1) := by decide +kernel
theorem dc19_20 : decode C19 20 = .ok (.iconst 1, 1) := by decide +kernel
theorem dc19_21 : decode C19 21 = .ok (.iushr, 1) := by decide +kernel
theorem dc19_22 : decode C19 22 = .ok (.istore 6, 2) := by decide +kernel
theorem os_0 {z0 : Value} {s1 : Slot} {z2 : Value} {z3 : Value} {z4 : Value} {z5 : Value} {s6 : Slot} {s7 : Slot} {v : Int32} (h : One s6) : storeLocals #[.val z0, s1, .val z2, .val z3, .val z4, .val z5, s6, s7] 6 (.int v) = some #[.val z0, s1, .val z2, .val z3, .val z4, .val z5, .val (.int v), s7] := by
  rcases h with rfl | ⟨w, rfl, hw⟩
  · rfl
  · cases w <;> first | rfl | (simp [Value.category] at hw)
theorem dc19_24 : decode C19 24 = .ok (.aload_n 0, 1) := by decide +kernel
theorem dc19_25 : decode C19 25 = .ok (.iload 6, 2) := by decide +kernel
theorem dc19_27 : decode C19 27 = .ok (.iaload, 1) := by decide +kernel
theorem dc19_28 : decode C19 28 = .ok (.istore 7, 2) := by decide +kernel
theorem os_1 {z0 : Value} {s1 : Slot} {z2 : Value} {z3 : Value} {z4 : Value} {z5 : Value} {z6 : Value} {s7 : Slot} {v : Int32} (h : One s7) : storeLocals #[.val z0, s1, .val z2, .val z3, .val z4, .val z5, .val z6, s7] 7 (.int v) = some #[.val z0, s1, .val z2, .val z3, .val z4, .val z5, .val z6, .val (.int v)] := by
  rcases h with rfl | ⟨w, rfl, hw⟩
  · rfl
  · cases w <;> first | rfl | (simp [Value.category] at hw)
theorem dc19_30 : decode C19 30 = .ok (.iload 7, 2) := by decide +kernel
theorem dc19_32 : decode C19 32 = .ok (.iload_n 3, 1) := by decide +kernel
theorem dc19_33 : decode C19 33 = .ok (.if_icmp .ge 12, 3) := by decide +kernel
theorem dc19_36 : decode C19 36 = .ok (.iload 6, 2) := by decide +kernel
theorem dc19_38 : decode C19 38 = .ok (.iconst 1, 1) := by decide +kernel
theorem dc19_39 : decode C19 39 = .ok (.iadd, 1) := by decide +kernel
theorem dc19_40 : decode C19 40 = .ok (.istore 4, 2) := by decide +kernel
theorem dc19_42 : decode C19 42 = .ok (.goto 21, 3) := by decide +kernel
theorem dc19_63 : decode C19 63 = .ok (.goto (-55), 3) := by decide +kernel
theorem dc19_45 : decode C19 45 = .ok (.iload 7, 2) := by decide +kernel
theorem dc19_47 : decode C19 47 = .ok (.iload_n 3, 1) := by decide +kernel
theorem dc19_48 : decode C19 48 = .ok (.if_icmp .le 12, 3) := by decide +kernel
theorem dc19_51 : decode C19 51 = .ok (.iload 6, 2) := by decide +kernel
theorem dc19_53 : decode C19 53 = .ok (.iconst 1, 1) := by decide +kernel
theorem dc19_54 : decode C19 54 = .ok (.isub, 1) := by decide +kernel
theorem dc19_55 : decode C19 55 = .ok (.istore 5, 2) := by decide +kernel
theorem dc19_57 : decode C19 57 = .ok (.goto 6, 3) := by decide +kernel
theorem dc19_60 : decode C19 60 = .ok (.iload 6, 2) := by decide +kernel
theorem bsT {p : Program} {l : Launch} {e : Env} {R : Room} {s : State} {m : MethodId} {args : Array Value} {below : List Frame} {meth : Method} {c : Code} {Z : State} {a0 : Array Value} {n0 : Nat} {cells slots : Nat} {st0 : State} (hx : p.tables.exec = Jvm.exec) (hZ : Z.Warmed39 s.vm) (hw : ∀ d ∈ tables_1, d.before a0 Z = true) (hby : c.code = jdk_65_method_59_code) (hml : c.maxLocals = 8) (hown : s.vm.findClass "java/util/Arrays" = some m.cls) {h0 : Heap} (s1 w6 w7 : Slot) (b1 : Addr) (n1 u1 x1 x2 : Int32) (N1 : Nat) (a : Int32 → Int32) (G0 : Rc p l e R s m args below meth c n0 Z cells slots st0 (mkF m 8 #[vR b1, s1, vI n1, vI u1, vI x1, vI x2, w6, w7] []) h0) (I1 : Iv Z h0 b1 N1 a) (hN : n1.toInt ≤ N1) (hn : n1.toInt ≤ 100) (hm : own_Mo n1 a) (hw6 : One w6) (hw7 : One w7) (hlo : 0 ≤ x1.toInt) (hhi : x2.toInt < n1.toInt) (hle : x1.toInt ≤ x2.toInt) (hA : own_Lo a u1 x1) (hB : own_Hi n1 a u1 x2) :
    (∃ (x' x'' y : Int32) (w' : Slot), Rc p l e R s m args below meth c n0 Z cells slots st0 (mkF m 62 #[vR b1, s1, vI n1, vI u1, vI x', vI x'', vI y, w'] [(.int y)]) h0 ∧ 0 ≤ y.toInt ∧ y.toInt < n1.toInt ∧ a y = u1) ∨ (∃ (x' x'' : Int32) (w' w'' : Slot), One w' ∧ One w'' ∧ Rc p l e R s m args below meth c n0 Z cells slots st0 (mkF m 8 #[vR b1, s1, vI n1, vI u1, vI x', vI x'', w', w''] []) h0 ∧ 0 ≤ x'.toInt ∧ x''.toInt < n1.toInt ∧ x'.toInt ≤ x''.toInt + 1 ∧ x''.toInt - x'.toInt < x2.toInt - x1.toInt ∧ own_Lo a u1 x' ∧ own_Hi n1 a u1 x'') := by
  obtain ⟨T0, L0, X0, e0, N0, O0, pre0⟩ := G0
  obtain ⟨y1, hy⟩ : ∃ y, (((x1 + x2).toUInt32 >>> ((1 : Int32) &&& 31).toUInt32).toInt32) = y := ⟨_, rfl⟩
  have sm := own_ad (x := x1) (y := x2) (by omega) (by omega)
  have dy := own_us hy (kk := 1) (by decide) (by decide) (by omega)
  have e1 : (1 : Int32).toInt = 1 := rfl
  obtain ⟨cl101, Ar101, S101, H101⟩ := id I1
  have hin101 : ¬ (y1 < 0 ∨ cl101.slots.size ≤ (y1).toNatClampNeg) := by rw [S101]; exact (own_inN (by omega) (by omega))
  have hat101 : cl101.slots[(y1).toNatClampNeg]? = some (.int (a y1)) := H101 _ hin101
  have pre102 : ∀ t, Steps p.tables e below (T0.setTop (mkF m 33 #[vR b1, s1, vI n1, vI u1, vI x1, vI x2, vI y1, vI (a y1)] [(.int u1), (.int (a y1))])) t → Steps p.tables e below (st0) t := fun t kt => pre0 t (by
      show Steps p.tables e below (T0.setTop (mkF m 8 #[vR b1, s1, vI n1, vI u1, vI x1, vI x2, w6, w7] [])) _
      refine XS.iload X0.here hx rfl (hb hby dc19_8) rfl ?_
      refine XS.iload X0.here hx rfl (hb hby dc19_10) rfl ?_
      refine XS.icmpNo X0.here hx rfl (hb hby dc19_12) rfl (flt (own_nltI hle)).2.2.1 ?_
      refine XS.iload X0.here hx rfl (hb hby dc19_15) rfl ?_
      refine XS.iload X0.here hx rfl (hb hby dc19_17) rfl ?_
      refine XS.iadd X0.here hx rfl (hb hby dc19_19) rfl ?_
      refine XS.iconst X0.here hx rfl (hb hby dc19_20) ?_
      refine XS.iushr X0.here hx rfl (hb hby dc19_21) rfl ?_
      show Steps p.tables e below (T0.setTop (mkF m 22 #[vR b1, s1, vI n1, vI u1, vI x1, vI x2, w6, w7] [(.int (((x1 + x2).toUInt32 >>> ((1 : Int32) &&& 31).toUInt32).toInt32))])) _
      rw [hy]
      refine XS.istore X0.here hx rfl (hb hby dc19_22) rfl (l' := #[vR b1, s1, vI n1, vI u1, vI x1, vI x2, vI y1, w7]) (os_0 hw6) ?_
      refine XS.aloadN X0.here hx rfl (hb hby dc19_24) rfl rfl ?_
      show Steps p.tables e below (T0.setTop (mkF m 25 #[vR b1, s1, vI n1, vI u1, vI x1, vI x2, vI y1, w7] [(.ref b1)])) _
      refine XS.iload X0.here hx rfl (hb hby dc19_25) rfl ?_
      refine X0.iaload hx (j := y1) (v := (.int (a y1))) (by rw [e0]; exact Ar101.1) (State.isArrayOf_alike hZ.alike Ar101.2.1) Ar101.2.2 hin101 hat101 (g := (mkF m 27 #[vR b1, s1, vI n1, vI u1, vI x1, vI x2, vI y1, w7] [(.int y1), (.ref b1)])) rfl rfl (hb hby dc19_27) _ ?_
      refine XS.istore X0.here hx rfl (hb hby dc19_28) rfl (l' := #[vR b1, s1, vI n1, vI u1, vI x1, vI x2, vI y1, vI (a y1)]) (os_1 hw7) ?_
      refine XS.iload X0.here hx rfl (hb hby dc19_30) rfl ?_
      refine XS.iloadN X0.here hx rfl (hb hby dc19_32) rfl ?_
      exact kt)
  by_cases hc103 : (a y1) < u1
  · skip
    have pre104 : ∀ t, Steps p.tables e below (T0.setTop (mkF m 8 #[vR b1, s1, vI n1, vI u1, vI (y1 + (1 : Int32)), vI x2, vI y1, vI (a y1)] [])) t → Steps p.tables e below (st0) t := fun t kt => pre102 t (by
        show Steps p.tables e below (T0.setTop (mkF m 33 #[vR b1, s1, vI n1, vI u1, vI x1, vI x2, vI y1, vI (a y1)] [(.int u1), (.int (a y1))])) _
        refine XS.icmpNo X0.here hx rfl (hb hby dc19_33) rfl (tlt hc103).2.1 ?_
        refine XS.iload X0.here hx rfl (hb hby dc19_36) rfl ?_
        refine XS.iconst X0.here hx rfl (hb hby dc19_38) ?_
        refine XS.iadd X0.here hx rfl (hb hby dc19_39) rfl ?_
        refine XS.istore X0.here hx rfl (hb hby dc19_40) rfl (l' := #[vR b1, s1, vI n1, vI u1, vI (y1 + (1 : Int32)), vI x2, vI y1, vI (a y1)]) rfl ?_
        refine XS.goto X0.here hx rfl (pc0 := 42) (pc' := 63) rfl (hb hby dc19_42) (by decide) (by decide) ?_
        show Steps p.tables e below (T0.setTop (mkF m 63 #[vR b1, s1, vI n1, vI u1, vI (y1 + (1 : Int32)), vI x2, vI y1, vI (a y1)] [])) _
        refine XS.goto X0.here hx rfl (pc0 := 63) (pc' := 8) rfl (hb hby dc19_63) (by decide) (by decide) ?_
        exact kt)
    have e2 := own_ad (x := y1) (y := 1) (by omega) (by omega)
    exact Or.inr ⟨_, _, _, _, One.val rfl, One.val rfl, ⟨_, _, X0, e0, N0, O0, pre104⟩, by omega, by omega, by omega, by omega, fun i i0 i1 => by
      have q := own_toI hc103
      rcases Int.lt_or_le i.toInt y1.toInt with z | z
      · have := hm i y1 i0 z (by omega); omega
      · rw [Int32.toInt_inj.mp (show i.toInt = y1.toInt by omega)]; exact q, hB⟩
  · skip
    have pre105 : ∀ t, Steps p.tables e below (T0.setTop (mkF m 48 #[vR b1, s1, vI n1, vI u1, vI x1, vI x2, vI y1, vI (a y1)] [(.int u1), (.int (a y1))])) t → Steps p.tables e below (st0) t := fun t kt => pre102 t (by
        show Steps p.tables e below (T0.setTop (mkF m 33 #[vR b1, s1, vI n1, vI u1, vI x1, vI x2, vI y1, vI (a y1)] [(.int u1), (.int (a y1))])) _
        refine XS.icmpYes X0.here hx rfl (pc0 := 33) (pc' := 45) rfl (hb hby dc19_33) rfl (flt hc103).2.1 (by decide) (by decide) ?_
        refine XS.iload X0.here hx rfl (hb hby dc19_45) rfl ?_
        refine XS.iloadN X0.here hx rfl (hb hby dc19_47) rfl ?_
        exact kt)
    by_cases hc106 : u1 < (a y1)
    · skip
      have pre107 : ∀ t, Steps p.tables e below (T0.setTop (mkF m 8 #[vR b1, s1, vI n1, vI u1, vI x1, vI (y1 - (1 : Int32)), vI y1, vI (a y1)] [])) t → Steps p.tables e below (st0) t := fun t kt => pre105 t (by
          show Steps p.tables e below (T0.setTop (mkF m 48 #[vR b1, s1, vI n1, vI u1, vI x1, vI x2, vI y1, vI (a y1)] [(.int u1), (.int (a y1))])) _
          refine XS.icmpNo X0.here hx rfl (hb hby dc19_48) rfl (tlt hc106).2.2.2 ?_
          refine XS.iload X0.here hx rfl (hb hby dc19_51) rfl ?_
          refine XS.iconst X0.here hx rfl (hb hby dc19_53) ?_
          refine XS.isub X0.here hx rfl (hb hby dc19_54) rfl ?_
          refine XS.istore X0.here hx rfl (hb hby dc19_55) rfl (l' := #[vR b1, s1, vI n1, vI u1, vI x1, vI (y1 - (1 : Int32)), vI y1, vI (a y1)]) rfl ?_
          refine XS.goto X0.here hx rfl (pc0 := 57) (pc' := 63) rfl (hb hby dc19_57) (by decide) (by decide) ?_
          refine XS.goto X0.here hx rfl (pc0 := 63) (pc' := 8) rfl (hb hby dc19_63) (by decide) (by decide) ?_
          exact kt)
      have e2 := own_sb1 (x := y1) (by omega)
      exact Or.inr ⟨_, _, _, _, One.val rfl, One.val rfl, ⟨_, _, X0, e0, N0, O0, pre107⟩, by omega, by omega, by omega, by omega, hA, fun i i0 i1 => by
        have q := own_toI hc106
        rcases Int.lt_or_le y1.toInt i.toInt with z | z
        · have := hm y1 i (by omega) z i1; omega
        · rw [Int32.toInt_inj.mp (show i.toInt = y1.toInt by omega)]; exact q⟩
    · skip
      have pre108 : ∀ t, Steps p.tables e below (T0.setTop (mkF m 62 #[vR b1, s1, vI n1, vI u1, vI x1, vI x2, vI y1, vI (a y1)] [(.int y1)])) t → Steps p.tables e below (st0) t := fun t kt => pre105 t (by
          show Steps p.tables e below (T0.setTop (mkF m 48 #[vR b1, s1, vI n1, vI u1, vI x1, vI x2, vI y1, vI (a y1)] [(.int u1), (.int (a y1))])) _
          refine XS.icmpYes X0.here hx rfl (pc0 := 48) (pc' := 60) rfl (hb hby dc19_48) rfl (flt hc106).2.2.2 (by decide) (by decide) ?_
          refine XS.iload X0.here hx rfl (hb hby dc19_60) rfl ?_
          exact kt)
      exact Or.inl ⟨_, _, _, _, ⟨_, _, X0, e0, N0, O0, pre108⟩, by omega, by omega, own_nn hc103 hc106⟩
theorem bsL {p : Program} {l : Launch} {e : Env} {R : Room} {s : State} {m : MethodId} {args : Array Value} {below : List Frame} {meth : Method} {c : Code} {Z : State} {a0 : Array Value} {n0 : Nat} {cells slots : Nat} {st0 : State} (hx : p.tables.exec = Jvm.exec) (hZ : Z.Warmed39 s.vm) (hw : ∀ d ∈ tables_1, d.before a0 Z = true) (hby : c.code = jdk_65_method_59_code) (hml : c.maxLocals = 8) (hown : s.vm.findClass "java/util/Arrays" = some m.cls) {h0 : Heap} (s1 : Slot) (b1 : Addr) (n1 u1 : Int32) (N1 : Nat) (a : Int32 → Int32) (I1 : Iv Z h0 b1 N1 a) (hN : n1.toInt ≤ N1) (hn : n1.toInt ≤ 100) (hm : own_Mo n1 a) : ∀ (kk : Nat) (x1 x2 : Int32) (w6 w7 : Slot), x2.toInt - x1.toInt + 1 ≤ kk → One w6 → One w7 → 0 ≤ x1.toInt → x2.toInt < n1.toInt → x1.toInt ≤ x2.toInt + 1 → own_Lo a u1 x1 → own_Hi n1 a u1 x2 → Rc p l e R s m args below meth c n0 Z cells slots st0 (mkF m 8 #[vR b1, s1, vI n1, vI u1, vI x1, vI x2, w6, w7] []) h0 →
    (∃ (x' x'' y : Int32) (w' : Slot), Rc p l e R s m args below meth c n0 Z cells slots st0 (mkF m 62 #[vR b1, s1, vI n1, vI u1, vI x', vI x'', vI y, w'] [(.int y)]) h0 ∧ 0 ≤ y.toInt ∧ y.toInt < n1.toInt ∧ a y = u1) ∨ (∃ (x' x'' : Int32) (w' w'' : Slot), One w' ∧ One w'' ∧ Rc p l e R s m args below meth c n0 Z cells slots st0 (mkF m 8 #[vR b1, s1, vI n1, vI u1, vI x', vI x'', w', w''] []) h0 ∧ 0 ≤ x'.toInt ∧ x''.toInt < n1.toInt ∧ x'.toInt ≤ x''.toInt + 1 ∧ x''.toInt < x'.toInt ∧ own_Lo a u1 x' ∧ own_Hi n1 a u1 x'')
  | 0, x1, x2, w6, w7, hk, o6, o7, h1, h2, h3, hA, hB, G0 => Or.inr ⟨x1, x2, w6, w7, o6, o7, G0, h1, h2, h3, by omega, hA, hB⟩
  | kk + 1, x1, x2, w6, w7, hk, o6, o7, h1, h2, h3, hA, hB, G0 => by
    rcases Int.lt_or_le x2.toInt x1.toInt with z | z
    · exact Or.inr ⟨x1, x2, w6, w7, o6, o7, G0, h1, h2, h3, z, hA, hB⟩
    · rcases bsT hx hZ hw hby hml hown s1 w6 w7 b1 n1 u1 x1 x2 N1 a G0 I1 hN hn hm o6 o7 h1 h2 z hA hB with q | ⟨x3, x4, w8, w9, o8, o9, G1, q1, q2, q3, q4, q5, q6⟩
      · exact Or.inl q
      · exact bsL hx hZ hw hby hml hown s1 b1 n1 u1 N1 a I1 hN hn hm kk x3 x4 w8 w9 (by omega) o8 o9 q1 q2 q3 q5 q6 G1
def Q_bs (n1 : Int32) (a : Int32 → Int32) (u1 : Int32) (h0 : Heap) (n0 : Nat) (v : Option Value) (h : Heap) (L : List Loc) : Prop := ∃ r1 : Int32, v = some (.int r1) ∧ Fr n0 L ∧ h = h0 ∧ own_Rf n1 a u1 r1
abbrev y_19 : MethodName := (⟨"java/util/Arrays", "binarySearch0", "([IIII)I"⟩ : MethodName)
theorem ef_9 (m : MethodId) (x0 : Addr) (x1 : Int32) (x2 : Int32) (x3 : Int32) : entryFrame m #[(.ref x0), (.int x1), (.int x2), (.int x3)] 8 = mkF m 0 #[.val (.ref x0), .val (.int x1), .val (.int x2), .val (.int x3), .unset, .unset, .unset, .unset] [] := by first | (simp [entryFrame, mkF, argsToLocals, Value.category]; done) | rfl
theorem dc19_0 : decode C19 0 = .ok (.iload_n 1, 1) := by decide +kernel
theorem dc19_1 : decode C19 1 = .ok (.istore 4, 2) := by decide +kernel
theorem dc19_3 : decode C19 3 = .ok (.iload_n 2, 1) := by decide +kernel
theorem dc19_4 : decode C19 4 = .ok (.iconst 1, 1) := by decide +kernel
theorem dc19_5 : decode C19 5 = .ok (.isub, 1) := by decide +kernel
theorem dc19_6 : decode C19 6 = .ok (.istore 5, 2) := by decide +kernel
theorem dc19_62 : decode C19 62 = .ok (.ireturn, 1) := by decide +kernel
theorem dc19_66 : decode C19 66 = .ok (.iload 4, 2) := by decide +kernel
theorem dc19_68 : decode C19 68 = .ok (.iconst 1, 1) := by decide +kernel
theorem dc19_69 : decode C19 69 = .ok (.iadd, 1) := by decide +kernel
theorem dc19_70 : decode C19 70 = .ok (.ineg, 1) := by decide +kernel
theorem dc19_71 : decode C19 71 = .ok (.ireturn, 1) := by decide +kernel
theorem rmB0 (l : Launch) (Z : State) (a0 : Array Value) (hw : HwT a0 Z) (ws : List Jvm.Cond) (b1 : Addr) (n1 u1 : Int32) (N1 : Nat) (a : Int32 → Int32) (h0 : Heap) (n0 : Nat) (O0 : Old Z n0 h0) (I1 : Iv Z h0 b1 N1 a) (hN : n1.toInt ≤ N1) (hn : n1.toInt ≤ 100) (hm : own_Mo n1 a) (hz : ¬ N1.toInt32 < n1) (h0n : ¬ n1 < (0 : Int32)) :
    Mt l Z y_19 jdk_65_method_59_code 8 (some .int) ws ({ frames := 0, cells := 0, slots := 0, locals := 0 } : Room) #[(.ref b1), (.int (0 : Int32)), (.int n1), (.int u1)] h0 (Q_bs n1 a u1 h0 n0) := by
  refine MetFree.of_bodySF (plainFor_of_name pn_4) hisR ?_
  intro p e s m args below meth c s₁ Bd hml0 hP hK
  obtain ⟨rfl, hZ, hh⟩ := hP
  have hx := Bd.exec
  have hby := Bd.bytes
  have hml : c.maxLocals = 8 := hml0
  have hown : s.vm.findClass "java/util/Arrays" = some m.cls := findClass_of_methodNamed Bd.named
  have hnm := (name_of_methodNamed Bd.named Bd.method).1
  have X0 : Stand p l e ({ frames := 0, cells := 0, slots := 0, locals := 0 } : Room) s m #[(.ref b1), (.int (0 : Int32)), (.int n1), (.int u1)] below meth c s₁ [] 0 0 := Stand.of_body Bd
  have e0 : s₁.heap = h0 := by rw [← hh, Bd.state]; rfl
  have N0 := Fr.nil n0
  have pre0 := fun t (k : Steps p.tables e below (s₁.setTop _) t) => castTop (ef_9 m b1 (0 : Int32) n1 u1) k
  have pre101 : ∀ t, Steps p.tables e below (s₁.setTop (mkF m 8 #[vR b1, vI (0 : Int32), vI n1, vI u1, vI (0 : Int32), vI (n1 - (1 : Int32)), .unset, .unset] [])) t → Steps p.tables e below (s₁.setTop (entryFrame m #[(.ref b1), (.int (0 : Int32)), (.int n1), (.int u1)] 8)) t := fun t kt => pre0 t (by
      show Steps p.tables e below (s₁.setTop (mkF m 0 #[vR b1, vI (0 : Int32), vI n1, vI u1, .unset, .unset, .unset, .unset] [])) _
      refine XS.iloadN X0.here hx rfl (hb hby dc19_0) rfl ?_
      refine XS.istore X0.here hx rfl (hb hby dc19_1) rfl (l' := #[vR b1, vI (0 : Int32), vI n1, vI u1, vI (0 : Int32), .unset, .unset, .unset]) rfl ?_
      refine XS.iloadN X0.here hx rfl (hb hby dc19_3) rfl ?_
      refine XS.iconst X0.here hx rfl (hb hby dc19_4) ?_
      refine XS.isub X0.here hx rfl (hb hby dc19_5) rfl ?_
      refine XS.istore X0.here hx rfl (hb hby dc19_6) rfl (l' := #[vR b1, vI (0 : Int32), vI n1, vI u1, vI (0 : Int32), vI (n1 - (1 : Int32)), .unset, .unset]) rfl ?_
      exact kt)
  have en1 := own_ntoI h0n
  have ez : (0 : Int32).toInt = 0 := rfl
  have em := own_sb1 (x := n1) (by omega)
  rcases bsL hx hZ hw hby hml hown (.val (.int (0 : Int32))) b1 n1 u1 N1 a I1 hN hn hm 200 (0 : Int32) (n1 - (1 : Int32)) .unset .unset (by omega) One.u One.u (by omega) (by omega) (by omega) (fun i i0 i1 => by omega) (fun i i0 i1 => by omega) ⟨_, _, X0, e0, N0, O0, pre101⟩ with ⟨x3, x4, y3, w3, Gf, f1, f2, f3⟩ | ⟨x3, x4, w3, w4, -, -, Gf, f1, f2, f3, f4, f5, f6⟩
  · skip
    obtain ⟨T102, L102, X102, e102, N102, O102, pre102⟩ := Gf
    obtain ⟨fs, hr, hrun, hended, hW, hsame⟩ := X102.leave (v := some (.int y3)) (fun h => by rw [Bd.returns] at h; cases h)
    refine ⟨_, _, pre102 _ ?_, hrun, hended, _, _, rfl, ?_, ⟨_, rfl⟩, hW, hsame.mono (by decide) (by decide)⟩
    · skip
      show Steps p.tables e below (T102.setTop (mkF m 62 #[vR b1, vI (0 : Int32), vI n1, vI u1, vI x3, vI x4, vI y3, w3] [(.int y3)])) _
      exact retI X102 hx Bd.returns (hb hby dc19_62) hr
    · show Q_bs n1 a u1 h0 n0 _ T102.heap _
      rw [e102]
      exact ⟨_, rfl, N102, rfl, Or.inl ⟨_, rfl, f1, f2, f3⟩⟩
  · skip
    obtain ⟨T103, L103, X103, e103, N103, O103, pre103⟩ := Gf
    obtain ⟨fs, hr, hrun, hended, hW, hsame⟩ := X103.leave (v := some (.int (-(x3 + (1 : Int32))))) (fun h => by rw [Bd.returns] at h; cases h)
    refine ⟨_, _, pre103 _ ?_, hrun, hended, _, _, rfl, ?_, ⟨_, rfl⟩, hW, hsame.mono (by decide) (by decide)⟩
    · skip
      show Steps p.tables e below (T103.setTop (mkF m 8 #[vR b1, vI (0 : Int32), vI n1, vI u1, vI x3, vI x4, w3, w4] [])) _
      refine XS.iload X103.here hx rfl (hb hby dc19_8) rfl ?_
      show Steps p.tables e below (T103.setTop (mkF m 10 #[vR b1, vI (0 : Int32), vI n1, vI u1, vI x3, vI x4, w3, w4] [(.int x3)])) _
      refine XS.iload X103.here hx rfl (hb hby dc19_10) rfl ?_
      refine XS.icmpYes X103.here hx rfl (pc0 := 12) (pc' := 66) rfl (hb hby dc19_12) rfl (tlt (own_ltI f4)).2.2.1 (by decide) (by decide) ?_
      refine XS.iload X103.here hx rfl (hb hby dc19_66) rfl ?_
      refine XS.iconst X103.here hx rfl (hb hby dc19_68) ?_
      refine XS.iadd X103.here hx rfl (hb hby dc19_69) rfl ?_
      refine XS.ineg X103.here hx rfl (hb hby dc19_70) rfl ?_
      exact retI X103 hx Bd.returns (hb hby dc19_71) hr
    · show Q_bs n1 a u1 h0 n0 _ T103.heap _
      rw [e103]
      exact ⟨_, rfl, N103, rfl, Or.inr ⟨_, rfl, f1, by omega, f5, fun i i0 i1 => f6 i (by omega) i1⟩⟩
abbrev y_20 : MethodName := (⟨"java/util/Arrays", "binarySearch", "([IIII)I"⟩ : MethodName)
theorem ef_10 (m : MethodId) (x0 : Addr) (x1 : Int32) (x2 : Int32) (x3 : Int32) : entryFrame m #[(.ref x0), (.int x1), (.int x2), (.int x3)] 4 = mkF m 0 #[.val (.ref x0), .val (.int x1), .val (.int x2), .val (.int x3)] [] := by first | (simp [entryFrame, mkF, argsToLocals, Value.category]; done) | rfl
abbrev C20 := jdk_65_method_58_code
theorem dc20_0 : decode C20 0 = .ok (.aload_n 0, 1) := by decide +kernel
theorem dc20_1 : decode C20 1 = .ok (.arraylength, 1) := by decide +kernel
theorem dc20_2 : decode C20 2 = .ok (.iload_n 1, 1) := by decide +kernel
theorem dc20_3 : decode C20 3 = .ok (.iload_n 2, 1) := by decide +kernel
theorem dc20_4 : decode C20 4 = .ok (.invokestatic 13, 3) := by decide +kernel
theorem pd_6 : parseMethodDescriptor "(III)V" = some ⟨[.int, .int, .int], none⟩ := by decide +kernel
theorem dc20_7 : decode C20 7 = .ok (.aload_n 0, 1) := by decide +kernel
theorem dc20_8 : decode C20 8 = .ok (.iload_n 1, 1) := by decide +kernel
theorem dc20_9 : decode C20 9 = .ok (.iload_n 2, 1) := by decide +kernel
theorem dc20_10 : decode C20 10 = .ok (.iload_n 3, 1) := by decide +kernel
theorem dc20_11 : decode C20 11 = .ok (.invokestatic 209, 3) := by decide +kernel
theorem pd_7 : parseMethodDescriptor "([IIII)I" = some ⟨[(.array .int), .int, .int, .int], some .int⟩ := by decide +kernel
theorem dc20_14 : decode C20 14 = .ok (.ireturn, 1) := by decide +kernel
theorem rmB (l : Launch) (Z : State) (a0 : Array Value) (hw : HwT a0 Z) (ws : List Jvm.Cond) (b1 : Addr) (n1 u1 : Int32) (N1 : Nat) (a : Int32 → Int32) (h0 : Heap) (n0 : Nat) (O0 : Old Z n0 h0) (I1 : Iv Z h0 b1 N1 a) (hN : n1.toInt ≤ N1) (hn : n1.toInt ≤ 100) (hm : own_Mo n1 a) (hz : ¬ N1.toInt32 < n1) (h0n : ¬ n1 < (0 : Int32)) :
    Mt l Z y_20 jdk_65_method_58_code 4 (some .int) ws ({ frames := 1, cells := 0, slots := 0, locals := 19 } : Room) #[(.ref b1), (.int (0 : Int32)), (.int n1), (.int u1)] h0 (Q_bs n1 a u1 h0 n0) := by
  refine MetFree.of_bodySF (plainFor_of_name pn_4) hisR ?_
  intro p e s m args below meth c s₁ Bd hml0 hP hK
  obtain ⟨rfl, hZ, hh⟩ := hP
  have hx := Bd.exec
  have hby := Bd.bytes
  have hml : c.maxLocals = 4 := hml0
  have hown : s.vm.findClass "java/util/Arrays" = some m.cls := findClass_of_methodNamed Bd.named
  have hnm := (name_of_methodNamed Bd.named Bd.method).1
  have X0 : Stand p l e ({ frames := 1, cells := 0, slots := 0, locals := 19 } : Room) s m #[(.ref b1), (.int (0 : Int32)), (.int n1), (.int u1)] below meth c s₁ [] 0 0 := Stand.of_body Bd
  have e0 : s₁.heap = h0 := by rw [← hh, Bd.state]; rfl
  have N0 := Fr.nil n0
  have pre0 := fun t (k : Steps p.tables e below (s₁.setTop _) t) => castTop (ef_10 m b1 (0 : Int32) n1 u1) k
  obtain ⟨cl101, Ar101, S101, -⟩ := id I1
  obtain ⟨_, _, ⟨T102, L102, k102, n102⟩, -, X102, ⟨Lc102, hQ102, l102, y102, z102⟩, st102⟩ := Jvm.LawKit.callS X0 hx (y := y_18) hown (mvT hZ (wq hw 39 rfl)) (mvT hZ (wq hw 40 rfl)) (mvT hZ (wq hw 37 rfl)) (mvT hZ (wq hw 41 rfl)) (by decide) (backOf (W := 0) (rmRc l Z a0 hw [] (N1.toInt32) (0 : Int32) n1 h0 n0 O0 h0n (by decide) hz) hZ (wq hw 41 rfl) (wq hw 37 rfl) (by decide) (by decide)) (g := (mkF m 4 #[vR b1, vI (0 : Int32), vI n1, vI u1] [(.int n1), (.int (0 : Int32)), (.int (N1.toInt32))])) rfl (by rw [hml]; rfl) (argsL := [(.int (N1.toInt32)), (.int (0 : Int32)), (.int n1)]) (rest := []) (lenOf pd_6 rfl) rfl (by show 2 * 0 + _ ≤ _; exact Nat.le_of_eq rfl) (hb hby dc20_4) (fun _ _ => ⟨rfl, e0, (by decide : 0 + 0 ≤ _), (by decide : 0 + 0 ≤ _)⟩)
  dsimp only [Pt.U, Pt.locs, Pt.cells, Pt.slots] at X102 l102 y102 z102 st102 hQ102
  subst l102 y102 z102
  obtain ⟨rfl, N102q, hh102⟩ := hQ102
  have N102 := Fr.app N0 N102q
  obtain ⟨_, _, ⟨T103, L103, k103, n103⟩, -, X103, ⟨Lc103, hQ103, l103, y103, z103⟩, st103⟩ := Jvm.LawKit.callS X102 hx (y := y_19) hown (mvT hZ (wq hw 42 rfl)) (mvT hZ (wq hw 43 rfl)) (mvT hZ (wq hw 37 rfl)) (mvT hZ (wq hw 44 rfl)) (by decide) (backOf (W := 0) (rmB0 l Z a0 hw [] b1 n1 u1 N1 a h0 n0 O0 I1 hN hn hm hz h0n) hZ (wq hw 44 rfl) (wq hw 37 rfl) (by decide) (by decide)) (g := (mkF m 11 #[vR b1, vI (0 : Int32), vI n1, vI u1] [(.int u1), (.int n1), (.int (0 : Int32)), (.ref b1)])) rfl (by rw [hml]; rfl) (argsL := [(.ref b1), (.int (0 : Int32)), (.int n1), (.int u1)]) (rest := []) (lenOf pd_7 rfl) rfl (by show 2 * 0 + _ ≤ _; exact Nat.le_of_eq rfl) (hb hby dc20_11) (fun _ _ => ⟨rfl, hh102, (by decide : 0 + 0 ≤ _), (by decide : 0 + 0 ≤ _)⟩)
  dsimp only [Pt.U, Pt.locs, Pt.cells, Pt.slots] at X103 l103 y103 z103 st103 hQ103
  subst l103 y103 z103
  obtain ⟨r103, rfl, N103q, hh103, R103⟩ := hQ103
  have N103 := Fr.app N102 N103q
  obtain ⟨fs, hr, hrun, hended, hW, hsame⟩ := X103.leave (v := some (.int r103)) (fun h => by rw [Bd.returns] at h; cases h)
  refine ⟨_, _, pre0 _ ?_, hrun, hended, _, _, rfl, ?_, ⟨_, rfl⟩, hW, hsame.mono (by decide) (by decide)⟩
  · skip
    show Steps p.tables e below (s₁.setTop (mkF m 0 #[vR b1, vI (0 : Int32), vI n1, vI u1] [])) _
    refine XS.aloadN X0.here hx rfl (hb hby dc20_0) rfl rfl ?_
    refine X0.arraylength hx (by rw [e0]; exact Ar101.1) (State.isArrayOf_alike hZ.alike Ar101.2.1) (g := (mkF m 1 #[vR b1, vI (0 : Int32), vI n1, vI u1] [(.ref b1)])) rfl rfl (hb hby dc20_1) _ ?_
    rw [show cl101.slots.size.toInt32 = (N1.toInt32) from by rw [S101]]
    refine XS.iloadN X0.here hx rfl (hb hby dc20_2) rfl ?_
    refine XS.iloadN X0.here hx rfl (hb hby dc20_3) rfl ?_
    refine st102 _ ?_
    refine XS.aloadN X102.here hx rfl (hb hby dc20_7) rfl rfl ?_
    refine XS.iloadN X102.here hx rfl (hb hby dc20_8) rfl ?_
    refine XS.iloadN X102.here hx rfl (hb hby dc20_9) rfl ?_
    refine XS.iloadN X102.here hx rfl (hb hby dc20_10) rfl ?_
    refine st103 _ ?_
    exact retI X103 hx Bd.returns (hb hby dc20_14) hr
  · show Q_bs n1 a u1 h0 n0 _ T103.heap _
    rw [hh103]
    exact ⟨_, rfl, N103, rfl, R103⟩
abbrev y_21 : MethodName := (⟨"com/example/corral/corral/ownership/Units", "find", "(I)I"⟩ : MethodName)
abbrev C21 := prog_25_method_7_code
theorem dc21_0 : decode C21 0 = .ok (.aload_n 0, 1) := by decide +kernel
theorem dc21_1 : decode C21 1 = .ok (.getfield 9, 3) := by decide +kernel
theorem dc21_4 : decode C21 4 = .ok (.iconst 0, 1) := by decide +kernel
theorem dc21_5 : decode C21 5 = .ok (.aload_n 0, 1) := by decide +kernel
theorem dc21_6 : decode C21 6 = .ok (.getfield 15, 3) := by decide +kernel
theorem dc21_9 : decode C21 9 = .ok (.iload_n 1, 1) := by decide +kernel
theorem dc21_10 : decode C21 10 = .ok (.invokestatic 78, 3) := by decide +kernel
theorem dc21_13 : decode C21 13 = .ok (.ireturn, 1) := by decide +kernel
theorem rmFi (l : Launch) (Z : State) (a0 : Array Value) (hw : HwT a0 Z) (ws : List Jvm.Cond) (a1 : Addr) (b1 : Addr) (n1 u1 : Int32) (N1 : Nat) (a : Int32 → Int32) (h0 : Heap) (n0 : Nat) (O0 : Old Z n0 h0) (Fn : Fld Z h0 a1 sU "numbers" "[I" (.ref b1)) (Fc : Fld Z h0 a1 sU "count" "I" (.int n1)) (I1 : Iv Z h0 b1 N1 a) (hN : n1.toInt ≤ N1) (hn : n1.toInt ≤ 100) (hm : own_Mo n1 a) (hz : ¬ N1.toInt32 < n1) (h0n : ¬ n1 < (0 : Int32)) :
    Mt l Z y_21 prog_25_method_7_code 2 (some .int) ws ({ frames := 2, cells := 0, slots := 0, locals := 34 } : Room) #[(.ref a1), (.int u1)] h0 (Q_bs n1 a u1 h0 n0) := by
  refine MetFree.of_bodySF (plainFor_of_name pn_0) hisR ?_
  intro p e s m args below meth c s₁ Bd hml0 hP hK
  obtain ⟨rfl, hZ, hh⟩ := hP
  have hx := Bd.exec
  have hby := Bd.bytes
  have hml : c.maxLocals = 2 := hml0
  have hown : s.vm.findClass sU = some m.cls := findClass_of_methodNamed Bd.named
  have hnm := (name_of_methodNamed Bd.named Bd.method).1
  have X0 : Stand p l e ({ frames := 2, cells := 0, slots := 0, locals := 34 } : Room) s m #[(.ref a1), (.int u1)] below meth c s₁ [] 0 0 := Stand.of_body Bd
  have e0 : s₁.heap = h0 := by rw [← hh, Bd.state]; rfl
  have N0 := Fr.nil n0
  have pre0 := fun t (k : Steps p.tables e below (s₁.setTop _) t) => castTop (ef_7 m a1 u1) k
  obtain ⟨T101, X101, e101, st101⟩ := gG X0 hx hZ hown (wq hw 10 rfl) e0 Fn (g := (mkF m 1 #[vR a1, vI u1] [(.ref a1)])) rfl rfl (hb hby dc21_1)
  obtain ⟨T102, X102, e102, st102⟩ := gG X101 hx hZ hown (wq hw 18 rfl) e101 Fc (g := (mkF m 6 #[vR a1, vI u1] [(.ref a1), (.int (0 : Int32)), (.ref b1)])) rfl rfl (hb hby dc21_6)
  obtain ⟨_, _, ⟨T103, L103, k103, n103⟩, -, X103, ⟨Lc103, hQ103, l103, y103, z103⟩, st103⟩ := Jvm.LawKit.callS X102 hx (y := y_20) hown (mvT hZ (wq hw 35 rfl)) (mvT hZ (wq hw 36 rfl)) (mvT hZ (wq hw 37 rfl)) (mvT hZ (wq hw 38 rfl)) (by decide) (backOf (W := 0) (rmB l Z a0 hw [] b1 n1 u1 N1 a h0 n0 O0 I1 hN hn hm hz h0n) hZ (wq hw 38 rfl) (wq hw 37 rfl) (by decide) (by decide)) (g := (mkF m 10 #[vR a1, vI u1] [(.int u1), (.int n1), (.int (0 : Int32)), (.ref b1)])) rfl (by rw [hml]; rfl) (argsL := [(.ref b1), (.int (0 : Int32)), (.int n1), (.int u1)]) (rest := []) (lenOf pd_7 rfl) rfl (by show 2 * 0 + _ ≤ _; exact Nat.le_of_eq rfl) (hb hby dc21_10) (fun _ _ => ⟨rfl, e102, (by decide : 0 + 0 ≤ _), (by decide : 0 + 0 ≤ _)⟩)
  dsimp only [Pt.U, Pt.locs, Pt.cells, Pt.slots] at X103 l103 y103 z103 st103 hQ103
  subst l103 y103 z103
  obtain ⟨r103, rfl, N103q, hh103, R103⟩ := hQ103
  have N103 := Fr.app N0 N103q
  obtain ⟨fs, hr, hrun, hended, hW, hsame⟩ := X103.leave (v := some (.int r103)) (fun h => by rw [Bd.returns] at h; cases h)
  refine ⟨_, _, pre0 _ ?_, hrun, hended, _, _, rfl, ?_, ⟨_, rfl⟩, hW, hsame.mono (by decide) (by decide)⟩
  · skip
    show Steps p.tables e below (s₁.setTop (mkF m 0 #[vR a1, vI u1] [])) _
    refine XS.aloadN X0.here hx rfl (hb hby dc21_0) rfl rfl ?_
    refine st101 _ ?_
    refine XS.iconst X101.here hx rfl (hb hby dc21_4) ?_
    show Steps p.tables e below (T101.setTop (mkF m 5 #[vR a1, vI u1] [(.int (0 : Int32)), (.ref b1)])) _
    refine XS.aloadN X101.here hx rfl (hb hby dc21_5) rfl rfl ?_
    refine st102 _ ?_
    refine XS.iloadN X102.here hx rfl (hb hby dc21_9) rfl ?_
    refine st103 _ ?_
    exact retI X103 hx Bd.returns (hb hby dc21_13) hr
  · show Q_bs n1 a u1 h0 n0 _ T103.heap _
    rw [hh103]
    exact ⟨_, rfl, N103, rfl, R103⟩
def Nb (Z : State) (h : Heap) (b1 : Addr) (l1 : List Int32) : Prop := ∃ kb : ClassId, (∃ t0 : Int32, l1 = [] ∧ Arv Z h b1 kb .int (1 : Int32) [(.int t0)] (.int (0 : Int32))) ∨ (∃ t0 t1 : Int32, l1 = [] ∧ Arv Z h b1 kb .int (2 : Int32) [(.int t0), (.int t1)] (.int (0 : Int32))) ∨ (∃ t0 : Int32, l1 = [t0] ∧ Arv Z h b1 kb .int (1 : Int32) [(.int t0)] (.int (0 : Int32))) ∨ (∃ t0 t1 : Int32, l1 = [t0] ∧ Arv Z h b1 kb .int (2 : Int32) [(.int t0), (.int t1)] (.int (0 : Int32))) ∨ (∃ t0 t1 : Int32, l1 = [t0, t1] ∧ Arv Z h b1 kb .int (2 : Int32) [(.int t0), (.int t1)] (.int (0 : Int32))) ∨ (∃ t0 t1 t2 t3 : Int32, l1 = [t0, t1] ∧ Arv Z h b1 kb .int (4 : Int32) [(.int t0), (.int t1), (.int t2), (.int t3)] (.int (0 : Int32))) ∨ (∃ t0 t1 t2 t3 : Int32, l1 = [t0, t1, t2] ∧ Arv Z h b1 kb .int (4 : Int32) [(.int t0), (.int t1), (.int t2), (.int t3)] (.int (0 : Int32))) ∨ (∃ t0 t1 t2 t3 : Int32, l1 = [t0, t1, t2, t3] ∧ Arv Z h b1 kb .int (4 : Int32) [(.int t0), (.int t1), (.int t2), (.int t3)] (.int (0 : Int32)))
def Lev (i1 : Nat) (l1 : List Int32) : Prop := (i1 = 3 ∧ l1.length = 3 ∧ ∀ x ∈ l1, x < (64 : Int32)) ∨ (i1 = 4 ∧ (3 ≤ l1.length ∨ (l1.length = 2 ∧ ∀ x ∈ l1, x < (64 : Int32)))) ∨ (i1 = 5 ∧ 1 ≤ l1.length)
def Us (Z : State) (h : Heap) (n0 : Nat) (a1 : Addr) (i1 : Nat) (l1 : List Int32) (w1 : List Addr) : Prop := Exa Z h a1 sU ∧ n0 ≤ a1 ∧ Fld Z h a1 sU "count" "I" (.int (Int32.ofNat l1.length)) ∧ l1.length ≤ i1 ∧
  ((∃ b1 : Addr, w1 = [a1, b1] ∧ n0 ≤ b1 ∧ a1 ≠ b1 ∧ Fld Z h a1 sU "numbers" "[I" (.ref b1) ∧ Fld Z h a1 sU "bits" "Ljava/util/BitSet;" .null ∧ Nb Z h b1 l1 ∧ Srt l1) ∨
   (∃ (c1 d1 : Addr) (m0 m1 : Int64), w1 = [a1, c1, d1] ∧ n0 ≤ c1 ∧ n0 ≤ d1 ∧ a1 ≠ c1 ∧ a1 ≠ d1 ∧ Fld Z h a1 sU "numbers" "[I" .null ∧ Fld Z h a1 sU "bits" "Ljava/util/BitSet;" (.ref c1) ∧ Bs Z h c1 d1 m0 m1 (i1 = 5) ∧ Mk l1 m0 m1 ∧ l1.Nodup ∧ (∀ x ∈ l1, own_r x) ∧ Lev i1 l1))
def Q_ui (Z : State) (a1 : Addr) (h0 : Heap) (n0 : Nat) (v : Option Value) (h : Heap) (L : List Loc) : Prop := v = none ∧ Fr n0 L ∧ Keep h0 h [a1] ∧ ∃ w1, Us Z h n0 a1 0 [] w1 ∧ (∀ x ∈ w1, x = a1 ∨ h0.size ≤ x)
abbrev y_22 : MethodName := (⟨"com/example/corral/corral/ownership/Units", "<init>", "()V"⟩ : MethodName)
abbrev C22 := prog_25_method_1_code
theorem dc22_0 : decode C22 0 = .ok (.aload_n 0, 1) := by decide +kernel
theorem dc22_1 : decode C22 1 = .ok (.invokespecial 3, 3) := by decide +kernel
theorem dc22_4 : decode C22 4 = .ok (.aload_n 0, 1) := by decide +kernel
theorem dc22_5 : decode C22 5 = .ok (.iconst 1, 1) := by decide +kernel
theorem dc22_6 : decode C22 6 = .ok (.newarray .int, 2) := by decide +kernel
theorem dc22_8 : decode C22 8 = .ok (.putfield 9, 3) := by decide +kernel
theorem dc22_11 : decode C22 11 = .ok (.return_, 1) := by decide +kernel
theorem rmUi (l : Launch) (Z : State) (a0 : Array Value) (hw : HwT a0 Z) (ws : List Jvm.Cond) (a1 : Addr) (h0 : Heap) (n0 : Nat) (O0 : Old Z n0 h0) (Ea : Exa Z h0 a1 sU) (Fn : Fld Z h0 a1 sU "numbers" "[I" .null) (Fb : Fld Z h0 a1 sU "bits" "Ljava/util/BitSet;" .null) (Fc : Fld Z h0 a1 sU "count" "I" (.int (0 : Int32))) (ga : n0 ≤ a1) :
    Mt l Z y_22 prog_25_method_1_code 1 none ws ({ frames := 1, cells := 1, slots := 1, locals := 12 } : Room) #[(.ref a1)] h0 (Q_ui Z a1 h0 n0) := by
  refine MetFree.of_bodySF (plainFor_of_name pn_0) hisR ?_
  intro p e s m args below meth c s₁ Bd hml0 hP hK
  obtain ⟨rfl, hZ, hh⟩ := hP
  have hx := Bd.exec
  have hby := Bd.bytes
  have hml : c.maxLocals = 1 := hml0
  have hown : s.vm.findClass sU = some m.cls := findClass_of_methodNamed Bd.named
  have hnm := (name_of_methodNamed Bd.named Bd.method).1
  have X0 : Stand p l e ({ frames := 1, cells := 1, slots := 1, locals := 12 } : Room) s m #[(.ref a1)] below meth c s₁ [] 0 0 := Stand.of_body Bd
  have e0 : s₁.heap = h0 := by rw [← hh, Bd.state]; rfl
  have N0 := Fr.nil n0
  have pre0 := fun t (k : Steps p.tables e below (s₁.setTop _) t) => castTop (ef_4 m a1) k
  obtain ⟨T101, X101, e101, st101⟩ := initO X0 hx hZ hown (wq hw 6 rfl) (wq hw 7 rfl) (wq hw 8 rfl) e0 (g := (mkF m 1 #[vR a1] [(.ref a1)])) rfl (by rw [hml]; rfl) rfl (hb hby dc22_1) (by decide) (W := 0) (by show 2 * 0 + _ ≤ _; exact Nat.le_of_eq rfl) (by decide)
  obtain ⟨T102, h102, k102, X102, e102, E102, A102, st102⟩ := newP X101 hx hZ (wq hw 9 rfl) e101 (g := (mkF m 6 #[vR a1] [(.int (1 : Int32)), (.ref a1)])) rfl (hb hby dc22_6) rfl (by decide) (cap := 1) (by decide) (by decide) (by decide) (by decide)
  obtain ⟨b102, g102⟩ : ∃ z, z = h0.size := ⟨_, rfl⟩
  rw [← g102] at A102 st102
  have gb102 : n0 ≤ b102 := by rw [g102, ← O0.1]; exact O0.2.1
  have ne102_a1 : a1 ≠ b102 := by rw [g102]; exact Nat.ne_of_lt (Ea).lt
  have sz102 : h0.size ≤ b102 := by rw [g102]; exact ((Keep.refl h0 [a1])).1
  have V102 : Arv Z h102 b102 k102 .int (1 : Int32) [(.int (0 : Int32))] (.int (0 : Int32)) := (Arv.new A102 (by decide)).pad (pad_rep [] (.int (0 : Int32)) 1)
  have f103 := (Ea.ext E102)
  have f104 := (Fn.ext E102)
  obtain ⟨T105, h105, X105, e105, W105, st105⟩ := putF X102 hx hZ hown (host := "") (Or.inl (wq hw 10 rfl)) Via.refl e102 f104 f103 (Or.inl (wq hw 11 rfl)) (wq hw 1 rfl) (ty := (.array .int)) (by decide) rfl rfl (g := (mkF m 8 #[vR a1] [(.ref b102), (.ref a1)])) rfl rfl (hb hby dc22_8)
  have Fw105 : Fld Z h105 a1 sU "numbers" "[I" (.ref b102) := Fld.same W105 f104
  have N105 := Fr.snoc X105 N0 ga
  obtain ⟨fs, hr, hrun, hended, hW, hsame⟩ := X105.leave (v := none) (fun _ => rfl)
  have K106 : Keep h0 h105 [a1] := (Keep.wr (Keep.ext (Keep.refl h0 [a1]) E102) W105 (Or.inl (List.mem_of_getElem? (i := 0) rfl)))
  have f107 := (f103.wr W105)
  have f108 := ((Fb.ext E102).other W105 (Or.inr (slot_ne (Or.inl (wq hw 30 rfl)) (Or.inl (wq hw 11 rfl)) (by decide) (t := (.object sB)) (t' := (.array .int)) (by decide) (by decide))))
  have f109 := ((Fc.ext E102).other W105 (Or.inr (slot_ne (Or.inl (wq hw 19 rfl)) (Or.inl (wq hw 11 rfl)) (by decide) (t := .int) (t' := (.array .int)) (by decide) (by decide))))
  have f110 := (V102.other W105 (Ne.symm ne102_a1))
  refine ⟨_, _, pre0 _ ?_, hrun, hended, _, _, rfl, ?_, ⟨_, rfl⟩, hW, hsame.mono (by decide) (by decide)⟩
  · skip
    show Steps p.tables e below (s₁.setTop (mkF m 0 #[vR a1] [])) _
    refine XS.aloadN X0.here hx rfl (hb hby dc22_0) rfl rfl ?_
    refine st101 _ ?_
    refine XS.aloadN X101.here hx rfl (hb hby dc22_4) rfl rfl ?_
    refine XS.iconst X101.here hx rfl (hb hby dc22_5) ?_
    show Steps p.tables e below (T101.setTop (mkF m 6 #[vR a1] [(.int (1 : Int32)), (.ref a1)])) _
    refine st102 _ ?_
    refine st105 _ ?_
    exact X105.returnOut hx Bd.returns (hb hby dc22_11) hr
  · show Q_ui Z a1 h0 n0 _ T105.heap _
    rw [e105]
    exact ⟨rfl, N105, K106, _, ⟨f107, ga, f109, Nat.le_refl 0, Or.inl ⟨b102, rfl, gb102, ne102_a1, Fw105, f108, ⟨_, Or.inl ⟨_, rfl, f110⟩⟩, trivial⟩⟩, allS (Or.inl rfl) (allS (Or.inr sz102) all0)⟩
abbrev y_23 : MethodName := (⟨"com/example/corral/corral/ownership/Units", "isEmpty", "()Z"⟩ : MethodName)
abbrev C23 := prog_25_method_3_code
theorem dc23_0 : decode C23 0 = .ok (.aload_n 0, 1) := by decide +kernel
theorem dc23_1 : decode C23 1 = .ok (.getfield 15, 3) := by decide +kernel
theorem dc23_4 : decode C23 4 = .ok (.ifCond .ne 7, 3) := by decide +kernel
theorem dc23_11 : decode C23 11 = .ok (.iconst 0, 1) := by decide +kernel
theorem dc23_12 : decode C23 12 = .ok (.ireturn, 1) := by decide +kernel
theorem rmEm0 (l : Launch) (Z : State) (a0 : Array Value) (hw : HwT a0 Z) (ws : List Jvm.Cond) (a1 : Addr) (c1 : Int32) (h0 : Heap) (n0 : Nat) (O0 : Old Z n0 h0) (Fc : Fld Z h0 a1 sU "count" "I" (.int c1)) (hc : ¬ c1 = (0 : Int32)) :
    Mt l Z y_23 prog_25_method_3_code 1 (some .boolean) ws ({ frames := 0, cells := 0, slots := 0, locals := 0 } : Room) #[(.ref a1)] h0 (Q_i (0 : Int32) h0 n0) := by
  refine MetFree.of_bodySF (plainFor_of_name pn_0) hisR ?_
  intro p e s m args below meth c s₁ Bd hml0 hP hK
  obtain ⟨rfl, hZ, hh⟩ := hP
  have hx := Bd.exec
  have hby := Bd.bytes
  have hml : c.maxLocals = 1 := hml0
  have hown : s.vm.findClass sU = some m.cls := findClass_of_methodNamed Bd.named
  have hnm := (name_of_methodNamed Bd.named Bd.method).1
  have X0 : Stand p l e ({ frames := 0, cells := 0, slots := 0, locals := 0 } : Room) s m #[(.ref a1)] below meth c s₁ [] 0 0 := Stand.of_body Bd
  have e0 : s₁.heap = h0 := by rw [← hh, Bd.state]; rfl
  have N0 := Fr.nil n0
  have pre0 := fun t (k : Steps p.tables e below (s₁.setTop _) t) => castTop (ef_4 m a1) k
  obtain ⟨T101, X101, e101, st101⟩ := gG X0 hx hZ hown (wq hw 18 rfl) e0 Fc (g := (mkF m 1 #[vR a1] [(.ref a1)])) rfl rfl (hb hby dc23_1)
  obtain ⟨fs, hr, hrun, hended, hW, hsame⟩ := X101.leave (v := some (.int (0 : Int32))) (fun h => by rw [Bd.returns] at h; cases h)
  refine ⟨_, _, pre0 _ ?_, hrun, hended, _, _, rfl, ?_, ⟨_, rfl⟩, hW, hsame.mono (by decide) (by decide)⟩
  · skip
    show Steps p.tables e below (s₁.setTop (mkF m 0 #[vR a1] [])) _
    refine XS.aloadN X0.here hx rfl (hb hby dc23_0) rfl rfl ?_
    refine st101 _ ?_
    refine XS.ifYes X101.here hx rfl (pc0 := 4) (pc' := 11) rfl (hb hby dc23_4) rfl ((if0 _ _).trans (feq hc).2) (by decide) (by decide) ?_
    refine XS.iconst X101.here hx rfl (hb hby dc23_11) ?_
    exact retN X101 hx (t := .boolean) Bd.returns (by simp) (hb hby dc23_12) hr
  · show Q_i (0 : Int32) h0 n0 _ T101.heap _
    rw [e101]
    exact ⟨rfl, N0, rfl⟩
theorem dc23_7 : decode C23 7 = .ok (.iconst 1, 1) := by decide +kernel
theorem dc23_8 : decode C23 8 = .ok (.goto 4, 3) := by decide +kernel
theorem rmEm1 (l : Launch) (Z : State) (a0 : Array Value) (hw : HwT a0 Z) (ws : List Jvm.Cond) (a1 : Addr) (c1 : Int32) (h0 : Heap) (n0 : Nat) (O0 : Old Z n0 h0) (Fc : Fld Z h0 a1 sU "count" "I" (.int c1)) (hc : c1 = (0 : Int32)) :
    Mt l Z y_23 prog_25_method_3_code 1 (some .boolean) ws ({ frames := 0, cells := 0, slots := 0, locals := 0 } : Room) #[(.ref a1)] h0 (Q_i (1 : Int32) h0 n0) := by
  refine MetFree.of_bodySF (plainFor_of_name pn_0) hisR ?_
  intro p e s m args below meth c s₁ Bd hml0 hP hK
  obtain ⟨rfl, hZ, hh⟩ := hP
  have hx := Bd.exec
  have hby := Bd.bytes
  have hml : c.maxLocals = 1 := hml0
  have hown : s.vm.findClass sU = some m.cls := findClass_of_methodNamed Bd.named
  have hnm := (name_of_methodNamed Bd.named Bd.method).1
  have X0 : Stand p l e ({ frames := 0, cells := 0, slots := 0, locals := 0 } : Room) s m #[(.ref a1)] below meth c s₁ [] 0 0 := Stand.of_body Bd
  have e0 : s₁.heap = h0 := by rw [← hh, Bd.state]; rfl
  have N0 := Fr.nil n0
  have pre0 := fun t (k : Steps p.tables e below (s₁.setTop _) t) => castTop (ef_4 m a1) k
  obtain ⟨T101, X101, e101, st101⟩ := gG X0 hx hZ hown (wq hw 18 rfl) e0 Fc (g := (mkF m 1 #[vR a1] [(.ref a1)])) rfl rfl (hb hby dc23_1)
  obtain ⟨fs, hr, hrun, hended, hW, hsame⟩ := X101.leave (v := some (.int (1 : Int32))) (fun h => by rw [Bd.returns] at h; cases h)
  refine ⟨_, _, pre0 _ ?_, hrun, hended, _, _, rfl, ?_, ⟨_, rfl⟩, hW, hsame.mono (by decide) (by decide)⟩
  · skip
    show Steps p.tables e below (s₁.setTop (mkF m 0 #[vR a1] [])) _
    refine XS.aloadN X0.here hx rfl (hb hby dc23_0) rfl rfl ?_
    refine st101 _ ?_
    refine XS.ifNo X101.here hx rfl (hb hby dc23_4) rfl ((if0 _ _).trans (teq hc).2) ?_
    refine XS.iconst X101.here hx rfl (hb hby dc23_7) ?_
    refine XS.goto X101.here hx rfl (pc0 := 8) (pc' := 12) rfl (hb hby dc23_8) (by decide) (by decide) ?_
    show Steps p.tables e below (T101.setTop (mkF m 12 #[vR a1] [(.int (1 : Int32))])) _
    exact retN X101 hx (t := .boolean) Bd.returns (by simp) (hb hby dc23_12) hr
  · show Q_i (1 : Int32) h0 n0 _ T101.heap _
    rw [e101]
    exact ⟨rfl, N0, rfl⟩
def Q_tb2 (Z : State) (a1 : Addr) (t0 t1 : Int32) (h0 : Heap) (n0 : Nat) (v : Option Value) (h : Heap) (L : List Loc) : Prop := ∃ c1 d1 : Addr, v = none ∧ Fr n0 L ∧ Keep h0 h [a1] ∧ h0.size ≤ c1 ∧ h0.size ≤ d1 ∧ n0 ≤ c1 ∧ n0 ≤ d1 ∧ Exa Z h a1 sU ∧ Fld Z h a1 sU "numbers" "[I" .null ∧ Fld Z h a1 sU "bits" "Ljava/util/BitSet;" (.ref c1) ∧ Fld Z h a1 sU "count" "I" (.int (2 : Int32)) ∧ Bs Z h c1 d1 (own_s0 t1 (own_s0 t0 (0 : Int64))) (own_s1 t1 (own_s1 t0 (0 : Int64))) False
def Q_tb3 (Z : State) (a1 : Addr) (t0 t1 t2 : Int32) (h0 : Heap) (n0 : Nat) (v : Option Value) (h : Heap) (L : List Loc) : Prop := ∃ c1 d1 : Addr, v = none ∧ Fr n0 L ∧ Keep h0 h [a1] ∧ h0.size ≤ c1 ∧ h0.size ≤ d1 ∧ n0 ≤ c1 ∧ n0 ≤ d1 ∧ Exa Z h a1 sU ∧ Fld Z h a1 sU "numbers" "[I" .null ∧ Fld Z h a1 sU "bits" "Ljava/util/BitSet;" (.ref c1) ∧ Fld Z h a1 sU "count" "I" (.int (3 : Int32)) ∧ Bs Z h c1 d1 (own_s0 t2 (own_s0 t1 (own_s0 t0 (0 : Int64)))) (own_s1 t2 (own_s1 t1 (own_s1 t0 (0 : Int64)))) False
def Q_tb4 (Z : State) (a1 : Addr) (t0 t1 t2 t3 : Int32) (h0 : Heap) (n0 : Nat) (v : Option Value) (h : Heap) (L : List Loc) : Prop := ∃ c1 d1 : Addr, v = none ∧ Fr n0 L ∧ Keep h0 h [a1] ∧ h0.size ≤ c1 ∧ h0.size ≤ d1 ∧ n0 ≤ c1 ∧ n0 ≤ d1 ∧ Exa Z h a1 sU ∧ Fld Z h a1 sU "numbers" "[I" .null ∧ Fld Z h a1 sU "bits" "Ljava/util/BitSet;" (.ref c1) ∧ Fld Z h a1 sU "count" "I" (.int (4 : Int32)) ∧ Bs Z h c1 d1 (own_s0 t3 (own_s0 t2 (own_s0 t1 (own_s0 t0 (0 : Int64))))) (own_s1 t3 (own_s1 t2 (own_s1 t1 (own_s1 t0 (0 : Int64))))) False
theorem own_zin {j n z : Int32} (hz : ¬ z < n) (h : j < n) : j < z := by rw [Int32.lt_iff_toInt_lt] at *; omega
abbrev y_24 : MethodName := (⟨"com/example/corral/corral/ownership/Units", "toBits", "()V"⟩ : MethodName)
abbrev C24 := prog_25_method_8_code
theorem dc24_0 : decode C24 0 = .ok (.aload_n 0, 1) := by decide +kernel
theorem dc24_1 : decode C24 1 = .ok (.new 24, 3) := by decide +kernel
theorem dc24_4 : decode C24 4 = .ok (.dup, 1) := by decide +kernel
theorem dc24_5 : decode C24 5 = .ok (.invokespecial 82, 3) := by decide +kernel
theorem dc24_8 : decode C24 8 = .ok (.putfield 19, 3) := by decide +kernel
theorem dc24_11 : decode C24 11 = .ok (.iconst 0, 1) := by decide +kernel
theorem dc24_12 : decode C24 12 = .ok (.istore_n 1, 1) := by decide +kernel
theorem dc24_13 : decode C24 13 = .ok (.iload_n 1, 1) := by decide +kernel
theorem dc24_14 : decode C24 14 = .ok (.aload_n 0, 1) := by decide +kernel
theorem dc24_15 : decode C24 15 = .ok (.getfield 15, 3) := by decide +kernel
theorem dc24_18 : decode C24 18 = .ok (.if_icmp .ge 22, 3) := by decide +kernel
theorem dc24_21 : decode C24 21 = .ok (.aload_n 0, 1) := by decide +kernel
theorem dc24_22 : decode C24 22 = .ok (.getfield 19, 3) := by decide +kernel
theorem dc24_25 : decode C24 25 = .ok (.aload_n 0, 1) := by decide +kernel
theorem dc24_26 : decode C24 26 = .ok (.getfield 9, 3) := by decide +kernel
theorem dc24_29 : decode C24 29 = .ok (.iload_n 1, 1) := by decide +kernel
theorem dc24_30 : decode C24 30 = .ok (.iaload, 1) := by decide +kernel
theorem dc24_31 : decode C24 31 = .ok (.invokevirtual 36, 3) := by decide +kernel
theorem dc24_34 : decode C24 34 = .ok (.iinc 1 1, 3) := by decide +kernel
theorem dc24_37 : decode C24 37 = .ok (.goto (-24), 3) := by decide +kernel
theorem dc24_40 : decode C24 40 = .ok (.aload_n 0, 1) := by decide +kernel
theorem dc24_41 : decode C24 41 = .ok (.aconst_null, 1) := by decide +kernel
theorem dc24_42 : decode C24 42 = .ok (.putfield 9, 3) := by decide +kernel
theorem dc24_45 : decode C24 45 = .ok (.return_, 1) := by decide +kernel
theorem rmTb2 (l : Launch) (Z : State) (a0 : Array Value) (hw : HwT a0 Z) (ws : List Jvm.Cond) (a1 b1 : Addr) (kb : ClassId) (z1 : Int32) (tl1 : List Value) (t0 t1 : Int32) (h0 : Heap) (n0 : Nat) (O0 : Old Z n0 h0) (Ea : Exa Z h0 a1 sU) (Fn : Fld Z h0 a1 sU "numbers" "[I" (.ref b1)) (Fb : Fld Z h0 a1 sU "bits" "Ljava/util/BitSet;" .null) (Fc : Fld Z h0 a1 sU "count" "I" (.int (2 : Int32))) (ga : n0 ≤ a1) (Vb : Arv Z h0 b1 kb .int z1 ((.int t0) :: (.int t1) :: tl1) (.int (0 : Int32))) (hz : ¬ z1 < (2 : Int32)) (neab : a1 ≠ b1) (gb : n0 ≤ b1) (hr0 : own_r t0) (hr1 : own_r t1) (hl0 : t0 < (64 : Int32)) (hl1 : t1 < (64 : Int32)) (SB : Sta Z Z.heap sB "$assertionsDisabled" "Z" (.int (1 : Int32))) :
    Mt l Z y_24 prog_25_method_8_code 2 none ws ({ frames := 3, cells := 2, slots := 4, locals := 42 } : Room) #[(.ref a1)] h0 (Q_tb2 Z a1 t0 t1 h0 n0) := by
  refine MetFree.of_bodySF (plainFor_of_name pn_0) hisR ?_
  intro p e s m args below meth c s₁ Bd hml0 hP hK
  obtain ⟨rfl, hZ, hh⟩ := hP
  have hx := Bd.exec
  have hby := Bd.bytes
  have hml : c.maxLocals = 2 := hml0
  have hown : s.vm.findClass sU = some m.cls := findClass_of_methodNamed Bd.named
  have hnm := (name_of_methodNamed Bd.named Bd.method).1
  have X0 : Stand p l e ({ frames := 3, cells := 2, slots := 4, locals := 42 } : Room) s m #[(.ref a1)] below meth c s₁ [] 0 0 := Stand.of_body Bd
  have e0 : s₁.heap = h0 := by rw [← hh, Bd.state]; rfl
  have N0 := Fr.nil n0
  have pre0 := fun t (k : Steps p.tables e below (s₁.setTop _) t) => castTop (ef_6 m a1) k
  obtain ⟨T101, h101, X101, e101, E101, A101, D101, -, st101⟩ := newO X0 hx hZ hown (wq hw 69 rfl) (wq hw 70 rfl) (wq hw 71 rfl) e0 (g := (mkF m 1 #[vR a1, .unset] [(.ref a1)])) rfl (hb hby dc24_1) (by decide) (by decide)
  obtain ⟨b101, g101⟩ : ∃ z, z = h0.size := ⟨_, rfl⟩
  rw [← g101] at A101 D101 st101
  have gb101 : n0 ≤ b101 := by rw [g101, ← O0.1]; exact O0.2.1
  have ne101_a1 : a1 ≠ b101 := by rw [g101]; exact Nat.ne_of_lt (Ea).lt
  have ne101_b1 : b1 ≠ b101 := by rw [g101]; exact Nat.ne_of_lt (Vb).lt
  have sz101 : h0.size ≤ b101 := by rw [g101]; exact ((Keep.refl h0 [a1])).1
  have F101_wordsInUse : Fld Z h101 b101 sB "wordsInUse" "I" (.int (0 : Int32)) := D101 (Or.inl (wq hw 77 rfl)) (ty := .int) (by decide)
  have F101_sizeIsSticky : Fld Z h101 b101 sB "sizeIsSticky" "Z" (.int (0 : Int32)) := D101 (Or.inl (wq hw 79 rfl)) (ty := .boolean) (by decide)
  have F101_words : Fld Z h101 b101 sB "words" "[J" .null := D101 (Or.inl (wq hw 89 rfl)) (ty := (.array .long)) (by decide)
  have K102 : Keep h0 h101 [a1] := (Keep.ext (Keep.refl h0 [a1]) E101)
  have O103 : Old Z n0 h101 := (O0.ext E101)
  obtain ⟨_, _, ⟨T104, L104, k104, n104⟩, -, X104, ⟨Lc104, hQ104, l104, y104, z104⟩, st104⟩ := X101.specialBack hx (y := y_17) rfl hown (mvT hZ (wq hw 72 rfl)) (mvT hZ (wq hw 73 rfl)) (mvT hZ (wq hw 74 rfl)) (by decide) (backOf (W := 2) (rmBi l Z a0 hw [] b101 h101 n0 O103 A101 F101_words F101_sizeIsSticky F101_wordsInUse gb101) hZ (wq hw 74 rfl) (wq hw 71 rfl) (by decide) (by decide)) (g := (mkF m 5 #[vR a1, .unset] [(.ref b101), (.ref b101), (.ref a1)])) rfl (by rw [hml]; rfl) (Steps.refl _) (a := b101) (argsL := []) (rest := [(.ref b101), (.ref a1)]) (lenOf pd_4 rfl) rfl (by show 2 * 0 + _ ≤ _; exact Nat.le_of_eq rfl) (hb hby dc24_5) (fun _ _ => ⟨rfl, e101, (by decide : 1 + 1 ≤ _), (by decide : 3 + 1 ≤ _)⟩)
  dsimp only [Pt.U, Pt.locs, Pt.cells, Pt.slots] at X104 l104 y104 z104 st104 hQ104
  subst l104 y104 z104
  obtain ⟨b104, kb104, rfl, N104q, gb104, sz104, K104, Ec104, Fw104, Fs104, Fu104, V104⟩ := hQ104
  have N104 := Fr.app N0 N104q
  have f105 := (Ea.ext E101)
  have ne104_a1 : a1 ≠ b104 := Nat.ne_of_lt (Nat.lt_of_lt_of_le (f105).lt sz104)
  have f106 := (Vb.ext E101)
  have ne104_b1 : b1 ≠ b104 := Nat.ne_of_lt (Nat.lt_of_lt_of_le (f106).lt sz104)
  have ne104_b101 : b101 ≠ b104 := Nat.ne_of_lt (Nat.lt_of_lt_of_le (A101).lt sz104)
  have sz0104 : h0.size ≤ b104 := Nat.le_trans (K102).1 sz104
  have f107 := (f105.keep K104)
  have f108 := ((Fb.ext E101).keep K104 (ninS ne101_a1 nin0))
  obtain ⟨T109, h109, X109, e109, W109, st109⟩ := putF X104 hx hZ hown (host := "") (Or.inl (wq hw 29 rfl)) Via.refl rfl f108 f107 (Or.inl (wq hw 30 rfl)) (wq hw 1 rfl) (ty := (.object sB)) (by decide) rfl rfl (g := (mkF m 8 #[vR a1, .unset] [(.ref b101), (.ref a1)])) rfl rfl (hb hby dc24_8)
  have Fw109 : Fld Z h109 a1 sU "bits" "Ljava/util/BitSet;" (.ref b101) := Fld.same W109 f108
  have N109 := Fr.snoc X109 N104 ga
  have f110 := (((Fc.ext E101).keep K104 (ninS ne101_a1 nin0)).other W109 (Or.inr (slot_ne (Or.inl (wq hw 19 rfl)) (Or.inl (wq hw 30 rfl)) (by decide) (t := .int) (t' := (.object sB)) (by decide) (by decide))))
  obtain ⟨T111, X111, e111, st111⟩ := gG X109 hx hZ hown (wq hw 18 rfl) e109 f110 (g := (mkF m 15 #[vR a1, vI (0 : Int32)] [(.ref a1), (.int (0 : Int32))])) rfl rfl (hb hby dc24_15)
  obtain ⟨T112, X112, e112, st112⟩ := gG X111 hx hZ hown (wq hw 29 rfl) e111 Fw109 (g := (mkF m 22 #[vR a1, vI (0 : Int32)] [(.ref a1)])) rfl rfl (hb hby dc24_22)
  have f113 := (((Fn.ext E101).keep K104 (ninS ne101_a1 nin0)).other W109 (Or.inr (slot_ne (Or.inl (wq hw 11 rfl)) (Or.inl (wq hw 30 rfl)) (by decide) (t := (.array .int)) (t' := (.object sB)) (by decide) (by decide))))
  obtain ⟨T114, X114, e114, st114⟩ := gG X112 hx hZ hown (wq hw 10 rfl) e112 f113 (g := (mkF m 26 #[vR a1, vI (0 : Int32)] [(.ref a1), (.ref b101)])) rfl rfl (hb hby dc24_26)
  have f115 := ((f106.keep K104 (ninS ne101_b1 nin0)).other W109 (Ne.symm neab))
  obtain ⟨cl116, Ar116, q116, S116, N116_, H116, G116⟩ := id f115
  have hin116 : ¬ ((0 : Int32) < 0 ∨ cl116.slots.size ≤ ((0 : Int32)).toNatClampNeg) := inb_of S116 ⟨by decide, (own_zin hz (by decide))⟩
  have hat116 : cl116.slots[((0 : Int32)).toNatClampNeg]? = some (.int t0) := H116.at hin116 rfl
  have f117 := (Ec104.wr W109)
  have f118 := (Fw104.other W109 (Or.inl (Ne.symm ne101_a1)))
  have f119 := (Fs104.other W109 (Or.inl (Ne.symm ne101_a1)))
  have f120 := (Fu104.other W109 (Or.inl (Ne.symm ne101_a1)))
  have f122 := (V104.other W109 (Ne.symm ne104_a1))
  have Bq121 : Bs Z h109 b101 b104 (0 : Int64) (0 : Int64) False := ⟨ne104_b101, f117, f118, f119, _, Or.inl ⟨f120, f122, rfl, rfl⟩⟩
  have K123 : Keep h0 h109 [a1] := (Keep.wr (Keep.trans K102 K104 (allS (P := fun x => x ∈ [a1] ∨ h0.size ≤ x) (Or.inr sz101) all0)) W109 (Or.inl (List.mem_of_getElem? (i := 0) rfl)))
  have O124 : Old Z n0 h109 := ((O103.keep K104 (allS gb101 all0)).wr W109 ga)
  obtain ⟨cq125, kq125, q125a, q125b, q125c⟩ := isOf hZ e114 f117
  obtain ⟨_, _, ⟨T125, L125, k125, n125⟩, -, X125, ⟨Lc125, hQ125, l125, y125, z125⟩, st125⟩ := X114.virtualBack hx (y := y_11) (z := y_11) hown (mvT hZ (wq hw 90 rfl)) (mvT hZ (wq hw 91 rfl)) (notFace_of_selects (args := #[]) (mvT hZ (wq hw 93 rfl))) (mvT hZ (wq hw 93 rfl)) (mvT hZ (wq hw 92 rfl)) (by decide) (backOf (W := 0) (rmSeL l Z a0 hw [] b101 b104 (0 : Int64) (0 : Int64) t0 h109 n0 O124 Bq121 gb101 gb104 hr0 hl0 SB) hZ (wq hw 94 rfl) (wq hw 71 rfl) (by decide) (by decide)) q125a q125c (g := (mkF m 31 #[vR a1, vI (0 : Int32)] [(.int t0), (.ref b101)])) rfl (by rw [hml]; rfl) (Steps.refl _) (argsL := [(.int t0)]) (rest := []) (lenOf pd_3 rfl) rfl (by show 2 * 0 + _ ≤ _; exact Nat.le_of_eq rfl) (hb hby dc24_31) (fun _ _ => ⟨rfl, e114, (by decide : 2 + 0 ≤ _), (by decide : 4 + 0 ≤ _)⟩)
  dsimp only [Pt.U, Pt.locs, Pt.cells, Pt.slots] at X125 l125 y125 z125 st125 hQ125
  subst l125 y125 z125
  obtain ⟨rfl, N125q, K125, d125, hd125, gd125, P125⟩ := hQ125
  have N125 := Fr.app N109 N125q
  have f126 := (f107.wr W109)
  have ne125_a1 : a1 ≠ d125 := by
    rcases hd125 with q | q
    · rw [q]; exact ne104_a1
    · exact Nat.ne_of_lt (Nat.lt_of_lt_of_le (f126).lt q)
  have ne125_b1 : b1 ≠ d125 := by
    rcases hd125 with q | q
    · rw [q]; exact ne104_b1
    · exact Nat.ne_of_lt (Nat.lt_of_lt_of_le (f115).lt q)
  have sz0125 : h0.size ≤ d125 := by
    rcases hd125 with q | q
    · rw [q]; exact sz0104
    · exact Nat.le_trans (K123).1 q
  have f127 := (f110.keep K125 (ninS ne101_a1 (ninS ne104_a1 nin0)))
  obtain ⟨T128, X128, e128, st128⟩ := gG X125 hx hZ hown (wq hw 18 rfl) rfl f127 (g := (mkF m 15 #[vR a1, vI (1 : Int32)] [(.ref a1), (.int (1 : Int32))])) rfl rfl (hb hby dc24_15)
  have f129 := (Fw109.keep K125 (ninS ne101_a1 (ninS ne104_a1 nin0)))
  obtain ⟨T130, X130, e130, st130⟩ := gG X128 hx hZ hown (wq hw 29 rfl) e128 f129 (g := (mkF m 22 #[vR a1, vI (1 : Int32)] [(.ref a1)])) rfl rfl (hb hby dc24_22)
  have f131 := (f113.keep K125 (ninS ne101_a1 (ninS ne104_a1 nin0)))
  obtain ⟨T132, X132, e132, st132⟩ := gG X130 hx hZ hown (wq hw 10 rfl) e130 f131 (g := (mkF m 26 #[vR a1, vI (1 : Int32)] [(.ref a1), (.ref b101)])) rfl rfl (hb hby dc24_26)
  have f133 := (f115.keep K125 (ninS ne101_b1 (ninS ne104_b1 nin0)))
  obtain ⟨cl134, Ar134, q134, S134, N134_, H134, G134⟩ := id f133
  have hin134 : ¬ ((1 : Int32) < 0 ∨ cl134.slots.size ≤ ((1 : Int32)).toNatClampNeg) := inb_of S134 ⟨by decide, (own_zin hz (by decide))⟩
  have hat134 : cl134.slots[((1 : Int32)).toNatClampNeg]? = some (.int t1) := H134.at hin134 rfl
  have K135 : Keep h0 T125.heap [a1] := (Keep.trans K123 K125 (allS (P := fun x => x ∈ [a1] ∨ h0.size ≤ x) (Or.inr sz101) (allS (P := fun x => x ∈ [a1] ∨ h0.size ≤ x) (Or.inr sz0104) all0)))
  have O136 : Old Z n0 T125.heap := (O124.keep K125 (allS gb101 (allS gb104 all0)))
  obtain ⟨cq137, kq137, q137a, q137b, q137c⟩ := isOf hZ e132 P125.exa
  obtain ⟨_, _, ⟨T137, L137, k137, n137⟩, -, X137, ⟨Lc137, hQ137, l137, y137, z137⟩, st137⟩ := X132.virtualBack hx (y := y_11) (z := y_11) hown (mvT hZ (wq hw 90 rfl)) (mvT hZ (wq hw 91 rfl)) (notFace_of_selects (args := #[]) (mvT hZ (wq hw 93 rfl))) (mvT hZ (wq hw 93 rfl)) (mvT hZ (wq hw 92 rfl)) (by decide) (backOf (W := 0) (rmSeL l Z a0 hw [] b101 d125 (own_s0 t0 (0 : Int64)) (own_s1 t0 (0 : Int64)) t1 T125.heap n0 O136 P125 gb101 gd125 hr1 hl1 SB) hZ (wq hw 94 rfl) (wq hw 71 rfl) (by decide) (by decide)) q137a q137c (g := (mkF m 31 #[vR a1, vI (1 : Int32)] [(.int t1), (.ref b101)])) rfl (by rw [hml]; rfl) (Steps.refl _) (argsL := [(.int t1)]) (rest := []) (lenOf pd_3 rfl) rfl (by show 2 * 0 + _ ≤ _; exact Nat.le_of_eq rfl) (hb hby dc24_31) (fun _ _ => ⟨rfl, e132, (by decide : 2 + 0 ≤ _), (by decide : 4 + 0 ≤ _)⟩)
  dsimp only [Pt.U, Pt.locs, Pt.cells, Pt.slots] at X137 l137 y137 z137 st137 hQ137
  subst l137 y137 z137
  obtain ⟨rfl, N137q, K137, d137, hd137, gd137, P137⟩ := hQ137
  have N137 := Fr.app N125 N137q
  have f138 := (f126.keep K125)
  have ne137_a1 : a1 ≠ d137 := by
    rcases hd137 with q | q
    · rw [q]; exact ne125_a1
    · exact Nat.ne_of_lt (Nat.lt_of_lt_of_le (f138).lt q)
  have ne137_b1 : b1 ≠ d137 := by
    rcases hd137 with q | q
    · rw [q]; exact ne125_b1
    · exact Nat.ne_of_lt (Nat.lt_of_lt_of_le (f133).lt q)
  have sz0137 : h0.size ≤ d137 := by
    rcases hd137 with q | q
    · rw [q]; exact sz0125
    · exact Nat.le_trans (K135).1 q
  have f139 := (f127.keep K137 (ninS ne101_a1 (ninS ne125_a1 nin0)))
  obtain ⟨T140, X140, e140, st140⟩ := gG X137 hx hZ hown (wq hw 18 rfl) rfl f139 (g := (mkF m 15 #[vR a1, vI (2 : Int32)] [(.ref a1), (.int (2 : Int32))])) rfl rfl (hb hby dc24_15)
  have f141 := (f138.keep K137)
  have f142 := (f131.keep K137 (ninS ne101_a1 (ninS ne125_a1 nin0)))
  obtain ⟨T143, h143, X143, e143, W143, st143⟩ := putF X140 hx hZ hown (host := "") (Or.inl (wq hw 10 rfl)) Via.refl e140 f142 f141 (Or.inl (wq hw 11 rfl)) (wq hw 1 rfl) (ty := (.array .int)) (by decide) rfl rfl (g := (mkF m 42 #[vR a1, vI (2 : Int32)] [.null, (.ref a1)])) rfl rfl (hb hby dc24_42)
  have Fw143 : Fld Z h143 a1 sU "numbers" "[I" .null := Fld.same W143 f142
  have N143 := Fr.snoc X143 N137 ga
  obtain ⟨fs, hr, hrun, hended, hW, hsame⟩ := X143.leave (v := none) (fun _ => rfl)
  have f144 := (P137.kp (Keep.of_wr W143) (ninS (Ne.symm ne101_a1) nin0) (ninS (Ne.symm ne137_a1) nin0))
  have f145 := (f141.wr W143)
  have f146 := ((f129.keep K137 (ninS ne101_a1 (ninS ne125_a1 nin0))).other W143 (Or.inr (slot_ne (Or.inl (wq hw 30 rfl)) (Or.inl (wq hw 11 rfl)) (by decide) (t := (.object sB)) (t' := (.array .int)) (by decide) (by decide))))
  have f147 := (f139.other W143 (Or.inr (slot_ne (Or.inl (wq hw 19 rfl)) (Or.inl (wq hw 11 rfl)) (by decide) (t := .int) (t' := (.array .int)) (by decide) (by decide))))
  have K148 : Keep h0 h143 [a1] := (Keep.wr (Keep.trans K135 K137 (allS (P := fun x => x ∈ [a1] ∨ h0.size ≤ x) (Or.inr sz101) (allS (P := fun x => x ∈ [a1] ∨ h0.size ≤ x) (Or.inr sz0125) all0))) W143 (Or.inl (List.mem_of_getElem? (i := 0) rfl)))
  refine ⟨_, _, pre0 _ ?_, hrun, hended, _, _, rfl, ?_, ⟨_, rfl⟩, hW, hsame.mono (by decide) (by decide)⟩
  · skip
    show Steps p.tables e below (s₁.setTop (mkF m 0 #[vR a1, .unset] [])) _
    refine XS.aloadN X0.here hx rfl (hb hby dc24_0) rfl rfl ?_
    refine st101 _ ?_
    refine XS.dup X101.here hx rfl (hb hby dc24_4) rfl rfl ?_
    refine st104.trans ?_
    refine st109 _ ?_
    refine XS.iconst X109.here hx rfl (hb hby dc24_11) ?_
    show Steps p.tables e below (T109.setTop (mkF m 12 #[vR a1, .unset] [(.int (0 : Int32))])) _
    refine XS.istoreN X109.here hx rfl (hb hby dc24_12) rfl (l' := #[vR a1, vI (0 : Int32)]) rfl ?_
    refine XS.iloadN X109.here hx rfl (hb hby dc24_13) rfl ?_
    refine XS.aloadN X109.here hx rfl (hb hby dc24_14) rfl rfl ?_
    refine st111 _ ?_
    refine XS.icmpNo X111.here hx rfl (hb hby dc24_18) rfl (by decide) ?_
    refine XS.aloadN X111.here hx rfl (hb hby dc24_21) rfl rfl ?_
    refine st112 _ ?_
    refine XS.aloadN X112.here hx rfl (hb hby dc24_25) rfl rfl ?_
    refine st114 _ ?_
    refine XS.iloadN X114.here hx rfl (hb hby dc24_29) rfl ?_
    refine X114.iaload hx (j := (0 : Int32)) (v := (.int t0)) (by rw [e114]; exact Ar116.1) (State.isArrayOf_alike hZ.alike Ar116.2.1) Ar116.2.2 hin116 hat116 (g := (mkF m 30 #[vR a1, vI (0 : Int32)] [(.int (0 : Int32)), (.ref b1), (.ref b101)])) rfl rfl (hb hby dc24_30) _ ?_
    refine st125.trans ?_
    show Steps p.tables e below (T125.setTop (mkF m 34 #[vR a1, vI (0 : Int32)] [])) _
    refine XS.iinc X125.here hx rfl (hb hby dc24_34) rfl (l' := #[vR a1, vI (1 : Int32)]) rfl ?_
    refine XS.goto X125.here hx rfl (pc0 := 37) (pc' := 13) rfl (hb hby dc24_37) (by decide) (by decide) ?_
    refine XS.iloadN X125.here hx rfl (hb hby dc24_13) rfl ?_
    refine XS.aloadN X125.here hx rfl (hb hby dc24_14) rfl rfl ?_
    refine st128 _ ?_
    refine XS.icmpNo X128.here hx rfl (hb hby dc24_18) rfl (by decide) ?_
    refine XS.aloadN X128.here hx rfl (hb hby dc24_21) rfl rfl ?_
    refine st130 _ ?_
    refine XS.aloadN X130.here hx rfl (hb hby dc24_25) rfl rfl ?_
    refine st132 _ ?_
    refine XS.iloadN X132.here hx rfl (hb hby dc24_29) rfl ?_
    refine X132.iaload hx (j := (1 : Int32)) (v := (.int t1)) (by rw [e132]; exact Ar134.1) (State.isArrayOf_alike hZ.alike Ar134.2.1) Ar134.2.2 hin134 hat134 (g := (mkF m 30 #[vR a1, vI (1 : Int32)] [(.int (1 : Int32)), (.ref b1), (.ref b101)])) rfl rfl (hb hby dc24_30) _ ?_
    show Steps p.tables e below (T132.setTop (mkF m 31 #[vR a1, vI (1 : Int32)] [(.int t1), (.ref b101)])) _
    refine st137.trans ?_
    refine XS.iinc X137.here hx rfl (hb hby dc24_34) rfl (l' := #[vR a1, vI (2 : Int32)]) rfl ?_
    refine XS.goto X137.here hx rfl (pc0 := 37) (pc' := 13) rfl (hb hby dc24_37) (by decide) (by decide) ?_
    refine XS.iloadN X137.here hx rfl (hb hby dc24_13) rfl ?_
    refine XS.aloadN X137.here hx rfl (hb hby dc24_14) rfl rfl ?_
    refine st140 _ ?_
    refine XS.icmpYes X140.here hx rfl (pc0 := 18) (pc' := 40) rfl (hb hby dc24_18) rfl (by decide) (by decide) (by decide) ?_
    refine XS.aloadN X140.here hx rfl (hb hby dc24_40) rfl rfl ?_
    refine XS.aconstNull X140.here hx rfl (hb hby dc24_41) ?_
    refine st143 _ ?_
    exact X143.returnOut hx Bd.returns (hb hby dc24_45) hr
  · show Q_tb2 Z a1 t0 t1 h0 n0 _ T143.heap _
    rw [e143]
    exact ⟨_, _, rfl, N143, K148, sz101, sz0137, gb101, gd137, f145, Fw143, f146, f147, f144⟩
theorem rmTb3 (l : Launch) (Z : State) (a0 : Array Value) (hw : HwT a0 Z) (ws : List Jvm.Cond) (a1 b1 : Addr) (kb : ClassId) (z1 : Int32) (tl1 : List Value) (t0 t1 t2 : Int32) (h0 : Heap) (n0 : Nat) (O0 : Old Z n0 h0) (Ea : Exa Z h0 a1 sU) (Fn : Fld Z h0 a1 sU "numbers" "[I" (.ref b1)) (Fb : Fld Z h0 a1 sU "bits" "Ljava/util/BitSet;" .null) (Fc : Fld Z h0 a1 sU "count" "I" (.int (3 : Int32))) (ga : n0 ≤ a1) (Vb : Arv Z h0 b1 kb .int z1 ((.int t0) :: (.int t1) :: (.int t2) :: tl1) (.int (0 : Int32))) (hz : ¬ z1 < (3 : Int32)) (neab : a1 ≠ b1) (gb : n0 ≤ b1) (hr0 : own_r t0) (hr1 : own_r t1) (hr2 : own_r t2) (hl0 : t0 < (64 : Int32)) (hl1 : t1 < (64 : Int32)) (hl2 : t2 < (64 : Int32)) (SB : Sta Z Z.heap sB "$assertionsDisabled" "Z" (.int (1 : Int32))) :
    Mt l Z y_24 prog_25_method_8_code 2 none ws ({ frames := 3, cells := 2, slots := 4, locals := 42 } : Room) #[(.ref a1)] h0 (Q_tb3 Z a1 t0 t1 t2 h0 n0) := by
  refine MetFree.of_bodySF (plainFor_of_name pn_0) hisR ?_
  intro p e s m args below meth c s₁ Bd hml0 hP hK
  obtain ⟨rfl, hZ, hh⟩ := hP
  have hx := Bd.exec
  have hby := Bd.bytes
  have hml : c.maxLocals = 2 := hml0
  have hown : s.vm.findClass sU = some m.cls := findClass_of_methodNamed Bd.named
  have hnm := (name_of_methodNamed Bd.named Bd.method).1
  have X0 : Stand p l e ({ frames := 3, cells := 2, slots := 4, locals := 42 } : Room) s m #[(.ref a1)] below meth c s₁ [] 0 0 := Stand.of_body Bd
  have e0 : s₁.heap = h0 := by rw [← hh, Bd.state]; rfl
  have N0 := Fr.nil n0
  have pre0 := fun t (k : Steps p.tables e below (s₁.setTop _) t) => castTop (ef_6 m a1) k
  obtain ⟨T101, h101, X101, e101, E101, A101, D101, -, st101⟩ := newO X0 hx hZ hown (wq hw 69 rfl) (wq hw 70 rfl) (wq hw 71 rfl) e0 (g := (mkF m 1 #[vR a1, .unset] [(.ref a1)])) rfl (hb hby dc24_1) (by decide) (by decide)
  obtain ⟨b101, g101⟩ : ∃ z, z = h0.size := ⟨_, rfl⟩
  rw [← g101] at A101 D101 st101
  have gb101 : n0 ≤ b101 := by rw [g101, ← O0.1]; exact O0.2.1
  have ne101_a1 : a1 ≠ b101 := by rw [g101]; exact Nat.ne_of_lt (Ea).lt
  have ne101_b1 : b1 ≠ b101 := by rw [g101]; exact Nat.ne_of_lt (Vb).lt
  have sz101 : h0.size ≤ b101 := by rw [g101]; exact ((Keep.refl h0 [a1])).1
  have F101_wordsInUse : Fld Z h101 b101 sB "wordsInUse" "I" (.int (0 : Int32)) := D101 (Or.inl (wq hw 77 rfl)) (ty := .int) (by decide)
  have F101_sizeIsSticky : Fld Z h101 b101 sB "sizeIsSticky" "Z" (.int (0 : Int32)) := D101 (Or.inl (wq hw 79 rfl)) (ty := .boolean) (by decide)
  have F101_words : Fld Z h101 b101 sB "words" "[J" .null := D101 (Or.inl (wq hw 89 rfl)) (ty := (.array .long)) (by decide)
  have K102 : Keep h0 h101 [a1] := (Keep.ext (Keep.refl h0 [a1]) E101)
  have O103 : Old Z n0 h101 := (O0.ext E101)
  obtain ⟨_, _, ⟨T104, L104, k104, n104⟩, -, X104, ⟨Lc104, hQ104, l104, y104, z104⟩, st104⟩ := X101.specialBack hx (y := y_17) rfl hown (mvT hZ (wq hw 72 rfl)) (mvT hZ (wq hw 73 rfl)) (mvT hZ (wq hw 74 rfl)) (by decide) (backOf (W := 2) (rmBi l Z a0 hw [] b101 h101 n0 O103 A101 F101_words F101_sizeIsSticky F101_wordsInUse gb101) hZ (wq hw 74 rfl) (wq hw 71 rfl) (by decide) (by decide)) (g := (mkF m 5 #[vR a1, .unset] [(.ref b101), (.ref b101), (.ref a1)])) rfl (by rw [hml]; rfl) (Steps.refl _) (a := b101) (argsL := []) (rest := [(.ref b101), (.ref a1)]) (lenOf pd_4 rfl) rfl (by show 2 * 0 + _ ≤ _; exact Nat.le_of_eq rfl) (hb hby dc24_5) (fun _ _ => ⟨rfl, e101, (by decide : 1 + 1 ≤ _), (by decide : 3 + 1 ≤ _)⟩)
  dsimp only [Pt.U, Pt.locs, Pt.cells, Pt.slots] at X104 l104 y104 z104 st104 hQ104
  subst l104 y104 z104
  obtain ⟨b104, kb104, rfl, N104q, gb104, sz104, K104, Ec104, Fw104, Fs104, Fu104, V104⟩ := hQ104
  have N104 := Fr.app N0 N104q
  have f105 := (Ea.ext E101)
  have ne104_a1 : a1 ≠ b104 := Nat.ne_of_lt (Nat.lt_of_lt_of_le (f105).lt sz104)
  have f106 := (Vb.ext E101)
  have ne104_b1 : b1 ≠ b104 := Nat.ne_of_lt (Nat.lt_of_lt_of_le (f106).lt sz104)
  have ne104_b101 : b101 ≠ b104 := Nat.ne_of_lt (Nat.lt_of_lt_of_le (A101).lt sz104)
  have sz0104 : h0.size ≤ b104 := Nat.le_trans (K102).1 sz104
  have f107 := (f105.keep K104)
  have f108 := ((Fb.ext E101).keep K104 (ninS ne101_a1 nin0))
  obtain ⟨T109, h109, X109, e109, W109, st109⟩ := putF X104 hx hZ hown (host := "") (Or.inl (wq hw 29 rfl)) Via.refl rfl f108 f107 (Or.inl (wq hw 30 rfl)) (wq hw 1 rfl) (ty := (.object sB)) (by decide) rfl rfl (g := (mkF m 8 #[vR a1, .unset] [(.ref b101), (.ref a1)])) rfl rfl (hb hby dc24_8)
  have Fw109 : Fld Z h109 a1 sU "bits" "Ljava/util/BitSet;" (.ref b101) := Fld.same W109 f108
  have N109 := Fr.snoc X109 N104 ga
  have f110 := (((Fc.ext E101).keep K104 (ninS ne101_a1 nin0)).other W109 (Or.inr (slot_ne (Or.inl (wq hw 19 rfl)) (Or.inl (wq hw 30 rfl)) (by decide) (t := .int) (t' := (.object sB)) (by decide) (by decide))))
  obtain ⟨T111, X111, e111, st111⟩ := gG X109 hx hZ hown (wq hw 18 rfl) e109 f110 (g := (mkF m 15 #[vR a1, vI (0 : Int32)] [(.ref a1), (.int (0 : Int32))])) rfl rfl (hb hby dc24_15)
  obtain ⟨T112, X112, e112, st112⟩ := gG X111 hx hZ hown (wq hw 29 rfl) e111 Fw109 (g := (mkF m 22 #[vR a1, vI (0 : Int32)] [(.ref a1)])) rfl rfl (hb hby dc24_22)
  have f113 := (((Fn.ext E101).keep K104 (ninS ne101_a1 nin0)).other W109 (Or.inr (slot_ne (Or.inl (wq hw 11 rfl)) (Or.inl (wq hw 30 rfl)) (by decide) (t := (.array .int)) (t' := (.object sB)) (by decide) (by decide))))
  obtain ⟨T114, X114, e114, st114⟩ := gG X112 hx hZ hown (wq hw 10 rfl) e112 f113 (g := (mkF m 26 #[vR a1, vI (0 : Int32)] [(.ref a1), (.ref b101)])) rfl rfl (hb hby dc24_26)
  have f115 := ((f106.keep K104 (ninS ne101_b1 nin0)).other W109 (Ne.symm neab))
  obtain ⟨cl116, Ar116, q116, S116, N116_, H116, G116⟩ := id f115
  have hin116 : ¬ ((0 : Int32) < 0 ∨ cl116.slots.size ≤ ((0 : Int32)).toNatClampNeg) := inb_of S116 ⟨by decide, (own_zin hz (by decide))⟩
  have hat116 : cl116.slots[((0 : Int32)).toNatClampNeg]? = some (.int t0) := H116.at hin116 rfl
  have f117 := (Ec104.wr W109)
  have f118 := (Fw104.other W109 (Or.inl (Ne.symm ne101_a1)))
  have f119 := (Fs104.other W109 (Or.inl (Ne.symm ne101_a1)))
  have f120 := (Fu104.other W109 (Or.inl (Ne.symm ne101_a1)))
  have f122 := (V104.other W109 (Ne.symm ne104_a1))
  have Bq121 : Bs Z h109 b101 b104 (0 : Int64) (0 : Int64) False := ⟨ne104_b101, f117, f118, f119, _, Or.inl ⟨f120, f122, rfl, rfl⟩⟩
  have K123 : Keep h0 h109 [a1] := (Keep.wr (Keep.trans K102 K104 (allS (P := fun x => x ∈ [a1] ∨ h0.size ≤ x) (Or.inr sz101) all0)) W109 (Or.inl (List.mem_of_getElem? (i := 0) rfl)))
  have O124 : Old Z n0 h109 := ((O103.keep K104 (allS gb101 all0)).wr W109 ga)
  obtain ⟨cq125, kq125, q125a, q125b, q125c⟩ := isOf hZ e114 f117
  obtain ⟨_, _, ⟨T125, L125, k125, n125⟩, -, X125, ⟨Lc125, hQ125, l125, y125, z125⟩, st125⟩ := X114.virtualBack hx (y := y_11) (z := y_11) hown (mvT hZ (wq hw 90 rfl)) (mvT hZ (wq hw 91 rfl)) (notFace_of_selects (args := #[]) (mvT hZ (wq hw 93 rfl))) (mvT hZ (wq hw 93 rfl)) (mvT hZ (wq hw 92 rfl)) (by decide) (backOf (W := 0) (rmSeL l Z a0 hw [] b101 b104 (0 : Int64) (0 : Int64) t0 h109 n0 O124 Bq121 gb101 gb104 hr0 hl0 SB) hZ (wq hw 94 rfl) (wq hw 71 rfl) (by decide) (by decide)) q125a q125c (g := (mkF m 31 #[vR a1, vI (0 : Int32)] [(.int t0), (.ref b101)])) rfl (by rw [hml]; rfl) (Steps.refl _) (argsL := [(.int t0)]) (rest := []) (lenOf pd_3 rfl) rfl (by show 2 * 0 + _ ≤ _; exact Nat.le_of_eq rfl) (hb hby dc24_31) (fun _ _ => ⟨rfl, e114, (by decide : 2 + 0 ≤ _), (by decide : 4 + 0 ≤ _)⟩)
  dsimp only [Pt.U, Pt.locs, Pt.cells, Pt.slots] at X125 l125 y125 z125 st125 hQ125
  subst l125 y125 z125
  obtain ⟨rfl, N125q, K125, d125, hd125, gd125, P125⟩ := hQ125
  have N125 := Fr.app N109 N125q
  have f126 := (f107.wr W109)
  have ne125_a1 : a1 ≠ d125 := by
    rcases hd125 with q | q
    · rw [q]; exact ne104_a1
    · exact Nat.ne_of_lt (Nat.lt_of_lt_of_le (f126).lt q)
  have ne125_b1 : b1 ≠ d125 := by
    rcases hd125 with q | q
    · rw [q]; exact ne104_b1
    · exact Nat.ne_of_lt (Nat.lt_of_lt_of_le (f115).lt q)
  have sz0125 : h0.size ≤ d125 := by
    rcases hd125 with q | q
    · rw [q]; exact sz0104
    · exact Nat.le_trans (K123).1 q
  have f127 := (f110.keep K125 (ninS ne101_a1 (ninS ne104_a1 nin0)))
  obtain ⟨T128, X128, e128, st128⟩ := gG X125 hx hZ hown (wq hw 18 rfl) rfl f127 (g := (mkF m 15 #[vR a1, vI (1 : Int32)] [(.ref a1), (.int (1 : Int32))])) rfl rfl (hb hby dc24_15)
  have f129 := (Fw109.keep K125 (ninS ne101_a1 (ninS ne104_a1 nin0)))
  obtain ⟨T130, X130, e130, st130⟩ := gG X128 hx hZ hown (wq hw 29 rfl) e128 f129 (g := (mkF m 22 #[vR a1, vI (1 : Int32)] [(.ref a1)])) rfl rfl (hb hby dc24_22)
  have f131 := (f113.keep K125 (ninS ne101_a1 (ninS ne104_a1 nin0)))
  obtain ⟨T132, X132, e132, st132⟩ := gG X130 hx hZ hown (wq hw 10 rfl) e130 f131 (g := (mkF m 26 #[vR a1, vI (1 : Int32)] [(.ref a1), (.ref b101)])) rfl rfl (hb hby dc24_26)
  have f133 := (f115.keep K125 (ninS ne101_b1 (ninS ne104_b1 nin0)))
  obtain ⟨cl134, Ar134, q134, S134, N134_, H134, G134⟩ := id f133
  have hin134 : ¬ ((1 : Int32) < 0 ∨ cl134.slots.size ≤ ((1 : Int32)).toNatClampNeg) := inb_of S134 ⟨by decide, (own_zin hz (by decide))⟩
  have hat134 : cl134.slots[((1 : Int32)).toNatClampNeg]? = some (.int t1) := H134.at hin134 rfl
  have K135 : Keep h0 T125.heap [a1] := (Keep.trans K123 K125 (allS (P := fun x => x ∈ [a1] ∨ h0.size ≤ x) (Or.inr sz101) (allS (P := fun x => x ∈ [a1] ∨ h0.size ≤ x) (Or.inr sz0104) all0)))
  have O136 : Old Z n0 T125.heap := (O124.keep K125 (allS gb101 (allS gb104 all0)))
  obtain ⟨cq137, kq137, q137a, q137b, q137c⟩ := isOf hZ e132 P125.exa
  obtain ⟨_, _, ⟨T137, L137, k137, n137⟩, -, X137, ⟨Lc137, hQ137, l137, y137, z137⟩, st137⟩ := X132.virtualBack hx (y := y_11) (z := y_11) hown (mvT hZ (wq hw 90 rfl)) (mvT hZ (wq hw 91 rfl)) (notFace_of_selects (args := #[]) (mvT hZ (wq hw 93 rfl))) (mvT hZ (wq hw 93 rfl)) (mvT hZ (wq hw 92 rfl)) (by decide) (backOf (W := 0) (rmSeL l Z a0 hw [] b101 d125 (own_s0 t0 (0 : Int64)) (own_s1 t0 (0 : Int64)) t1 T125.heap n0 O136 P125 gb101 gd125 hr1 hl1 SB) hZ (wq hw 94 rfl) (wq hw 71 rfl) (by decide) (by decide)) q137a q137c (g := (mkF m 31 #[vR a1, vI (1 : Int32)] [(.int t1), (.ref b101)])) rfl (by rw [hml]; rfl) (Steps.refl _) (argsL := [(.int t1)]) (rest := []) (lenOf pd_3 rfl) rfl (by show 2 * 0 + _ ≤ _; exact Nat.le_of_eq rfl) (hb hby dc24_31) (fun _ _ => ⟨rfl, e132, (by decide : 2 + 0 ≤ _), (by decide : 4 + 0 ≤ _)⟩)
  dsimp only [Pt.U, Pt.locs, Pt.cells, Pt.slots] at X137 l137 y137 z137 st137 hQ137
  subst l137 y137 z137
  obtain ⟨rfl, N137q, K137, d137, hd137, gd137, P137⟩ := hQ137
  have N137 := Fr.app N125 N137q
  have f138 := (f126.keep K125)
  have ne137_a1 : a1 ≠ d137 := by
    rcases hd137 with q | q
    · rw [q]; exact ne125_a1
    · exact Nat.ne_of_lt (Nat.lt_of_lt_of_le (f138).lt q)
  have ne137_b1 : b1 ≠ d137 := by
    rcases hd137 with q | q
    · rw [q]; exact ne125_b1
    · exact Nat.ne_of_lt (Nat.lt_of_lt_of_le (f133).lt q)
  have sz0137 : h0.size ≤ d137 := by
    rcases hd137 with q | q
    · rw [q]; exact sz0125
    · exact Nat.le_trans (K135).1 q
  have f139 := (f127.keep K137 (ninS ne101_a1 (ninS ne125_a1 nin0)))
  obtain ⟨T140, X140, e140, st140⟩ := gG X137 hx hZ hown (wq hw 18 rfl) rfl f139 (g := (mkF m 15 #[vR a1, vI (2 : Int32)] [(.ref a1), (.int (2 : Int32))])) rfl rfl (hb hby dc24_15)
  have f141 := (f129.keep K137 (ninS ne101_a1 (ninS ne125_a1 nin0)))
  obtain ⟨T142, X142, e142, st142⟩ := gG X140 hx hZ hown (wq hw 29 rfl) e140 f141 (g := (mkF m 22 #[vR a1, vI (2 : Int32)] [(.ref a1)])) rfl rfl (hb hby dc24_22)
  have f143 := (f131.keep K137 (ninS ne101_a1 (ninS ne125_a1 nin0)))
  obtain ⟨T144, X144, e144, st144⟩ := gG X142 hx hZ hown (wq hw 10 rfl) e142 f143 (g := (mkF m 26 #[vR a1, vI (2 : Int32)] [(.ref a1), (.ref b101)])) rfl rfl (hb hby dc24_26)
  have f145 := (f133.keep K137 (ninS ne101_b1 (ninS ne125_b1 nin0)))
  obtain ⟨cl146, Ar146, q146, S146, N146_, H146, G146⟩ := id f145
  have hin146 : ¬ ((2 : Int32) < 0 ∨ cl146.slots.size ≤ ((2 : Int32)).toNatClampNeg) := inb_of S146 ⟨by decide, (own_zin hz (by decide))⟩
  have hat146 : cl146.slots[((2 : Int32)).toNatClampNeg]? = some (.int t2) := H146.at hin146 rfl
  have K147 : Keep h0 T137.heap [a1] := (Keep.trans K135 K137 (allS (P := fun x => x ∈ [a1] ∨ h0.size ≤ x) (Or.inr sz101) (allS (P := fun x => x ∈ [a1] ∨ h0.size ≤ x) (Or.inr sz0125) all0)))
  have O148 : Old Z n0 T137.heap := (O136.keep K137 (allS gb101 (allS gd125 all0)))
  obtain ⟨cq149, kq149, q149a, q149b, q149c⟩ := isOf hZ e144 P137.exa
  obtain ⟨_, _, ⟨T149, L149, k149, n149⟩, -, X149, ⟨Lc149, hQ149, l149, y149, z149⟩, st149⟩ := X144.virtualBack hx (y := y_11) (z := y_11) hown (mvT hZ (wq hw 90 rfl)) (mvT hZ (wq hw 91 rfl)) (notFace_of_selects (args := #[]) (mvT hZ (wq hw 93 rfl))) (mvT hZ (wq hw 93 rfl)) (mvT hZ (wq hw 92 rfl)) (by decide) (backOf (W := 0) (rmSeL l Z a0 hw [] b101 d137 (own_s0 t1 (own_s0 t0 (0 : Int64))) (own_s1 t1 (own_s1 t0 (0 : Int64))) t2 T137.heap n0 O148 P137 gb101 gd137 hr2 hl2 SB) hZ (wq hw 94 rfl) (wq hw 71 rfl) (by decide) (by decide)) q149a q149c (g := (mkF m 31 #[vR a1, vI (2 : Int32)] [(.int t2), (.ref b101)])) rfl (by rw [hml]; rfl) (Steps.refl _) (argsL := [(.int t2)]) (rest := []) (lenOf pd_3 rfl) rfl (by show 2 * 0 + _ ≤ _; exact Nat.le_of_eq rfl) (hb hby dc24_31) (fun _ _ => ⟨rfl, e144, (by decide : 2 + 0 ≤ _), (by decide : 4 + 0 ≤ _)⟩)
  dsimp only [Pt.U, Pt.locs, Pt.cells, Pt.slots] at X149 l149 y149 z149 st149 hQ149
  subst l149 y149 z149
  obtain ⟨rfl, N149q, K149, d149, hd149, gd149, P149⟩ := hQ149
  have N149 := Fr.app N137 N149q
  have f150 := (f138.keep K137)
  have ne149_a1 : a1 ≠ d149 := by
    rcases hd149 with q | q
    · rw [q]; exact ne137_a1
    · exact Nat.ne_of_lt (Nat.lt_of_lt_of_le (f150).lt q)
  have ne149_b1 : b1 ≠ d149 := by
    rcases hd149 with q | q
    · rw [q]; exact ne137_b1
    · exact Nat.ne_of_lt (Nat.lt_of_lt_of_le (f145).lt q)
  have sz0149 : h0.size ≤ d149 := by
    rcases hd149 with q | q
    · rw [q]; exact sz0137
    · exact Nat.le_trans (K147).1 q
  have f151 := (f139.keep K149 (ninS ne101_a1 (ninS ne137_a1 nin0)))
  obtain ⟨T152, X152, e152, st152⟩ := gG X149 hx hZ hown (wq hw 18 rfl) rfl f151 (g := (mkF m 15 #[vR a1, vI (3 : Int32)] [(.ref a1), (.int (3 : Int32))])) rfl rfl (hb hby dc24_15)
  have f153 := (f150.keep K149)
  have f154 := (f143.keep K149 (ninS ne101_a1 (ninS ne137_a1 nin0)))
  obtain ⟨T155, h155, X155, e155, W155, st155⟩ := putF X152 hx hZ hown (host := "") (Or.inl (wq hw 10 rfl)) Via.refl e152 f154 f153 (Or.inl (wq hw 11 rfl)) (wq hw 1 rfl) (ty := (.array .int)) (by decide) rfl rfl (g := (mkF m 42 #[vR a1, vI (3 : Int32)] [.null, (.ref a1)])) rfl rfl (hb hby dc24_42)
  have Fw155 : Fld Z h155 a1 sU "numbers" "[I" .null := Fld.same W155 f154
  have N155 := Fr.snoc X155 N149 ga
  obtain ⟨fs, hr, hrun, hended, hW, hsame⟩ := X155.leave (v := none) (fun _ => rfl)
  have f156 := (P149.kp (Keep.of_wr W155) (ninS (Ne.symm ne101_a1) nin0) (ninS (Ne.symm ne149_a1) nin0))
  have f157 := (f153.wr W155)
  have f158 := ((f141.keep K149 (ninS ne101_a1 (ninS ne137_a1 nin0))).other W155 (Or.inr (slot_ne (Or.inl (wq hw 30 rfl)) (Or.inl (wq hw 11 rfl)) (by decide) (t := (.object sB)) (t' := (.array .int)) (by decide) (by decide))))
  have f159 := (f151.other W155 (Or.inr (slot_ne (Or.inl (wq hw 19 rfl)) (Or.inl (wq hw 11 rfl)) (by decide) (t := .int) (t' := (.array .int)) (by decide) (by decide))))
  have K160 : Keep h0 h155 [a1] := (Keep.wr (Keep.trans K147 K149 (allS (P := fun x => x ∈ [a1] ∨ h0.size ≤ x) (Or.inr sz101) (allS (P := fun x => x ∈ [a1] ∨ h0.size ≤ x) (Or.inr sz0137) all0))) W155 (Or.inl (List.mem_of_getElem? (i := 0) rfl)))
  refine ⟨_, _, pre0 _ ?_, hrun, hended, _, _, rfl, ?_, ⟨_, rfl⟩, hW, hsame.mono (by decide) (by decide)⟩
  · skip
    show Steps p.tables e below (s₁.setTop (mkF m 0 #[vR a1, .unset] [])) _
    refine XS.aloadN X0.here hx rfl (hb hby dc24_0) rfl rfl ?_
    refine st101 _ ?_
    refine XS.dup X101.here hx rfl (hb hby dc24_4) rfl rfl ?_
    refine st104.trans ?_
    refine st109 _ ?_
    show Steps p.tables e below (T109.setTop (mkF m 11 #[vR a1, .unset] [])) _
    refine XS.iconst X109.here hx rfl (hb hby dc24_11) ?_
    refine XS.istoreN X109.here hx rfl (hb hby dc24_12) rfl (l' := #[vR a1, vI (0 : Int32)]) rfl ?_
    refine XS.iloadN X109.here hx rfl (hb hby dc24_13) rfl ?_
    refine XS.aloadN X109.here hx rfl (hb hby dc24_14) rfl rfl ?_
    refine st111 _ ?_
    refine XS.icmpNo X111.here hx rfl (hb hby dc24_18) rfl (by decide) ?_
    refine XS.aloadN X111.here hx rfl (hb hby dc24_21) rfl rfl ?_
    refine st112 _ ?_
    refine XS.aloadN X112.here hx rfl (hb hby dc24_25) rfl rfl ?_
    refine st114 _ ?_
    refine XS.iloadN X114.here hx rfl (hb hby dc24_29) rfl ?_
    refine X114.iaload hx (j := (0 : Int32)) (v := (.int t0)) (by rw [e114]; exact Ar116.1) (State.isArrayOf_alike hZ.alike Ar116.2.1) Ar116.2.2 hin116 hat116 (g := (mkF m 30 #[vR a1, vI (0 : Int32)] [(.int (0 : Int32)), (.ref b1), (.ref b101)])) rfl rfl (hb hby dc24_30) _ ?_
    show Steps p.tables e below (T114.setTop (mkF m 31 #[vR a1, vI (0 : Int32)] [(.int t0), (.ref b101)])) _
    refine st125.trans ?_
    refine XS.iinc X125.here hx rfl (hb hby dc24_34) rfl (l' := #[vR a1, vI (1 : Int32)]) rfl ?_
    refine XS.goto X125.here hx rfl (pc0 := 37) (pc' := 13) rfl (hb hby dc24_37) (by decide) (by decide) ?_
    refine XS.iloadN X125.here hx rfl (hb hby dc24_13) rfl ?_
    refine XS.aloadN X125.here hx rfl (hb hby dc24_14) rfl rfl ?_
    refine st128 _ ?_
    refine XS.icmpNo X128.here hx rfl (hb hby dc24_18) rfl (by decide) ?_
    refine XS.aloadN X128.here hx rfl (hb hby dc24_21) rfl rfl ?_
    refine st130 _ ?_
    refine XS.aloadN X130.here hx rfl (hb hby dc24_25) rfl rfl ?_
    refine st132 _ ?_
    refine XS.iloadN X132.here hx rfl (hb hby dc24_29) rfl ?_
    show Steps p.tables e below (T132.setTop (mkF m 30 #[vR a1, vI (1 : Int32)] [(.int (1 : Int32)), (.ref b1), (.ref b101)])) _
    refine X132.iaload hx (j := (1 : Int32)) (v := (.int t1)) (by rw [e132]; exact Ar134.1) (State.isArrayOf_alike hZ.alike Ar134.2.1) Ar134.2.2 hin134 hat134 (g := (mkF m 30 #[vR a1, vI (1 : Int32)] [(.int (1 : Int32)), (.ref b1), (.ref b101)])) rfl rfl (hb hby dc24_30) _ ?_
    refine st137.trans ?_
    refine XS.iinc X137.here hx rfl (hb hby dc24_34) rfl (l' := #[vR a1, vI (2 : Int32)]) rfl ?_
    refine XS.goto X137.here hx rfl (pc0 := 37) (pc' := 13) rfl (hb hby dc24_37) (by decide) (by decide) ?_
    refine XS.iloadN X137.here hx rfl (hb hby dc24_13) rfl ?_
    refine XS.aloadN X137.here hx rfl (hb hby dc24_14) rfl rfl ?_
    refine st140 _ ?_
    refine XS.icmpNo X140.here hx rfl (hb hby dc24_18) rfl (by decide) ?_
    refine XS.aloadN X140.here hx rfl (hb hby dc24_21) rfl rfl ?_
    refine st142 _ ?_
    refine XS.aloadN X142.here hx rfl (hb hby dc24_25) rfl rfl ?_
    refine st144 _ ?_
    show Steps p.tables e below (T144.setTop (mkF m 29 #[vR a1, vI (2 : Int32)] [(.ref b1), (.ref b101)])) _
    refine XS.iloadN X144.here hx rfl (hb hby dc24_29) rfl ?_
    refine X144.iaload hx (j := (2 : Int32)) (v := (.int t2)) (by rw [e144]; exact Ar146.1) (State.isArrayOf_alike hZ.alike Ar146.2.1) Ar146.2.2 hin146 hat146 (g := (mkF m 30 #[vR a1, vI (2 : Int32)] [(.int (2 : Int32)), (.ref b1), (.ref b101)])) rfl rfl (hb hby dc24_30) _ ?_
    refine st149.trans ?_
    refine XS.iinc X149.here hx rfl (hb hby dc24_34) rfl (l' := #[vR a1, vI (3 : Int32)]) rfl ?_
    refine XS.goto X149.here hx rfl (pc0 := 37) (pc' := 13) rfl (hb hby dc24_37) (by decide) (by decide) ?_
    refine XS.iloadN X149.here hx rfl (hb hby dc24_13) rfl ?_
    refine XS.aloadN X149.here hx rfl (hb hby dc24_14) rfl rfl ?_
    refine st152 _ ?_
    refine XS.icmpYes X152.here hx rfl (pc0 := 18) (pc' := 40) rfl (hb hby dc24_18) rfl (by decide) (by decide) (by decide) ?_
    refine XS.aloadN X152.here hx rfl (hb hby dc24_40) rfl rfl ?_
    refine XS.aconstNull X152.here hx rfl (hb hby dc24_41) ?_
    refine st155 _ ?_
    show Steps p.tables e below (T155.setTop (mkF m 45 #[vR a1, vI (3 : Int32)] [])) _
    exact X155.returnOut hx Bd.returns (hb hby dc24_45) hr
  · show Q_tb3 Z a1 t0 t1 t2 h0 n0 _ T155.heap _
    rw [e155]
    exact ⟨_, _, rfl, N155, K160, sz101, sz0149, gb101, gd149, f157, Fw155, f158, f159, f156⟩
theorem rmTb4 (l : Launch) (Z : State) (a0 : Array Value) (hw : HwT a0 Z) (ws : List Jvm.Cond) (a1 b1 : Addr) (kb : ClassId) (z1 : Int32) (tl1 : List Value) (t0 t1 t2 t3 : Int32) (h0 : Heap) (n0 : Nat) (O0 : Old Z n0 h0) (Ea : Exa Z h0 a1 sU) (Fn : Fld Z h0 a1 sU "numbers" "[I" (.ref b1)) (Fb : Fld Z h0 a1 sU "bits" "Ljava/util/BitSet;" .null) (Fc : Fld Z h0 a1 sU "count" "I" (.int (4 : Int32))) (ga : n0 ≤ a1) (Vb : Arv Z h0 b1 kb .int z1 ((.int t0) :: (.int t1) :: (.int t2) :: (.int t3) :: tl1) (.int (0 : Int32))) (hz : ¬ z1 < (4 : Int32)) (neab : a1 ≠ b1) (gb : n0 ≤ b1) (hr0 : own_r t0) (hr1 : own_r t1) (hr2 : own_r t2) (hr3 : own_r t3) (SB : Sta Z Z.heap sB "$assertionsDisabled" "Z" (.int (1 : Int32))) :
    Mt l Z y_24 prog_25_method_8_code 2 none ws ({ frames := 5, cells := 6, slots := 12, locals := 75 } : Room) #[(.ref a1)] h0 (Q_tb4 Z a1 t0 t1 t2 t3 h0 n0) := by
  refine MetFree.of_bodySF (plainFor_of_name pn_0) hisR ?_
  intro p e s m args below meth c s₁ Bd hml0 hP hK
  obtain ⟨rfl, hZ, hh⟩ := hP
  have hx := Bd.exec
  have hby := Bd.bytes
  have hml : c.maxLocals = 2 := hml0
  have hown : s.vm.findClass sU = some m.cls := findClass_of_methodNamed Bd.named
  have hnm := (name_of_methodNamed Bd.named Bd.method).1
  have X0 : Stand p l e ({ frames := 5, cells := 6, slots := 12, locals := 75 } : Room) s m #[(.ref a1)] below meth c s₁ [] 0 0 := Stand.of_body Bd
  have e0 : s₁.heap = h0 := by rw [← hh, Bd.state]; rfl
  have N0 := Fr.nil n0
  have pre0 := fun t (k : Steps p.tables e below (s₁.setTop _) t) => castTop (ef_6 m a1) k
  obtain ⟨T101, h101, X101, e101, E101, A101, D101, -, st101⟩ := newO X0 hx hZ hown (wq hw 69 rfl) (wq hw 70 rfl) (wq hw 71 rfl) e0 (g := (mkF m 1 #[vR a1, .unset] [(.ref a1)])) rfl (hb hby dc24_1) (by decide) (by decide)
  obtain ⟨b101, g101⟩ : ∃ z, z = h0.size := ⟨_, rfl⟩
  rw [← g101] at A101 D101 st101
  have gb101 : n0 ≤ b101 := by rw [g101, ← O0.1]; exact O0.2.1
  have ne101_a1 : a1 ≠ b101 := by rw [g101]; exact Nat.ne_of_lt (Ea).lt
  have ne101_b1 : b1 ≠ b101 := by rw [g101]; exact Nat.ne_of_lt (Vb).lt
  have sz101 : h0.size ≤ b101 := by rw [g101]; exact ((Keep.refl h0 [a1])).1
  have F101_wordsInUse : Fld Z h101 b101 sB "wordsInUse" "I" (.int (0 : Int32)) := D101 (Or.inl (wq hw 77 rfl)) (ty := .int) (by decide)
  have F101_sizeIsSticky : Fld Z h101 b101 sB "sizeIsSticky" "Z" (.int (0 : Int32)) := D101 (Or.inl (wq hw 79 rfl)) (ty := .boolean) (by decide)
  have F101_words : Fld Z h101 b101 sB "words" "[J" .null := D101 (Or.inl (wq hw 89 rfl)) (ty := (.array .long)) (by decide)
  have K102 : Keep h0 h101 [a1] := (Keep.ext (Keep.refl h0 [a1]) E101)
  have O103 : Old Z n0 h101 := (O0.ext E101)
  obtain ⟨_, _, ⟨T104, L104, k104, n104⟩, -, X104, ⟨Lc104, hQ104, l104, y104, z104⟩, st104⟩ := X101.specialBack hx (y := y_17) rfl hown (mvT hZ (wq hw 72 rfl)) (mvT hZ (wq hw 73 rfl)) (mvT hZ (wq hw 74 rfl)) (by decide) (backOf (W := 2) (rmBi l Z a0 hw [] b101 h101 n0 O103 A101 F101_words F101_sizeIsSticky F101_wordsInUse gb101) hZ (wq hw 74 rfl) (wq hw 71 rfl) (by decide) (by decide)) (g := (mkF m 5 #[vR a1, .unset] [(.ref b101), (.ref b101), (.ref a1)])) rfl (by rw [hml]; rfl) (Steps.refl _) (a := b101) (argsL := []) (rest := [(.ref b101), (.ref a1)]) (lenOf pd_4 rfl) rfl (by show 2 * 0 + _ ≤ _; exact Nat.le_of_eq rfl) (hb hby dc24_5) (fun _ _ => ⟨rfl, e101, (by decide : 1 + 1 ≤ _), (by decide : 3 + 1 ≤ _)⟩)
  dsimp only [Pt.U, Pt.locs, Pt.cells, Pt.slots] at X104 l104 y104 z104 st104 hQ104
  subst l104 y104 z104
  obtain ⟨b104, kb104, rfl, N104q, gb104, sz104, K104, Ec104, Fw104, Fs104, Fu104, V104⟩ := hQ104
  have N104 := Fr.app N0 N104q
  have f105 := (Ea.ext E101)
  have ne104_a1 : a1 ≠ b104 := Nat.ne_of_lt (Nat.lt_of_lt_of_le (f105).lt sz104)
  have f106 := (Vb.ext E101)
  have ne104_b1 : b1 ≠ b104 := Nat.ne_of_lt (Nat.lt_of_lt_of_le (f106).lt sz104)
  have ne104_b101 : b101 ≠ b104 := Nat.ne_of_lt (Nat.lt_of_lt_of_le (A101).lt sz104)
  have sz0104 : h0.size ≤ b104 := Nat.le_trans (K102).1 sz104
  have f107 := (f105.keep K104)
  have f108 := ((Fb.ext E101).keep K104 (ninS ne101_a1 nin0))
  obtain ⟨T109, h109, X109, e109, W109, st109⟩ := putF X104 hx hZ hown (host := "") (Or.inl (wq hw 29 rfl)) Via.refl rfl f108 f107 (Or.inl (wq hw 30 rfl)) (wq hw 1 rfl) (ty := (.object sB)) (by decide) rfl rfl (g := (mkF m 8 #[vR a1, .unset] [(.ref b101), (.ref a1)])) rfl rfl (hb hby dc24_8)
  have Fw109 : Fld Z h109 a1 sU "bits" "Ljava/util/BitSet;" (.ref b101) := Fld.same W109 f108
  have N109 := Fr.snoc X109 N104 ga
  have f110 := (((Fc.ext E101).keep K104 (ninS ne101_a1 nin0)).other W109 (Or.inr (slot_ne (Or.inl (wq hw 19 rfl)) (Or.inl (wq hw 30 rfl)) (by decide) (t := .int) (t' := (.object sB)) (by decide) (by decide))))
  obtain ⟨T111, X111, e111, st111⟩ := gG X109 hx hZ hown (wq hw 18 rfl) e109 f110 (g := (mkF m 15 #[vR a1, vI (0 : Int32)] [(.ref a1), (.int (0 : Int32))])) rfl rfl (hb hby dc24_15)
  obtain ⟨T112, X112, e112, st112⟩ := gG X111 hx hZ hown (wq hw 29 rfl) e111 Fw109 (g := (mkF m 22 #[vR a1, vI (0 : Int32)] [(.ref a1)])) rfl rfl (hb hby dc24_22)
  have f113 := (((Fn.ext E101).keep K104 (ninS ne101_a1 nin0)).other W109 (Or.inr (slot_ne (Or.inl (wq hw 11 rfl)) (Or.inl (wq hw 30 rfl)) (by decide) (t := (.array .int)) (t' := (.object sB)) (by decide) (by decide))))
  obtain ⟨T114, X114, e114, st114⟩ := gG X112 hx hZ hown (wq hw 10 rfl) e112 f113 (g := (mkF m 26 #[vR a1, vI (0 : Int32)] [(.ref a1), (.ref b101)])) rfl rfl (hb hby dc24_26)
  have f115 := ((f106.keep K104 (ninS ne101_b1 nin0)).other W109 (Ne.symm neab))
  obtain ⟨cl116, Ar116, q116, S116, N116_, H116, G116⟩ := id f115
  have hin116 : ¬ ((0 : Int32) < 0 ∨ cl116.slots.size ≤ ((0 : Int32)).toNatClampNeg) := inb_of S116 ⟨by decide, (own_zin hz (by decide))⟩
  have hat116 : cl116.slots[((0 : Int32)).toNatClampNeg]? = some (.int t0) := H116.at hin116 rfl
  have f117 := (Ec104.wr W109)
  have f118 := (Fw104.other W109 (Or.inl (Ne.symm ne101_a1)))
  have f119 := (Fs104.other W109 (Or.inl (Ne.symm ne101_a1)))
  have f120 := (Fu104.other W109 (Or.inl (Ne.symm ne101_a1)))
  have f122 := (V104.other W109 (Ne.symm ne104_a1))
  have Bq121 : Bs Z h109 b101 b104 (0 : Int64) (0 : Int64) False := ⟨ne104_b101, f117, f118, f119, _, Or.inl ⟨f120, f122, rfl, rfl⟩⟩
  have K123 : Keep h0 h109 [a1] := (Keep.wr (Keep.trans K102 K104 (allS (P := fun x => x ∈ [a1] ∨ h0.size ≤ x) (Or.inr sz101) all0)) W109 (Or.inl (List.mem_of_getElem? (i := 0) rfl)))
  have O124 : Old Z n0 h109 := ((O103.keep K104 (allS gb101 all0)).wr W109 ga)
  obtain ⟨cq125, kq125, q125a, q125b, q125c⟩ := isOf hZ e114 f117
  obtain ⟨_, _, ⟨T125, L125, k125, n125⟩, -, X125, ⟨Lc125, hQ125, l125, y125, z125⟩, st125⟩ := X114.virtualBack hx (y := y_11) (z := y_11) hown (mvT hZ (wq hw 90 rfl)) (mvT hZ (wq hw 91 rfl)) (notFace_of_selects (args := #[]) (mvT hZ (wq hw 93 rfl))) (mvT hZ (wq hw 93 rfl)) (mvT hZ (wq hw 92 rfl)) (by decide) (backOf (W := 0) (rmSe l Z a0 hw [] b101 b104 (0 : Int64) (0 : Int64) t0 h109 n0 O124 Bq121 gb101 gb104 hr0 SB) hZ (wq hw 94 rfl) (wq hw 71 rfl) (by decide) (by decide)) q125a q125c (g := (mkF m 31 #[vR a1, vI (0 : Int32)] [(.int t0), (.ref b101)])) rfl (by rw [hml]; rfl) (Steps.refl _) (argsL := [(.int t0)]) (rest := []) (lenOf pd_3 rfl) rfl (by show 2 * 0 + _ ≤ _; exact Nat.le_of_eq rfl) (hb hby dc24_31) (fun _ _ => ⟨rfl, e114, (by decide : 2 + 1 ≤ _), (by decide : 4 + 2 ≤ _)⟩)
  dsimp only [Pt.U, Pt.locs, Pt.cells, Pt.slots] at X125 l125 y125 z125 st125 hQ125
  subst l125 y125 z125
  obtain ⟨rfl, N125q, K125, d125, hd125, gd125, P125⟩ := hQ125
  have N125 := Fr.app N109 N125q
  have f126 := (f107.wr W109)
  have ne125_a1 : a1 ≠ d125 := by
    rcases hd125 with q | q
    · rw [q]; exact ne104_a1
    · exact Nat.ne_of_lt (Nat.lt_of_lt_of_le (f126).lt q)
  have ne125_b1 : b1 ≠ d125 := by
    rcases hd125 with q | q
    · rw [q]; exact ne104_b1
    · exact Nat.ne_of_lt (Nat.lt_of_lt_of_le (f115).lt q)
  have sz0125 : h0.size ≤ d125 := by
    rcases hd125 with q | q
    · rw [q]; exact sz0104
    · exact Nat.le_trans (K123).1 q
  have f127 := (f110.keep K125 (ninS ne101_a1 (ninS ne104_a1 nin0)))
  obtain ⟨T128, X128, e128, st128⟩ := gG X125 hx hZ hown (wq hw 18 rfl) rfl f127 (g := (mkF m 15 #[vR a1, vI (1 : Int32)] [(.ref a1), (.int (1 : Int32))])) rfl rfl (hb hby dc24_15)
  have f129 := (Fw109.keep K125 (ninS ne101_a1 (ninS ne104_a1 nin0)))
  obtain ⟨T130, X130, e130, st130⟩ := gG X128 hx hZ hown (wq hw 29 rfl) e128 f129 (g := (mkF m 22 #[vR a1, vI (1 : Int32)] [(.ref a1)])) rfl rfl (hb hby dc24_22)
  have f131 := (f113.keep K125 (ninS ne101_a1 (ninS ne104_a1 nin0)))
  obtain ⟨T132, X132, e132, st132⟩ := gG X130 hx hZ hown (wq hw 10 rfl) e130 f131 (g := (mkF m 26 #[vR a1, vI (1 : Int32)] [(.ref a1), (.ref b101)])) rfl rfl (hb hby dc24_26)
  have f133 := (f115.keep K125 (ninS ne101_b1 (ninS ne104_b1 nin0)))
  obtain ⟨cl134, Ar134, q134, S134, N134_, H134, G134⟩ := id f133
  have hin134 : ¬ ((1 : Int32) < 0 ∨ cl134.slots.size ≤ ((1 : Int32)).toNatClampNeg) := inb_of S134 ⟨by decide, (own_zin hz (by decide))⟩
  have hat134 : cl134.slots[((1 : Int32)).toNatClampNeg]? = some (.int t1) := H134.at hin134 rfl
  have K135 : Keep h0 T125.heap [a1] := (Keep.trans K123 K125 (allS (P := fun x => x ∈ [a1] ∨ h0.size ≤ x) (Or.inr sz101) (allS (P := fun x => x ∈ [a1] ∨ h0.size ≤ x) (Or.inr sz0104) all0)))
  have O136 : Old Z n0 T125.heap := (O124.keep K125 (allS gb101 (allS gb104 all0)))
  obtain ⟨cq137, kq137, q137a, q137b, q137c⟩ := isOf hZ e132 P125.exa
  obtain ⟨_, _, ⟨T137, L137, k137, n137⟩, -, X137, ⟨Lc137, hQ137, l137, y137, z137⟩, st137⟩ := X132.virtualBack hx (y := y_11) (z := y_11) hown (mvT hZ (wq hw 90 rfl)) (mvT hZ (wq hw 91 rfl)) (notFace_of_selects (args := #[]) (mvT hZ (wq hw 93 rfl))) (mvT hZ (wq hw 93 rfl)) (mvT hZ (wq hw 92 rfl)) (by decide) (backOf (W := 0) (rmSe l Z a0 hw [] b101 d125 (own_s0 t0 (0 : Int64)) (own_s1 t0 (0 : Int64)) t1 T125.heap n0 O136 P125 gb101 gd125 hr1 SB) hZ (wq hw 94 rfl) (wq hw 71 rfl) (by decide) (by decide)) q137a q137c (g := (mkF m 31 #[vR a1, vI (1 : Int32)] [(.int t1), (.ref b101)])) rfl (by rw [hml]; rfl) (Steps.refl _) (argsL := [(.int t1)]) (rest := []) (lenOf pd_3 rfl) rfl (by show 2 * 0 + _ ≤ _; exact Nat.le_of_eq rfl) (hb hby dc24_31) (fun _ _ => ⟨rfl, e132, (by decide : 3 + 1 ≤ _), (by decide : 6 + 2 ≤ _)⟩)
  dsimp only [Pt.U, Pt.locs, Pt.cells, Pt.slots] at X137 l137 y137 z137 st137 hQ137
  subst l137 y137 z137
  obtain ⟨rfl, N137q, K137, d137, hd137, gd137, P137⟩ := hQ137
  have N137 := Fr.app N125 N137q
  have f138 := (f126.keep K125)
  have ne137_a1 : a1 ≠ d137 := by
    rcases hd137 with q | q
    · rw [q]; exact ne125_a1
    · exact Nat.ne_of_lt (Nat.lt_of_lt_of_le (f138).lt q)
  have ne137_b1 : b1 ≠ d137 := by
    rcases hd137 with q | q
    · rw [q]; exact ne125_b1
    · exact Nat.ne_of_lt (Nat.lt_of_lt_of_le (f133).lt q)
  have sz0137 : h0.size ≤ d137 := by
    rcases hd137 with q | q
    · rw [q]; exact sz0125
    · exact Nat.le_trans (K135).1 q
  have f139 := (f127.keep K137 (ninS ne101_a1 (ninS ne125_a1 nin0)))
  obtain ⟨T140, X140, e140, st140⟩ := gG X137 hx hZ hown (wq hw 18 rfl) rfl f139 (g := (mkF m 15 #[vR a1, vI (2 : Int32)] [(.ref a1), (.int (2 : Int32))])) rfl rfl (hb hby dc24_15)
  have f141 := (f129.keep K137 (ninS ne101_a1 (ninS ne125_a1 nin0)))
  obtain ⟨T142, X142, e142, st142⟩ := gG X140 hx hZ hown (wq hw 29 rfl) e140 f141 (g := (mkF m 22 #[vR a1, vI (2 : Int32)] [(.ref a1)])) rfl rfl (hb hby dc24_22)
  have f143 := (f131.keep K137 (ninS ne101_a1 (ninS ne125_a1 nin0)))
  obtain ⟨T144, X144, e144, st144⟩ := gG X142 hx hZ hown (wq hw 10 rfl) e142 f143 (g := (mkF m 26 #[vR a1, vI (2 : Int32)] [(.ref a1), (.ref b101)])) rfl rfl (hb hby dc24_26)
  have f145 := (f133.keep K137 (ninS ne101_b1 (ninS ne125_b1 nin0)))
  obtain ⟨cl146, Ar146, q146, S146, N146_, H146, G146⟩ := id f145
  have hin146 : ¬ ((2 : Int32) < 0 ∨ cl146.slots.size ≤ ((2 : Int32)).toNatClampNeg) := inb_of S146 ⟨by decide, (own_zin hz (by decide))⟩
  have hat146 : cl146.slots[((2 : Int32)).toNatClampNeg]? = some (.int t2) := H146.at hin146 rfl
  have K147 : Keep h0 T137.heap [a1] := (Keep.trans K135 K137 (allS (P := fun x => x ∈ [a1] ∨ h0.size ≤ x) (Or.inr sz101) (allS (P := fun x => x ∈ [a1] ∨ h0.size ≤ x) (Or.inr sz0125) all0)))
  have O148 : Old Z n0 T137.heap := (O136.keep K137 (allS gb101 (allS gd125 all0)))
  obtain ⟨cq149, kq149, q149a, q149b, q149c⟩ := isOf hZ e144 P137.exa
  obtain ⟨_, _, ⟨T149, L149, k149, n149⟩, -, X149, ⟨Lc149, hQ149, l149, y149, z149⟩, st149⟩ := X144.virtualBack hx (y := y_11) (z := y_11) hown (mvT hZ (wq hw 90 rfl)) (mvT hZ (wq hw 91 rfl)) (notFace_of_selects (args := #[]) (mvT hZ (wq hw 93 rfl))) (mvT hZ (wq hw 93 rfl)) (mvT hZ (wq hw 92 rfl)) (by decide) (backOf (W := 0) (rmSe l Z a0 hw [] b101 d137 (own_s0 t1 (own_s0 t0 (0 : Int64))) (own_s1 t1 (own_s1 t0 (0 : Int64))) t2 T137.heap n0 O148 P137 gb101 gd137 hr2 SB) hZ (wq hw 94 rfl) (wq hw 71 rfl) (by decide) (by decide)) q149a q149c (g := (mkF m 31 #[vR a1, vI (2 : Int32)] [(.int t2), (.ref b101)])) rfl (by rw [hml]; rfl) (Steps.refl _) (argsL := [(.int t2)]) (rest := []) (lenOf pd_3 rfl) rfl (by show 2 * 0 + _ ≤ _; exact Nat.le_of_eq rfl) (hb hby dc24_31) (fun _ _ => ⟨rfl, e144, (by decide : 4 + 1 ≤ _), (by decide : 8 + 2 ≤ _)⟩)
  dsimp only [Pt.U, Pt.locs, Pt.cells, Pt.slots] at X149 l149 y149 z149 st149 hQ149
  subst l149 y149 z149
  obtain ⟨rfl, N149q, K149, d149, hd149, gd149, P149⟩ := hQ149
  have N149 := Fr.app N137 N149q
  have f150 := (f138.keep K137)
  have ne149_a1 : a1 ≠ d149 := by
    rcases hd149 with q | q
    · rw [q]; exact ne137_a1
    · exact Nat.ne_of_lt (Nat.lt_of_lt_of_le (f150).lt q)
  have ne149_b1 : b1 ≠ d149 := by
    rcases hd149 with q | q
    · rw [q]; exact ne137_b1
    · exact Nat.ne_of_lt (Nat.lt_of_lt_of_le (f145).lt q)
  have sz0149 : h0.size ≤ d149 := by
    rcases hd149 with q | q
    · rw [q]; exact sz0137
    · exact Nat.le_trans (K147).1 q
  have f151 := (f139.keep K149 (ninS ne101_a1 (ninS ne137_a1 nin0)))
  obtain ⟨T152, X152, e152, st152⟩ := gG X149 hx hZ hown (wq hw 18 rfl) rfl f151 (g := (mkF m 15 #[vR a1, vI (3 : Int32)] [(.ref a1), (.int (3 : Int32))])) rfl rfl (hb hby dc24_15)
  have f153 := (f141.keep K149 (ninS ne101_a1 (ninS ne137_a1 nin0)))
  obtain ⟨T154, X154, e154, st154⟩ := gG X152 hx hZ hown (wq hw 29 rfl) e152 f153 (g := (mkF m 22 #[vR a1, vI (3 : Int32)] [(.ref a1)])) rfl rfl (hb hby dc24_22)
  have f155 := (f143.keep K149 (ninS ne101_a1 (ninS ne137_a1 nin0)))
  obtain ⟨T156, X156, e156, st156⟩ := gG X154 hx hZ hown (wq hw 10 rfl) e154 f155 (g := (mkF m 26 #[vR a1, vI (3 : Int32)] [(.ref a1), (.ref b101)])) rfl rfl (hb hby dc24_26)
  have f157 := (f145.keep K149 (ninS ne101_b1 (ninS ne137_b1 nin0)))
  obtain ⟨cl158, Ar158, q158, S158, N158_, H158, G158⟩ := id f157
  have hin158 : ¬ ((3 : Int32) < 0 ∨ cl158.slots.size ≤ ((3 : Int32)).toNatClampNeg) := inb_of S158 ⟨by decide, (own_zin hz (by decide))⟩
  have hat158 : cl158.slots[((3 : Int32)).toNatClampNeg]? = some (.int t3) := H158.at hin158 rfl
  have K159 : Keep h0 T149.heap [a1] := (Keep.trans K147 K149 (allS (P := fun x => x ∈ [a1] ∨ h0.size ≤ x) (Or.inr sz101) (allS (P := fun x => x ∈ [a1] ∨ h0.size ≤ x) (Or.inr sz0137) all0)))
  have O160 : Old Z n0 T149.heap := (O148.keep K149 (allS gb101 (allS gd137 all0)))
  obtain ⟨cq161, kq161, q161a, q161b, q161c⟩ := isOf hZ e156 P149.exa
  obtain ⟨_, _, ⟨T161, L161, k161, n161⟩, -, X161, ⟨Lc161, hQ161, l161, y161, z161⟩, st161⟩ := X156.virtualBack hx (y := y_11) (z := y_11) hown (mvT hZ (wq hw 90 rfl)) (mvT hZ (wq hw 91 rfl)) (notFace_of_selects (args := #[]) (mvT hZ (wq hw 93 rfl))) (mvT hZ (wq hw 93 rfl)) (mvT hZ (wq hw 92 rfl)) (by decide) (backOf (W := 0) (rmSe l Z a0 hw [] b101 d149 (own_s0 t2 (own_s0 t1 (own_s0 t0 (0 : Int64)))) (own_s1 t2 (own_s1 t1 (own_s1 t0 (0 : Int64)))) t3 T149.heap n0 O160 P149 gb101 gd149 hr3 SB) hZ (wq hw 94 rfl) (wq hw 71 rfl) (by decide) (by decide)) q161a q161c (g := (mkF m 31 #[vR a1, vI (3 : Int32)] [(.int t3), (.ref b101)])) rfl (by rw [hml]; rfl) (Steps.refl _) (argsL := [(.int t3)]) (rest := []) (lenOf pd_3 rfl) rfl (by show 2 * 0 + _ ≤ _; exact Nat.le_of_eq rfl) (hb hby dc24_31) (fun _ _ => ⟨rfl, e156, (by decide : 5 + 1 ≤ _), (by decide : 10 + 2 ≤ _)⟩)
  dsimp only [Pt.U, Pt.locs, Pt.cells, Pt.slots] at X161 l161 y161 z161 st161 hQ161
  subst l161 y161 z161
  obtain ⟨rfl, N161q, K161, d161, hd161, gd161, P161⟩ := hQ161
  have N161 := Fr.app N149 N161q
  have f162 := (f150.keep K149)
  have ne161_a1 : a1 ≠ d161 := by
    rcases hd161 with q | q
    · rw [q]; exact ne149_a1
    · exact Nat.ne_of_lt (Nat.lt_of_lt_of_le (f162).lt q)
  have ne161_b1 : b1 ≠ d161 := by
    rcases hd161 with q | q
    · rw [q]; exact ne149_b1
    · exact Nat.ne_of_lt (Nat.lt_of_lt_of_le (f157).lt q)
  have sz0161 : h0.size ≤ d161 := by
    rcases hd161 with q | q
    · rw [q]; exact sz0149
    · exact Nat.le_trans (K159).1 q
  have f163 := (f151.keep K161 (ninS ne101_a1 (ninS ne149_a1 nin0)))
  obtain ⟨T164, X164, e164, st164⟩ := gG X161 hx hZ hown (wq hw 18 rfl) rfl f163 (g := (mkF m 15 #[vR a1, vI (4 : Int32)] [(.ref a1), (.int (4 : Int32))])) rfl rfl (hb hby dc24_15)
  have f165 := (f162.keep K161)
  have f166 := (f155.keep K161 (ninS ne101_a1 (ninS ne149_a1 nin0)))
  obtain ⟨T167, h167, X167, e167, W167, st167⟩ := putF X164 hx hZ hown (host := "") (Or.inl (wq hw 10 rfl)) Via.refl e164 f166 f165 (Or.inl (wq hw 11 rfl)) (wq hw 1 rfl) (ty := (.array .int)) (by decide) rfl rfl (g := (mkF m 42 #[vR a1, vI (4 : Int32)] [.null, (.ref a1)])) rfl rfl (hb hby dc24_42)
  have Fw167 : Fld Z h167 a1 sU "numbers" "[I" .null := Fld.same W167 f166
  have N167 := Fr.snoc X167 N161 ga
  obtain ⟨fs, hr, hrun, hended, hW, hsame⟩ := X167.leave (v := none) (fun _ => rfl)
  have f168 := (P161.kp (Keep.of_wr W167) (ninS (Ne.symm ne101_a1) nin0) (ninS (Ne.symm ne161_a1) nin0))
  have f169 := (f165.wr W167)
  have f170 := ((f153.keep K161 (ninS ne101_a1 (ninS ne149_a1 nin0))).other W167 (Or.inr (slot_ne (Or.inl (wq hw 30 rfl)) (Or.inl (wq hw 11 rfl)) (by decide) (t := (.object sB)) (t' := (.array .int)) (by decide) (by decide))))
  have f171 := (f163.other W167 (Or.inr (slot_ne (Or.inl (wq hw 19 rfl)) (Or.inl (wq hw 11 rfl)) (by decide) (t := .int) (t' := (.array .int)) (by decide) (by decide))))
  have K172 : Keep h0 h167 [a1] := (Keep.wr (Keep.trans K159 K161 (allS (P := fun x => x ∈ [a1] ∨ h0.size ≤ x) (Or.inr sz101) (allS (P := fun x => x ∈ [a1] ∨ h0.size ≤ x) (Or.inr sz0149) all0))) W167 (Or.inl (List.mem_of_getElem? (i := 0) rfl)))
  refine ⟨_, _, pre0 _ ?_, hrun, hended, _, _, rfl, ?_, ⟨_, rfl⟩, hW, hsame.mono (by decide) (by decide)⟩
  · skip
    show Steps p.tables e below (s₁.setTop (mkF m 0 #[vR a1, .unset] [])) _
    refine XS.aloadN X0.here hx rfl (hb hby dc24_0) rfl rfl ?_
    refine st101 _ ?_
    refine XS.dup X101.here hx rfl (hb hby dc24_4) rfl rfl ?_
    refine st104.trans ?_
    show Steps p.tables e below (T104.setTop (mkF m 8 #[vR a1, .unset] [(.ref b101), (.ref a1)])) _
    refine st109 _ ?_
    refine XS.iconst X109.here hx rfl (hb hby dc24_11) ?_
    refine XS.istoreN X109.here hx rfl (hb hby dc24_12) rfl (l' := #[vR a1, vI (0 : Int32)]) rfl ?_
    refine XS.iloadN X109.here hx rfl (hb hby dc24_13) rfl ?_
    refine XS.aloadN X109.here hx rfl (hb hby dc24_14) rfl rfl ?_
    refine st111 _ ?_
    refine XS.icmpNo X111.here hx rfl (hb hby dc24_18) rfl (by decide) ?_
    refine XS.aloadN X111.here hx rfl (hb hby dc24_21) rfl rfl ?_
    refine st112 _ ?_
    refine XS.aloadN X112.here hx rfl (hb hby dc24_25) rfl rfl ?_
    refine st114 _ ?_
    refine XS.iloadN X114.here hx rfl (hb hby dc24_29) rfl ?_
    show Steps p.tables e below (T114.setTop (mkF m 30 #[vR a1, vI (0 : Int32)] [(.int (0 : Int32)), (.ref b1), (.ref b101)])) _
    refine X114.iaload hx (j := (0 : Int32)) (v := (.int t0)) (by rw [e114]; exact Ar116.1) (State.isArrayOf_alike hZ.alike Ar116.2.1) Ar116.2.2 hin116 hat116 (g := (mkF m 30 #[vR a1, vI (0 : Int32)] [(.int (0 : Int32)), (.ref b1), (.ref b101)])) rfl rfl (hb hby dc24_30) _ ?_
    refine st125.trans ?_
    refine XS.iinc X125.here hx rfl (hb hby dc24_34) rfl (l' := #[vR a1, vI (1 : Int32)]) rfl ?_
    refine XS.goto X125.here hx rfl (pc0 := 37) (pc' := 13) rfl (hb hby dc24_37) (by decide) (by decide) ?_
    refine XS.iloadN X125.here hx rfl (hb hby dc24_13) rfl ?_
    refine XS.aloadN X125.here hx rfl (hb hby dc24_14) rfl rfl ?_
    refine st128 _ ?_
    refine XS.icmpNo X128.here hx rfl (hb hby dc24_18) rfl (by decide) ?_
    refine XS.aloadN X128.here hx rfl (hb hby dc24_21) rfl rfl ?_
    refine st130 _ ?_
    refine XS.aloadN X130.here hx rfl (hb hby dc24_25) rfl rfl ?_
    refine st132 _ ?_
    show Steps p.tables e below (T132.setTop (mkF m 29 #[vR a1, vI (1 : Int32)] [(.ref b1), (.ref b101)])) _
    refine XS.iloadN X132.here hx rfl (hb hby dc24_29) rfl ?_
    refine X132.iaload hx (j := (1 : Int32)) (v := (.int t1)) (by rw [e132]; exact Ar134.1) (State.isArrayOf_alike hZ.alike Ar134.2.1) Ar134.2.2 hin134 hat134 (g := (mkF m 30 #[vR a1, vI (1 : Int32)] [(.int (1 : Int32)), (.ref b1), (.ref b101)])) rfl rfl (hb hby dc24_30) _ ?_
    refine st137.trans ?_
    refine XS.iinc X137.here hx rfl (hb hby dc24_34) rfl (l' := #[vR a1, vI (2 : Int32)]) rfl ?_
    refine XS.goto X137.here hx rfl (pc0 := 37) (pc' := 13) rfl (hb hby dc24_37) (by decide) (by decide) ?_
    refine XS.iloadN X137.here hx rfl (hb hby dc24_13) rfl ?_
    refine XS.aloadN X137.here hx rfl (hb hby dc24_14) rfl rfl ?_
    refine st140 _ ?_
    refine XS.icmpNo X140.here hx rfl (hb hby dc24_18) rfl (by decide) ?_
    refine XS.aloadN X140.here hx rfl (hb hby dc24_21) rfl rfl ?_
    refine st142 _ ?_
    refine XS.aloadN X142.here hx rfl (hb hby dc24_25) rfl rfl ?_
    show Steps p.tables e below (T142.setTop (mkF m 26 #[vR a1, vI (2 : Int32)] [(.ref a1), (.ref b101)])) _
    refine st144 _ ?_
    refine XS.iloadN X144.here hx rfl (hb hby dc24_29) rfl ?_
    refine X144.iaload hx (j := (2 : Int32)) (v := (.int t2)) (by rw [e144]; exact Ar146.1) (State.isArrayOf_alike hZ.alike Ar146.2.1) Ar146.2.2 hin146 hat146 (g := (mkF m 30 #[vR a1, vI (2 : Int32)] [(.int (2 : Int32)), (.ref b1), (.ref b101)])) rfl rfl (hb hby dc24_30) _ ?_
    refine st149.trans ?_
    refine XS.iinc X149.here hx rfl (hb hby dc24_34) rfl (l' := #[vR a1, vI (3 : Int32)]) rfl ?_
    refine XS.goto X149.here hx rfl (pc0 := 37) (pc' := 13) rfl (hb hby dc24_37) (by decide) (by decide) ?_
    refine XS.iloadN X149.here hx rfl (hb hby dc24_13) rfl ?_
    refine XS.aloadN X149.here hx rfl (hb hby dc24_14) rfl rfl ?_
    refine st152 _ ?_
    refine XS.icmpNo X152.here hx rfl (hb hby dc24_18) rfl (by decide) ?_
    refine XS.aloadN X152.here hx rfl (hb hby dc24_21) rfl rfl ?_
    refine st154 _ ?_
    show Steps p.tables e below (T154.setTop (mkF m 25 #[vR a1, vI (3 : Int32)] [(.ref b101)])) _
    refine XS.aloadN X154.here hx rfl (hb hby dc24_25) rfl rfl ?_
    refine st156 _ ?_
    refine XS.iloadN X156.here hx rfl (hb hby dc24_29) rfl ?_
    refine X156.iaload hx (j := (3 : Int32)) (v := (.int t3)) (by rw [e156]; exact Ar158.1) (State.isArrayOf_alike hZ.alike Ar158.2.1) Ar158.2.2 hin158 hat158 (g := (mkF m 30 #[vR a1, vI (3 : Int32)] [(.int (3 : Int32)), (.ref b1), (.ref b101)])) rfl rfl (hb hby dc24_30) _ ?_
    refine st161.trans ?_
    refine XS.iinc X161.here hx rfl (hb hby dc24_34) rfl (l' := #[vR a1, vI (4 : Int32)]) rfl ?_
    refine XS.goto X161.here hx rfl (pc0 := 37) (pc' := 13) rfl (hb hby dc24_37) (by decide) (by decide) ?_
    refine XS.iloadN X161.here hx rfl (hb hby dc24_13) rfl ?_
    refine XS.aloadN X161.here hx rfl (hb hby dc24_14) rfl rfl ?_
    refine st164 _ ?_
    refine XS.icmpYes X164.here hx rfl (pc0 := 18) (pc' := 40) rfl (hb hby dc24_18) rfl (by decide) (by decide) (by decide) ?_
    refine XS.aloadN X164.here hx rfl (hb hby dc24_40) rfl rfl ?_
    show Steps p.tables e below (T164.setTop (mkF m 41 #[vR a1, vI (4 : Int32)] [(.ref a1)])) _
    refine XS.aconstNull X164.here hx rfl (hb hby dc24_41) ?_
    refine st167 _ ?_
    exact X167.returnOut hx Bd.returns (hb hby dc24_45) hr
  · show Q_tb4 Z a1 t0 t1 t2 t3 h0 n0 _ T167.heap _
    rw [e167]
    exact ⟨_, _, rfl, N167, K172, sz101, sz0161, gb101, gd161, f169, Fw167, f170, f171, f168⟩
def Q_ab (Z : State) (a1 c1 d1 : Addr) (c2 u1 : Int32) (m0 m1 : Int64) (h0 : Heap) (n0 : Nat) (v : Option Value) (h : Heap) (L : List Loc) : Prop := v = none ∧ Fr n0 L ∧ Keep h0 h [a1, c1, d1] ∧ Exa Z h a1 sU ∧ Fld Z h a1 sU "numbers" "[I" .null ∧ Fld Z h a1 sU "bits" "Ljava/util/BitSet;" (.ref c1) ∧ ∃ d2 : Addr, (d2 = d1 ∨ h0.size ≤ d2) ∧ n0 ≤ d2 ∧ ((own_in u1 m0 m1 ∧ Fld Z h a1 sU "count" "I" (.int c2) ∧ Bs Z h c1 d2 m0 m1 False) ∨ (¬ own_in u1 m0 m1 ∧ Fld Z h a1 sU "count" "I" (.int (c2 + (1 : Int32))) ∧ Bs Z h c1 d2 (own_s0 u1 m0) (own_s1 u1 m1) False))
def Q_rb (Z : State) (a1 c1 d1 : Addr) (c2 u1 : Int32) (m0 m1 : Int64) (h0 : Heap) (n0 : Nat) (v : Option Value) (h : Heap) (L : List Loc) : Prop := v = none ∧ Fr n0 L ∧ Keep h0 h [a1, c1, d1] ∧ Exa Z h a1 sU ∧ Fld Z h a1 sU "numbers" "[I" .null ∧ Fld Z h a1 sU "bits" "Ljava/util/BitSet;" (.ref c1) ∧ ∃ d2 : Addr, (d2 = d1 ∨ h0.size ≤ d2) ∧ n0 ≤ d2 ∧ ((¬ own_in u1 m0 m1 ∧ Fld Z h a1 sU "count" "I" (.int c2) ∧ Bs Z h c1 d2 m0 m1 False) ∨ (own_in u1 m0 m1 ∧ Fld Z h a1 sU "count" "I" (.int (c2 - (1 : Int32))) ∧ Bs Z h c1 d2 (own_c0 u1 m0) (own_c1 u1 m1) (¬ u1 < (64 : Int32))))
abbrev y_25 : MethodName := (⟨"com/example/corral/corral/ownership/Units", "add", "(I)V"⟩ : MethodName)
theorem ef_11 (m : MethodId) (x0 : Addr) (x1 : Int32) : entryFrame m #[(.ref x0), (.int x1)] 5 = mkF m 0 #[.val (.ref x0), .val (.int x1), .unset, .unset, .unset] [] := by first | (simp [entryFrame, mkF, argsToLocals, Value.category]; done) | rfl
abbrev C25 := prog_25_method_5_code
theorem dc25_0 : decode C25 0 = .ok (.aload_n 0, 1) := by decide +kernel
theorem dc25_1 : decode C25 1 = .ok (.getfield 19, 3) := by decide +kernel
theorem dc25_4 : decode C25 4 = .ok (.ifnull 33, 3) := by decide +kernel
theorem dc25_7 : decode C25 7 = .ok (.aload_n 0, 1) := by decide +kernel
theorem dc25_8 : decode C25 8 = .ok (.getfield 19, 3) := by decide +kernel
theorem dc25_11 : decode C25 11 = .ok (.iload_n 1, 1) := by decide +kernel
theorem dc25_12 : decode C25 12 = .ok (.invokevirtual 32, 3) := by decide +kernel
theorem pd_8 : parseMethodDescriptor "(I)Z" = some ⟨[.int], some .boolean⟩ := by decide +kernel
theorem dc25_15 : decode C25 15 = .ok (.ifCond .ne 21, 3) := by decide +kernel
theorem dc25_36 : decode C25 36 = .ok (.return_, 1) := by decide +kernel
theorem dc25_18 : decode C25 18 = .ok (.aload_n 0, 1) := by decide +kernel
theorem dc25_19 : decode C25 19 = .ok (.getfield 19, 3) := by decide +kernel
theorem dc25_22 : decode C25 22 = .ok (.iload_n 1, 1) := by decide +kernel
theorem dc25_23 : decode C25 23 = .ok (.invokevirtual 36, 3) := by decide +kernel
theorem dc25_26 : decode C25 26 = .ok (.aload_n 0, 1) := by decide +kernel
theorem dc25_27 : decode C25 27 = .ok (.dup, 1) := by decide +kernel
theorem dc25_28 : decode C25 28 = .ok (.getfield 15, 3) := by decide +kernel
theorem dc25_31 : decode C25 31 = .ok (.iconst 1, 1) := by decide +kernel
theorem dc25_32 : decode C25 32 = .ok (.iadd, 1) := by decide +kernel
theorem dc25_33 : decode C25 33 = .ok (.putfield 15, 3) := by decide +kernel
theorem rmAb (l : Launch) (Z : State) (a0 : Array Value) (hw : HwT a0 Z) (ws : List Jvm.Cond) (a1 c1 d1 : Addr) (c2 u1 : Int32) (m0 m1 : Int64) (h0 : Heap) (n0 : Nat) (O0 : Old Z n0 h0) (Ea : Exa Z h0 a1 sU) (Fn : Fld Z h0 a1 sU "numbers" "[I" .null) (Fb : Fld Z h0 a1 sU "bits" "Ljava/util/BitSet;" (.ref c1)) (Fc : Fld Z h0 a1 sU "count" "I" (.int c2)) (ga : n0 ≤ a1) (F1 : Bs Z h0 c1 d1 m0 m1 False) (hA : ¬ (m0 = (0 : Int64) ∧ m1 = (0 : Int64))) (gc : n0 ≤ c1) (gd : n0 ≤ d1) (neac : a1 ≠ c1) (nead : a1 ≠ d1) (hu : own_r u1) (SB : Sta Z Z.heap sB "$assertionsDisabled" "Z" (.int (1 : Int32))) :
    Mt l Z y_25 prog_25_method_5_code 5 none ws ({ frames := 5, cells := 1, slots := 2, locals := 75 } : Room) #[(.ref a1), (.int u1)] h0 (Q_ab Z a1 c1 d1 c2 u1 m0 m1 h0 n0) := by
  refine MetFree.of_bodySF (plainFor_of_name pn_0) hisR ?_
  intro p e s m args below meth c s₁ Bd hml0 hP hK
  obtain ⟨rfl, hZ, hh⟩ := hP
  have hx := Bd.exec
  have hby := Bd.bytes
  have hml : c.maxLocals = 5 := hml0
  have hown : s.vm.findClass sU = some m.cls := findClass_of_methodNamed Bd.named
  have hnm := (name_of_methodNamed Bd.named Bd.method).1
  have X0 : Stand p l e ({ frames := 5, cells := 1, slots := 2, locals := 75 } : Room) s m #[(.ref a1), (.int u1)] below meth c s₁ [] 0 0 := Stand.of_body Bd
  have e0 : s₁.heap = h0 := by rw [← hh, Bd.state]; rfl
  have N0 := Fr.nil n0
  have pre0 := fun t (k : Steps p.tables e below (s₁.setTop _) t) => castTop (ef_11 m a1 u1) k
  obtain ⟨T101, X101, e101, st101⟩ := gG X0 hx hZ hown (wq hw 29 rfl) e0 Fb (g := (mkF m 1 #[vR a1, vI u1, .unset, .unset, .unset] [(.ref a1)])) rfl rfl (hb hby dc25_1)
  obtain ⟨T102, X102, e102, st102⟩ := gG X101 hx hZ hown (wq hw 29 rfl) e101 Fb (g := (mkF m 8 #[vR a1, vI u1, .unset, .unset, .unset] [(.ref a1)])) rfl rfl (hb hby dc25_8)
  obtain ⟨cq103, kq103, q103a, q103b, q103c⟩ := isOf hZ e102 F1.exa
  obtain ⟨_, _, ⟨T103, L103, k103, n103⟩, -, X103, ⟨Lc103, hQ103, l103, y103, z103⟩, st103⟩ := X102.virtualBack hx (y := y_12) (z := y_12) hown (mvT hZ (wq hw 112 rfl)) (mvT hZ (wq hw 113 rfl)) (notFace_of_selects (args := #[]) (mvT hZ (wq hw 115 rfl))) (mvT hZ (wq hw 115 rfl)) (mvT hZ (wq hw 114 rfl)) (by decide) (backOf (W := 0) (rmGe l Z a0 hw [] c1 d1 m0 m1 u1 h0 n0 O0 F1 gc gd hA hu SB) hZ (wq hw 116 rfl) (wq hw 71 rfl) (by decide) (by decide)) q103a q103c (g := (mkF m 12 #[vR a1, vI u1, .unset, .unset, .unset] [(.int u1), (.ref c1)])) rfl (by rw [hml]; rfl) (Steps.refl _) (argsL := [(.int u1)]) (rest := []) (lenOf pd_8 rfl) rfl (by show 2 * 0 + _ ≤ _; exact Nat.le_of_eq rfl) (hb hby dc25_12) (fun _ _ => ⟨rfl, e102, (by decide : 0 + 0 ≤ _), (by decide : 0 + 0 ≤ _)⟩)
  dsimp only [Pt.U, Pt.locs, Pt.cells, Pt.slots] at X103 l103 y103 z103 st103 hQ103
  subst l103 y103 z103
  obtain ⟨r103, rfl, N103q, hh103, R103⟩ := hQ103
  have N103 := Fr.app N0 N103q
  have pre104 : ∀ t, Steps p.tables e below (T103.setTop (mkF m 15 #[vR a1, vI u1, .unset, .unset, .unset] [(.int r103)])) t → Steps p.tables e below (s₁.setTop (entryFrame m #[(.ref a1), (.int u1)] 5)) t := fun t kt => pre0 t (by
      show Steps p.tables e below (s₁.setTop (mkF m 0 #[vR a1, vI u1, .unset, .unset, .unset] [])) _
      refine XS.aloadN X0.here hx rfl (hb hby dc25_0) rfl rfl ?_
      refine st101 _ ?_
      refine XS.ifnullNo X101.here hx rfl (hb hby dc25_4) rfl ?_
      refine XS.aloadN X101.here hx rfl (hb hby dc25_7) rfl rfl ?_
      refine st102 _ ?_
      refine XS.iloadN X102.here hx rfl (hb hby dc25_11) rfl ?_
      refine st103.trans ?_
      exact kt)
  rcases R103 with ⟨hk105, hk105i⟩ | ⟨hk105, hk105i⟩
  · skip
    obtain ⟨fs, hr, hrun, hended, hW, hsame⟩ := X103.leave (v := none) (fun _ => rfl)
    refine ⟨_, _, pre104 _ ?_, hrun, hended, _, _, rfl, ?_, ⟨_, rfl⟩, hW, hsame.mono (by decide) (by decide)⟩
    · skip
      show Steps p.tables e below (T103.setTop (mkF m 15 #[vR a1, vI u1, .unset, .unset, .unset] [(.int r103)])) _
      rw [hk105]
      refine XS.ifYes X103.here hx rfl (pc0 := 15) (pc' := 36) rfl (hb hby dc25_15) rfl (by decide) (by decide) (by decide) ?_
      exact X103.returnOut hx Bd.returns (hb hby dc25_36) hr
    · show Q_ab Z a1 c1 d1 c2 u1 m0 m1 h0 n0 _ T103.heap _
      rw [hh103]
      exact ⟨rfl, N103, (Keep.refl h0 [a1, c1, d1]), Ea, Fn, Fb, d1, Or.inl rfl, gd, Or.inl ⟨hk105i, Fc, F1⟩⟩
  · skip
    obtain ⟨T106, X106, e106, st106⟩ := gG X103 hx hZ hown (wq hw 29 rfl) hh103 Fb (g := (mkF m 19 #[vR a1, vI u1, .unset, .unset, .unset] [(.ref a1)])) rfl rfl (hb hby dc25_19)
    obtain ⟨cq107, kq107, q107a, q107b, q107c⟩ := isOf hZ e106 F1.exa
    obtain ⟨_, _, ⟨T107, L107, k107, n107⟩, -, X107, ⟨Lc107, hQ107, l107, y107, z107⟩, st107⟩ := X106.virtualBack hx (y := y_11) (z := y_11) hown (mvT hZ (wq hw 90 rfl)) (mvT hZ (wq hw 91 rfl)) (notFace_of_selects (args := #[]) (mvT hZ (wq hw 93 rfl))) (mvT hZ (wq hw 93 rfl)) (mvT hZ (wq hw 92 rfl)) (by decide) (backOf (W := 0) (rmSe l Z a0 hw [] c1 d1 m0 m1 u1 h0 n0 O0 F1 gc gd hu SB) hZ (wq hw 94 rfl) (wq hw 71 rfl) (by decide) (by decide)) q107a q107c (g := (mkF m 23 #[vR a1, vI u1, .unset, .unset, .unset] [(.int u1), (.ref c1)])) rfl (by rw [hml]; rfl) (Steps.refl _) (argsL := [(.int u1)]) (rest := []) (lenOf pd_3 rfl) rfl (by show 2 * 0 + _ ≤ _; exact Nat.le_of_eq rfl) (hb hby dc25_23) (fun _ _ => ⟨rfl, e106, (by decide : 0 + 1 ≤ _), (by decide : 0 + 2 ≤ _)⟩)
    dsimp only [Pt.U, Pt.locs, Pt.cells, Pt.slots] at X107 l107 y107 z107 st107 hQ107
    subst l107 y107 z107
    obtain ⟨rfl, N107q, K107, d107, hd107, gd107, P107⟩ := hQ107
    have N107 := Fr.app N103 N107q
    have ne107_a1 : a1 ≠ d107 := by
      rcases hd107 with q | q
      · rw [q]; exact nead
      · exact Nat.ne_of_lt (Nat.lt_of_lt_of_le (Ea).lt q)
    have f108 := (Fc.keep K107 (ninS neac (ninS nead nin0)))
    obtain ⟨T109, X109, e109, st109⟩ := gG X107 hx hZ hown (wq hw 18 rfl) rfl f108 (g := (mkF m 28 #[vR a1, vI u1, .unset, .unset, .unset] [(.ref a1), (.ref a1)])) rfl rfl (hb hby dc25_28)
    have f110 := (Ea.keep K107)
    obtain ⟨T111, h111, X111, e111, W111, st111⟩ := putF X109 hx hZ hown (host := "") (Or.inl (wq hw 18 rfl)) Via.refl e109 f108 f110 (Or.inl (wq hw 19 rfl)) (wq hw 1 rfl) (ty := .int) (by decide) rfl rfl (g := (mkF m 33 #[vR a1, vI u1, .unset, .unset, .unset] [(.int (c2 + (1 : Int32))), (.ref a1)])) rfl rfl (hb hby dc25_33)
    have Fw111 : Fld Z h111 a1 sU "count" "I" (.int (c2 + (1 : Int32))) := Fld.same W111 f108
    have N111 := Fr.snoc X111 N107 ga
    obtain ⟨fs, hr, hrun, hended, hW, hsame⟩ := X111.leave (v := none) (fun _ => rfl)
    have f112 := (f110.wr W111)
    have f113 := ((Fn.keep K107 (ninS neac (ninS nead nin0))).other W111 (Or.inr (slot_ne (Or.inl (wq hw 11 rfl)) (Or.inl (wq hw 19 rfl)) (by decide) (t := (.array .int)) (t' := .int) (by decide) (by decide))))
    have f114 := ((Fb.keep K107 (ninS neac (ninS nead nin0))).other W111 (Or.inr (slot_ne (Or.inl (wq hw 30 rfl)) (Or.inl (wq hw 19 rfl)) (by decide) (t := (.object sB)) (t' := .int) (by decide) (by decide))))
    have f115 := (P107.kp (Keep.of_wr W111) (ninS (Ne.symm neac) nin0) (ninS (Ne.symm ne107_a1) nin0))
    have K116 : Keep h0 h111 [a1, c1, d1] := (Keep.wr (Keep.trans (Keep.refl h0 [a1, c1, d1]) K107 (allS (P := fun x => x ∈ [a1, c1, d1] ∨ h0.size ≤ x) (Or.inl (List.mem_of_getElem? (i := 1) rfl)) (allS (P := fun x => x ∈ [a1, c1, d1] ∨ h0.size ≤ x) (Or.inl (List.mem_of_getElem? (i := 2) rfl)) all0))) W111 (Or.inl (List.mem_of_getElem? (i := 0) rfl)))
    refine ⟨_, _, pre104 _ ?_, hrun, hended, _, _, rfl, ?_, ⟨_, rfl⟩, hW, hsame.mono (by decide) (by decide)⟩
    · skip
      show Steps p.tables e below (T103.setTop (mkF m 15 #[vR a1, vI u1, .unset, .unset, .unset] [(.int r103)])) _
      rw [hk105]
      refine XS.ifNo X103.here hx rfl (hb hby dc25_15) rfl (by decide) ?_
      show Steps p.tables e below (T103.setTop (mkF m 18 #[vR a1, vI u1, .unset, .unset, .unset] [])) _
      refine XS.aloadN X103.here hx rfl (hb hby dc25_18) rfl rfl ?_
      refine st106 _ ?_
      refine XS.iloadN X106.here hx rfl (hb hby dc25_22) rfl ?_
      refine st107.trans ?_
      refine XS.aloadN X107.here hx rfl (hb hby dc25_26) rfl rfl ?_
      refine XS.dup X107.here hx rfl (hb hby dc25_27) rfl rfl ?_
      refine st109 _ ?_
      refine XS.iconst X109.here hx rfl (hb hby dc25_31) ?_
      refine XS.iadd X109.here hx rfl (hb hby dc25_32) rfl ?_
      refine st111 _ ?_
      exact X111.returnOut hx Bd.returns (hb hby dc25_36) hr
    · show Q_ab Z a1 c1 d1 c2 u1 m0 m1 h0 n0 _ T111.heap _
      rw [e111]
      exact ⟨rfl, N111, K116, f112, f113, f114, d107, hd107, gd107, Or.inr ⟨hk105i, Fw111, f115⟩⟩
abbrev y_26 : MethodName := (⟨"com/example/corral/corral/ownership/Units", "remove", "(I)V"⟩ : MethodName)
abbrev C26 := prog_25_method_6_code
theorem dc26_0 : decode C26 0 = .ok (.aload_n 0, 1) := by decide +kernel
theorem dc26_1 : decode C26 1 = .ok (.getfield 19, 3) := by decide +kernel
theorem dc26_4 : decode C26 4 = .ok (.ifnull 60, 3) := by decide +kernel
theorem dc26_7 : decode C26 7 = .ok (.aload_n 0, 1) := by decide +kernel
theorem dc26_8 : decode C26 8 = .ok (.getfield 19, 3) := by decide +kernel
theorem dc26_11 : decode C26 11 = .ok (.iload_n 1, 1) := by decide +kernel
theorem dc26_12 : decode C26 12 = .ok (.invokevirtual 32, 3) := by decide +kernel
theorem dc26_15 : decode C26 15 = .ok (.ifCond .eq 48, 3) := by decide +kernel
theorem dc26_18 : decode C26 18 = .ok (.aload_n 0, 1) := by decide +kernel
theorem dc26_19 : decode C26 19 = .ok (.getfield 19, 3) := by decide +kernel
theorem dc26_22 : decode C26 22 = .ok (.iload_n 1, 1) := by decide +kernel
theorem dc26_23 : decode C26 23 = .ok (.invokevirtual 68, 3) := by decide +kernel
theorem dc26_26 : decode C26 26 = .ok (.aload_n 0, 1) := by decide +kernel
theorem dc26_27 : decode C26 27 = .ok (.dup, 1) := by decide +kernel
theorem dc26_28 : decode C26 28 = .ok (.getfield 15, 3) := by decide +kernel
theorem dc26_31 : decode C26 31 = .ok (.iconst 1, 1) := by decide +kernel
theorem dc26_32 : decode C26 32 = .ok (.isub, 1) := by decide +kernel
theorem dc26_33 : decode C26 33 = .ok (.putfield 15, 3) := by decide +kernel
theorem dc26_36 : decode C26 36 = .ok (.iconst 4, 1) := by decide +kernel
theorem dc26_37 : decode C26 37 = .ok (.aload_n 0, 1) := by decide +kernel
theorem dc26_38 : decode C26 38 = .ok (.getfield 15, 3) := by decide +kernel
theorem dc26_41 : decode C26 41 = .ok (.imul, 1) := by decide +kernel
theorem dc26_42 : decode C26 42 = .ok (.iconst 4, 1) := by decide +kernel
theorem dc26_43 : decode C26 43 = .ok (.imul, 1) := by decide +kernel
theorem dc26_44 : decode C26 44 = .ok (.i2l, 1) := by decide +kernel
theorem dc26_45 : decode C26 45 = .ok (.aload_n 0, 1) := by decide +kernel
theorem dc26_46 : decode C26 46 = .ok (.getfield 19, 3) := by decide +kernel
theorem dc26_49 : decode C26 49 = .ok (.invokevirtual 71, 3) := by decide +kernel
theorem pd_9 : parseMethodDescriptor "()I" = some ⟨[], some .int⟩ := by decide +kernel
theorem dc26_52 : decode C26 52 = .ok (.invokestatic 46, 3) := by decide +kernel
theorem pd_10 : parseMethodDescriptor "(I)J" = some ⟨[.int], some .long⟩ := by decide +kernel
theorem dc26_55 : decode C26 55 = .ok (.lcmp, 1) := by decide +kernel
theorem dc26_56 : decode C26 56 = .ok (.ifCond .ge 7, 3) := by decide +kernel
theorem dc26_63 : decode C26 63 = .ok (.return_, 1) := by decide +kernel
theorem rmRb (l : Launch) (Z : State) (a0 : Array Value) (hw : HwT a0 Z) (ws : List Jvm.Cond) (a1 c1 d1 : Addr) (c2 u1 : Int32) (m0 m1 : Int64) (h0 : Heap) (n0 : Nat) (O0 : Old Z n0 h0) (Ea : Exa Z h0 a1 sU) (Fn : Fld Z h0 a1 sU "numbers" "[I" .null) (Fb : Fld Z h0 a1 sU "bits" "Ljava/util/BitSet;" (.ref c1)) (Fc : Fld Z h0 a1 sU "count" "I" (.int c2)) (ga : n0 ≤ a1) (F1 : Bs Z h0 c1 d1 m0 m1 False) (hA : ¬ (m0 = (0 : Int64) ∧ m1 = (0 : Int64))) (gc : n0 ≤ c1) (gd : n0 ≤ d1) (neac : a1 ≠ c1) (nead : a1 ≠ d1) (hu : own_r u1) (hne : own_in u1 m0 m1 → ¬ (own_c0 u1 m0 = (0 : Int64) ∧ own_c1 u1 m1 = (0 : Int64))) (hcmp : own_in u1 m0 m1 → ∀ r : Int32, 0 ≤ r.toInt → r.toInt ≤ 128 → (own_c1 u1 m1 = 0 → r.toInt ≤ 64) → ¬ ((((4 : Int32) * (c2 - (1 : Int32))) * (4 : Int32)).toInt64) < (own_bb r)) (SB : Sta Z Z.heap sB "$assertionsDisabled" "Z" (.int (1 : Int32))) :
    Mt l Z y_26 prog_25_method_6_code 3 none ws ({ frames := 3, cells := 0, slots := 0, locals := 44 } : Room) #[(.ref a1), (.int u1)] h0 (Q_rb Z a1 c1 d1 c2 u1 m0 m1 h0 n0) := by
  refine MetFree.of_bodySF (plainFor_of_name pn_0) hisR ?_
  intro p e s m args below meth c s₁ Bd hml0 hP hK
  obtain ⟨rfl, hZ, hh⟩ := hP
  have hx := Bd.exec
  have hby := Bd.bytes
  have hml : c.maxLocals = 3 := hml0
  have hown : s.vm.findClass sU = some m.cls := findClass_of_methodNamed Bd.named
  have hnm := (name_of_methodNamed Bd.named Bd.method).1
  have X0 : Stand p l e ({ frames := 3, cells := 0, slots := 0, locals := 44 } : Room) s m #[(.ref a1), (.int u1)] below meth c s₁ [] 0 0 := Stand.of_body Bd
  have e0 : s₁.heap = h0 := by rw [← hh, Bd.state]; rfl
  have N0 := Fr.nil n0
  have pre0 := fun t (k : Steps p.tables e below (s₁.setTop _) t) => castTop (ef_5 m a1 u1) k
  obtain ⟨T101, X101, e101, st101⟩ := gG X0 hx hZ hown (wq hw 29 rfl) e0 Fb (g := (mkF m 1 #[vR a1, vI u1, .unset] [(.ref a1)])) rfl rfl (hb hby dc26_1)
  obtain ⟨T102, X102, e102, st102⟩ := gG X101 hx hZ hown (wq hw 29 rfl) e101 Fb (g := (mkF m 8 #[vR a1, vI u1, .unset] [(.ref a1)])) rfl rfl (hb hby dc26_8)
  obtain ⟨cq103, kq103, q103a, q103b, q103c⟩ := isOf hZ e102 F1.exa
  obtain ⟨_, _, ⟨T103, L103, k103, n103⟩, -, X103, ⟨Lc103, hQ103, l103, y103, z103⟩, st103⟩ := X102.virtualBack hx (y := y_12) (z := y_12) hown (mvT hZ (wq hw 112 rfl)) (mvT hZ (wq hw 113 rfl)) (notFace_of_selects (args := #[]) (mvT hZ (wq hw 115 rfl))) (mvT hZ (wq hw 115 rfl)) (mvT hZ (wq hw 114 rfl)) (by decide) (backOf (W := 0) (rmGe l Z a0 hw [] c1 d1 m0 m1 u1 h0 n0 O0 F1 gc gd hA hu SB) hZ (wq hw 116 rfl) (wq hw 71 rfl) (by decide) (by decide)) q103a q103c (g := (mkF m 12 #[vR a1, vI u1, .unset] [(.int u1), (.ref c1)])) rfl (by rw [hml]; rfl) (Steps.refl _) (argsL := [(.int u1)]) (rest := []) (lenOf pd_8 rfl) rfl (by show 2 * 0 + _ ≤ _; exact Nat.le_of_eq rfl) (hb hby dc26_12) (fun _ _ => ⟨rfl, e102, (by decide : 0 + 0 ≤ _), (by decide : 0 + 0 ≤ _)⟩)
  dsimp only [Pt.U, Pt.locs, Pt.cells, Pt.slots] at X103 l103 y103 z103 st103 hQ103
  subst l103 y103 z103
  obtain ⟨r103, rfl, N103q, hh103, R103⟩ := hQ103
  have N103 := Fr.app N0 N103q
  have pre104 : ∀ t, Steps p.tables e below (T103.setTop (mkF m 15 #[vR a1, vI u1, .unset] [(.int r103)])) t → Steps p.tables e below (s₁.setTop (entryFrame m #[(.ref a1), (.int u1)] 3)) t := fun t kt => pre0 t (by
      show Steps p.tables e below (s₁.setTop (mkF m 0 #[vR a1, vI u1, .unset] [])) _
      refine XS.aloadN X0.here hx rfl (hb hby dc26_0) rfl rfl ?_
      refine st101 _ ?_
      refine XS.ifnullNo X101.here hx rfl (hb hby dc26_4) rfl ?_
      refine XS.aloadN X101.here hx rfl (hb hby dc26_7) rfl rfl ?_
      refine st102 _ ?_
      refine XS.iloadN X102.here hx rfl (hb hby dc26_11) rfl ?_
      refine st103.trans ?_
      exact kt)
  rcases R103 with ⟨hk105, hk105i⟩ | ⟨hk105, hk105i⟩
  · skip
    obtain ⟨T106, X106, e106, st106⟩ := gG X103 hx hZ hown (wq hw 29 rfl) hh103 Fb (g := (mkF m 19 #[vR a1, vI u1, .unset] [(.ref a1)])) rfl rfl (hb hby dc26_19)
    obtain ⟨cq107, kq107, q107a, q107b, q107c⟩ := isOf hZ e106 F1.exa
    obtain ⟨_, _, ⟨T107, L107, k107, n107⟩, -, X107, ⟨Lc107, hQ107, l107, y107, z107⟩, st107⟩ := X106.virtualBack hx (y := y_14) (z := y_14) hown (mvT hZ (wq hw 127 rfl)) (mvT hZ (wq hw 128 rfl)) (notFace_of_selects (args := #[]) (mvT hZ (wq hw 130 rfl))) (mvT hZ (wq hw 130 rfl)) (mvT hZ (wq hw 129 rfl)) (by decide) (backOf (W := 0) (rmCl l Z a0 hw [] c1 d1 m0 m1 u1 h0 n0 O0 F1 gc gd hk105i (hne hk105i) hu SB) hZ (wq hw 131 rfl) (wq hw 71 rfl) (by decide) (by decide)) q107a q107c (g := (mkF m 23 #[vR a1, vI u1, .unset] [(.int u1), (.ref c1)])) rfl (by rw [hml]; rfl) (Steps.refl _) (argsL := [(.int u1)]) (rest := []) (lenOf pd_3 rfl) rfl (by show 2 * 0 + _ ≤ _; exact Nat.le_of_eq rfl) (hb hby dc26_23) (fun _ _ => ⟨rfl, e106, (by decide : 0 + 0 ≤ _), (by decide : 0 + 0 ≤ _)⟩)
    dsimp only [Pt.U, Pt.locs, Pt.cells, Pt.slots] at X107 l107 y107 z107 st107 hQ107
    subst l107 y107 z107
    obtain ⟨rfl, N107q, K107, P107⟩ := hQ107
    have N107 := Fr.app N103 N107q
    have f108 := (Fc.keep K107 (ninS neac (ninS nead nin0)))
    obtain ⟨T109, X109, e109, st109⟩ := gG X107 hx hZ hown (wq hw 18 rfl) rfl f108 (g := (mkF m 28 #[vR a1, vI u1, .unset] [(.ref a1), (.ref a1)])) rfl rfl (hb hby dc26_28)
    have f110 := (Ea.keep K107)
    obtain ⟨T111, h111, X111, e111, W111, st111⟩ := putF X109 hx hZ hown (host := "") (Or.inl (wq hw 18 rfl)) Via.refl e109 f108 f110 (Or.inl (wq hw 19 rfl)) (wq hw 1 rfl) (ty := .int) (by decide) rfl rfl (g := (mkF m 33 #[vR a1, vI u1, .unset] [(.int (c2 - (1 : Int32))), (.ref a1)])) rfl rfl (hb hby dc26_33)
    have Fw111 : Fld Z h111 a1 sU "count" "I" (.int (c2 - (1 : Int32))) := Fld.same W111 f108
    have N111 := Fr.snoc X111 N107 ga
    obtain ⟨T112, X112, e112, st112⟩ := gG X111 hx hZ hown (wq hw 18 rfl) e111 Fw111 (g := (mkF m 38 #[vR a1, vI u1, .unset] [(.ref a1), (.int (4 : Int32))])) rfl rfl (hb hby dc26_38)
    have f113 := ((Fb.keep K107 (ninS neac (ninS nead nin0))).other W111 (Or.inr (slot_ne (Or.inl (wq hw 30 rfl)) (Or.inl (wq hw 19 rfl)) (by decide) (t := (.object sB)) (t' := .int) (by decide) (by decide))))
    obtain ⟨T114, X114, e114, st114⟩ := gG X112 hx hZ hown (wq hw 29 rfl) e112 f113 (g := (mkF m 46 #[vR a1, vI u1, .unset] [(.ref a1), (.long ((((4 : Int32) * (c2 - (1 : Int32))) * (4 : Int32)).toInt64))])) rfl rfl (hb hby dc26_46)
    have f115 := (P107.kp (Keep.of_wr W111) (ninS (Ne.symm neac) nin0) (ninS (Ne.symm nead) nin0))
    have O116 : Old Z n0 h111 := ((O0.keep K107 (allS gc (allS gd all0))).wr W111 ga)
    have f118 := (P107.exa.wr W111)
    obtain ⟨cq117, kq117, q117a, q117b, q117c⟩ := isOf hZ e114 f118
    obtain ⟨_, _, ⟨T117, L117, k117, n117⟩, -, X117, ⟨Lc117, hQ117, l117, y117, z117⟩, st117⟩ := X114.virtualBack hx (y := y_15) (z := y_15) hown (mvT hZ (wq hw 138 rfl)) (mvT hZ (wq hw 139 rfl)) (notFace_of_selects (args := #[]) (mvT hZ (wq hw 141 rfl))) (mvT hZ (wq hw 141 rfl)) (mvT hZ (wq hw 140 rfl)) (by decide) (backOf (W := 2) (rmLe l Z a0 hw [] c1 d1 (own_c0 u1 m0) (own_c1 u1 m1) h111 n0 O116 (f115.mono (fun _ => trivial)) gc gd (hne hk105i)) hZ (wq hw 142 rfl) (wq hw 71 rfl) (by decide) (by decide)) q117a q117c (g := (mkF m 49 #[vR a1, vI u1, .unset] [(.ref c1), (.long ((((4 : Int32) * (c2 - (1 : Int32))) * (4 : Int32)).toInt64))])) rfl (by rw [hml]; rfl) (Steps.refl _) (argsL := []) (rest := [(.long ((((4 : Int32) * (c2 - (1 : Int32))) * (4 : Int32)).toInt64))]) (lenOf pd_9 rfl) rfl (by show 2 * 0 + _ ≤ _; exact Nat.le_of_eq rfl) (hb hby dc26_49) (fun _ _ => ⟨rfl, e114, (by decide : 0 + 0 ≤ _), (by decide : 0 + 0 ≤ _)⟩)
    dsimp only [Pt.U, Pt.locs, Pt.cells, Pt.slots] at X117 l117 y117 z117 st117 hQ117
    subst l117 y117 z117
    obtain ⟨r117, rfl, N117q, hh117, lo117, hi117, h64117⟩ := hQ117
    have N117 := Fr.app N111 N117q
    obtain ⟨_, _, ⟨T119, L119, k119, n119⟩, -, X119, ⟨Lc119, hQ119, l119, y119, z119⟩, st119⟩ := Jvm.LawKit.callS X117 hx (y := y_2) hown (mvT hZ (wq hw 45 rfl)) (mvT hZ (wq hw 46 rfl)) (mvT hZ (wq hw 2 rfl)) (mvT hZ (wq hw 47 rfl)) (by decide) (backOf (W := 2) (rmBb l Z a0 hw [] r117 h111 n0 O116) hZ (wq hw 47 rfl) (wq hw 2 rfl) (by decide) (by decide)) (g := (mkF m 52 #[vR a1, vI u1, .unset] [(.int r117), (.long ((((4 : Int32) * (c2 - (1 : Int32))) * (4 : Int32)).toInt64))])) rfl (by rw [hml]; rfl) (argsL := [(.int r117)]) (rest := [(.long ((((4 : Int32) * (c2 - (1 : Int32))) * (4 : Int32)).toInt64))]) (lenOf pd_10 rfl) rfl (by show 2 * 0 + _ ≤ _; exact Nat.le_of_eq rfl) (hb hby dc26_52) (fun _ _ => ⟨rfl, hh117, (by decide : 0 + 0 ≤ _), (by decide : 0 + 0 ≤ _)⟩)
    dsimp only [Pt.U, Pt.locs, Pt.cells, Pt.slots] at X119 l119 y119 z119 st119 hQ119
    subst l119 y119 z119
    obtain ⟨rfl, N119q, hh119⟩ := hQ119
    have N119 := Fr.app N117 N119q
    obtain ⟨fs, hr, hrun, hended, hW, hsame⟩ := X119.leave (v := none) (fun _ => rfl)
    have f120 := (f110.wr W111)
    have f121 := ((Fn.keep K107 (ninS neac (ninS nead nin0))).other W111 (Or.inr (slot_ne (Or.inl (wq hw 11 rfl)) (Or.inl (wq hw 19 rfl)) (by decide) (t := (.array .int)) (t' := .int) (by decide) (by decide))))
    have K122 : Keep h0 h111 [a1, c1, d1] := (Keep.wr (Keep.trans (Keep.refl h0 [a1, c1, d1]) K107 (allS (P := fun x => x ∈ [a1, c1, d1] ∨ h0.size ≤ x) (Or.inl (List.mem_of_getElem? (i := 1) rfl)) (allS (P := fun x => x ∈ [a1, c1, d1] ∨ h0.size ≤ x) (Or.inl (List.mem_of_getElem? (i := 2) rfl)) all0))) W111 (Or.inl (List.mem_of_getElem? (i := 0) rfl)))
    refine ⟨_, _, pre104 _ ?_, hrun, hended, _, _, rfl, ?_, ⟨_, rfl⟩, hW, hsame.mono (by decide) (by decide)⟩
    · skip
      show Steps p.tables e below (T103.setTop (mkF m 15 #[vR a1, vI u1, .unset] [(.int r103)])) _
      rw [hk105]
      refine XS.ifNo X103.here hx rfl (hb hby dc26_15) rfl (by decide) ?_
      refine XS.aloadN X103.here hx rfl (hb hby dc26_18) rfl rfl ?_
      refine st106 _ ?_
      show Steps p.tables e below (T106.setTop (mkF m 22 #[vR a1, vI u1, .unset] [(.ref c1)])) _
      refine XS.iloadN X106.here hx rfl (hb hby dc26_22) rfl ?_
      refine st107.trans ?_
      refine XS.aloadN X107.here hx rfl (hb hby dc26_26) rfl rfl ?_
      refine XS.dup X107.here hx rfl (hb hby dc26_27) rfl rfl ?_
      refine st109 _ ?_
      refine XS.iconst X109.here hx rfl (hb hby dc26_31) ?_
      refine XS.isub X109.here hx rfl (hb hby dc26_32) rfl ?_
      refine st111 _ ?_
      refine XS.iconst X111.here hx rfl (hb hby dc26_36) ?_
      refine XS.aloadN X111.here hx rfl (hb hby dc26_37) rfl rfl ?_
      refine st112 _ ?_
      refine XS.imul X112.here hx rfl (hb hby dc26_41) rfl ?_
      show Steps p.tables e below (T112.setTop (mkF m 42 #[vR a1, vI u1, .unset] [(.int ((4 : Int32) * (c2 - (1 : Int32))))])) _
      refine XS.iconst X112.here hx rfl (hb hby dc26_42) ?_
      refine XS.imul X112.here hx rfl (hb hby dc26_43) rfl ?_
      refine XS.i2l X112.here hx rfl (hb hby dc26_44) rfl ?_
      refine XS.aloadN X112.here hx rfl (hb hby dc26_45) rfl rfl ?_
      refine st114 _ ?_
      refine st117.trans ?_
      refine st119 _ ?_
      refine XS.lcmp X119.here hx rfl (hb hby dc26_55) rfl ?_
      refine XS.ifYes X119.here hx rfl (pc0 := 56) (pc' := 63) rfl (hb hby dc26_56) rfl ((if0 _ _).trans (flt (mt (lw_lt _ _).mp (hcmp hk105i r117 lo117 hi117 h64117))).2.1) (by decide) (by decide) ?_
      exact X119.returnOut hx Bd.returns (hb hby dc26_63) hr
    · show Q_rb Z a1 c1 d1 c2 u1 m0 m1 h0 n0 _ T119.heap _
      rw [hh119]
      exact ⟨rfl, N119, K122, f120, f121, f113, d1, Or.inl rfl, gd, Or.inr ⟨hk105i, Fw111, f115⟩⟩
  · skip
    obtain ⟨fs, hr, hrun, hended, hW, hsame⟩ := X103.leave (v := none) (fun _ => rfl)
    refine ⟨_, _, pre104 _ ?_, hrun, hended, _, _, rfl, ?_, ⟨_, rfl⟩, hW, hsame.mono (by decide) (by decide)⟩
    · skip
      show Steps p.tables e below (T103.setTop (mkF m 15 #[vR a1, vI u1, .unset] [(.int r103)])) _
      rw [hk105]
      refine XS.ifYes X103.here hx rfl (pc0 := 15) (pc' := 63) rfl (hb hby dc26_15) rfl (by decide) (by decide) (by decide) ?_
      show Steps p.tables e below (T103.setTop (mkF m 63 #[vR a1, vI u1, .unset] [])) _
      exact X103.returnOut hx Bd.returns (hb hby dc26_63) hr
    · show Q_rb Z a1 c1 d1 c2 u1 m0 m1 h0 n0 _ T103.heap _
      rw [hh103]
      exact ⟨rfl, N103, (Keep.refl h0 [a1, c1, d1]), Ea, Fn, Fb, d1, Or.inl rfl, gd, Or.inl ⟨hk105i, Fc, F1⟩⟩
def own_up (j i a b : Int32) : Int32 := if j < i then b else a
def own_pt (j i u a b : Int32) : Int32 := if j = i then u else if j < i then b else a
def own_dn (i k a b : Int32) : Int32 := if k < i then a else b
theorem own_ns {u x : Int32} (h : u < x ∨ x < u) : ¬ u = x := fun q => by rw [q] at h; simp only [Int32.lt_iff_toInt_lt] at h; omega
theorem own_idx (j : Int32) : ((-(-(j + (1 : Int32)))) - (1 : Int32)) = j := by rw [Int32.neg_neg, Int32.add_sub_cancel]
theorem own_ins0 {u1 j1 : Int32} (y1 : Int32) (hs : Srt []) (hu : own_r u1) (pl : own_pl0 u1 j1) : Srt [(own_pt j1 (0 : Int32) u1 y1 y1)] ∧ ∀ x, x ∈ [(own_pt j1 (0 : Int32) u1 y1 y1)] ↔ x = u1 ∨ x ∈ ([] : List Int32) := by
  rcases pl with rfl
  · show Srt [u1] ∧ ∀ x, x ∈ [u1] ↔ x = u1 ∨ x ∈ ([] : List Int32)
    refine ⟨?_, fun x => by (simp only [List.mem_cons, List.not_mem_nil, or_false]; try grind)⟩
    simp only [Srt, own_r, Int32.lt_iff_toInt_lt] at hs hu  ⊢; omega
theorem own_not0 {u1 j1 : Int32} (hs : Srt []) (pl : own_pl0 u1 j1) : u1 ∉ ([] : List Int32) := by
  rcases pl with rfl
  simp
theorem own_plj0 {u1 j1 : Int32} (q : own_pl0 u1 j1) : j1 = (0 : Int32) := by
  unfold own_pl0 at q; exact q
theorem own_ins1 {t0 : Int32} {u1 j1 : Int32} (y1 : Int32) (hs : Srt [t0]) (hu : own_r u1) (pl : own_pl1 t0 u1 j1) : Srt [(own_pt j1 (0 : Int32) u1 t0 t0), (own_pt j1 (1 : Int32) u1 y1 t0)] ∧ ∀ x, x ∈ [(own_pt j1 (0 : Int32) u1 t0 t0), (own_pt j1 (1 : Int32) u1 y1 t0)] ↔ x = u1 ∨ x ∈ ([t0] : List Int32) := by
  rcases pl with ⟨rfl, h0b⟩ | ⟨rfl, h1a⟩
  · show Srt [u1, t0] ∧ ∀ x, x ∈ [u1, t0] ↔ x = u1 ∨ x ∈ ([t0] : List Int32)
    refine ⟨?_, fun x => by (simp only [List.mem_cons, List.not_mem_nil, or_false]; try grind)⟩
    simp only [Srt, own_r, Int32.lt_iff_toInt_lt] at hs hu h0b ⊢; omega
  · show Srt [t0, u1] ∧ ∀ x, x ∈ [t0, u1] ↔ x = u1 ∨ x ∈ ([t0] : List Int32)
    refine ⟨?_, fun x => by (simp only [List.mem_cons, List.not_mem_nil, or_false]; try grind)⟩
    simp only [Srt, own_r, Int32.lt_iff_toInt_lt] at hs hu h1a ⊢; omega
theorem own_not1 {t0 : Int32} {u1 j1 : Int32} (hs : Srt [t0]) (pl : own_pl1 t0 u1 j1) : u1 ∉ ([t0] : List Int32) := by
  rcases pl with ⟨rfl, h0b⟩ | ⟨rfl, h1a⟩
  · simp only [List.mem_cons, List.not_mem_nil, or_false]
    simp only [Int32.lt_iff_toInt_lt] at h0b
    intro q; have z := congrArg Int32.toInt q; omega
  · simp only [List.mem_cons, List.not_mem_nil, or_false]
    simp only [Int32.lt_iff_toInt_lt] at h1a
    intro q; have z := congrArg Int32.toInt q; omega
theorem own_mem1 {t0 u1 i1 : Int32} (q : own_at1 t0 u1 i1) : u1 ∈ ([t0] : List Int32) := by
  rcases q with ⟨-, rfl⟩ <;> simp
theorem own_ati1 {t0 u1 i1 : Int32} (q : own_at1 t0 u1 i1) : i1 = (0 : Int32) := by
  unfold own_at1 at q; exact q.1
theorem own_del1 {t0 u1 i1 : Int32} (hs : Srt [t0]) (q : own_at1 t0 u1 i1) : Srt [] ∧ ∀ x, x ∈ ([] : List Int32) ↔ x ≠ u1 ∧ x ∈ ([t0] : List Int32) := by
  rcases q with ⟨rfl, rfl⟩
  · show Srt [] ∧ ∀ x, x ∈ ([] : List Int32) ↔ x ≠ t0 ∧ x ∈ ([t0] : List Int32)
    simp only [Srt, own_r] at hs ⊢
    exact ⟨by trivial, fun x => by (simp only [List.mem_cons, List.not_mem_nil, or_false]; try grind)⟩
theorem own_plj1 {t0 u1 j1 : Int32} (q : own_pl1 t0 u1 j1) : j1 = (0 : Int32) ∨ j1 = (1 : Int32) := by
  unfold own_pl1 at q; rcases q with ⟨q, -⟩ | ⟨q, -⟩ <;> simp [q]
theorem own_ins2 {t0 t1 : Int32} {u1 j1 : Int32} (y1 : Int32) (hs : Srt [t0, t1]) (hu : own_r u1) (pl : own_pl2 t0 t1 u1 j1) : Srt [(own_pt j1 (0 : Int32) u1 t0 t0), (own_pt j1 (1 : Int32) u1 t1 t0), (own_pt j1 (2 : Int32) u1 y1 t1)] ∧ ∀ x, x ∈ [(own_pt j1 (0 : Int32) u1 t0 t0), (own_pt j1 (1 : Int32) u1 t1 t0), (own_pt j1 (2 : Int32) u1 y1 t1)] ↔ x = u1 ∨ x ∈ ([t0, t1] : List Int32) := by
  rcases pl with ⟨rfl, h0b⟩ | ⟨rfl, h1a, h1b⟩ | ⟨rfl, h2a⟩
  · show Srt [u1, t0, t1] ∧ ∀ x, x ∈ [u1, t0, t1] ↔ x = u1 ∨ x ∈ ([t0, t1] : List Int32)
    refine ⟨?_, fun x => by (simp only [List.mem_cons, List.not_mem_nil, or_false]; try grind)⟩
    simp only [Srt, own_r, Int32.lt_iff_toInt_lt] at hs hu h0b ⊢; omega
  · show Srt [t0, u1, t1] ∧ ∀ x, x ∈ [t0, u1, t1] ↔ x = u1 ∨ x ∈ ([t0, t1] : List Int32)
    refine ⟨?_, fun x => by (simp only [List.mem_cons, List.not_mem_nil, or_false]; try grind)⟩
    simp only [Srt, own_r, Int32.lt_iff_toInt_lt] at hs hu h1a h1b ⊢; omega
  · show Srt [t0, t1, u1] ∧ ∀ x, x ∈ [t0, t1, u1] ↔ x = u1 ∨ x ∈ ([t0, t1] : List Int32)
    refine ⟨?_, fun x => by (simp only [List.mem_cons, List.not_mem_nil, or_false]; try grind)⟩
    simp only [Srt, own_r, Int32.lt_iff_toInt_lt] at hs hu h2a ⊢; omega
theorem own_not2 {t0 t1 : Int32} {u1 j1 : Int32} (hs : Srt [t0, t1]) (pl : own_pl2 t0 t1 u1 j1) : u1 ∉ ([t0, t1] : List Int32) := by
  rcases pl with ⟨rfl, h0b⟩ | ⟨rfl, h1a, h1b⟩ | ⟨rfl, h2a⟩
  · simp only [List.mem_cons, List.not_mem_nil, or_false, not_or]
    simp only [Srt, own_r, Int32.lt_iff_toInt_lt] at hs h0b
    refine ⟨?_, ?_⟩ <;> (intro q; have z := congrArg Int32.toInt q; omega)
  · simp only [List.mem_cons, List.not_mem_nil, or_false, not_or]
    simp only [Srt, own_r, Int32.lt_iff_toInt_lt] at hs h1a h1b
    refine ⟨?_, ?_⟩ <;> (intro q; have z := congrArg Int32.toInt q; omega)
  · simp only [List.mem_cons, List.not_mem_nil, or_false, not_or]
    simp only [Srt, own_r, Int32.lt_iff_toInt_lt] at hs h2a
    refine ⟨?_, ?_⟩ <;> (intro q; have z := congrArg Int32.toInt q; omega)
theorem own_mem2 {t0 t1 u1 i1 : Int32} (q : own_at2 t0 t1 u1 i1) : u1 ∈ ([t0, t1] : List Int32) := by
  rcases q with ⟨-, rfl⟩ | ⟨-, rfl⟩ <;> simp
theorem own_ati2 {t0 t1 u1 i1 : Int32} (q : own_at2 t0 t1 u1 i1) : i1 = (0 : Int32) ∨ i1 = (1 : Int32) := by
  unfold own_at2 at q; rcases q with ⟨q, -⟩ | ⟨q, -⟩ <;> simp [q]
theorem own_del2 {t0 t1 u1 i1 : Int32} (hs : Srt [t0, t1]) (q : own_at2 t0 t1 u1 i1) : Srt [(own_dn i1 (0 : Int32) t0 t1)] ∧ ∀ x, x ∈ ([(own_dn i1 (0 : Int32) t0 t1)] : List Int32) ↔ x ≠ u1 ∧ x ∈ ([t0, t1] : List Int32) := by
  rcases q with ⟨rfl, rfl⟩ | ⟨rfl, rfl⟩
  · show Srt [t1] ∧ ∀ x, x ∈ ([t1] : List Int32) ↔ x ≠ t0 ∧ x ∈ ([t0, t1] : List Int32)
    simp only [Srt, own_r] at hs ⊢
    have n1 : t1 ≠ t0 := fun q => by have z := congrArg Int32.toInt q; omega
    exact ⟨by omega, fun x => by (simp only [List.mem_cons, List.not_mem_nil, or_false]; try grind)⟩
  · show Srt [t0] ∧ ∀ x, x ∈ ([t0] : List Int32) ↔ x ≠ t1 ∧ x ∈ ([t0, t1] : List Int32)
    simp only [Srt, own_r] at hs ⊢
    have n0 : t0 ≠ t1 := fun q => by have z := congrArg Int32.toInt q; omega
    exact ⟨by omega, fun x => by (simp only [List.mem_cons, List.not_mem_nil, or_false]; try grind)⟩
theorem own_plj2 {t0 t1 u1 j1 : Int32} (q : own_pl2 t0 t1 u1 j1) : j1 = (0 : Int32) ∨ j1 = (1 : Int32) ∨ j1 = (2 : Int32) := by
  unfold own_pl2 at q; rcases q with ⟨q, -⟩ | ⟨q, -⟩ | ⟨q, -⟩ <;> simp [q]
theorem own_ins3 {t0 t1 t2 : Int32} {u1 j1 : Int32} (y1 : Int32) (hs : Srt [t0, t1, t2]) (hu : own_r u1) (pl : own_pl3 t0 t1 t2 u1 j1) : Srt [(own_pt j1 (0 : Int32) u1 t0 t0), (own_pt j1 (1 : Int32) u1 t1 t0), (own_pt j1 (2 : Int32) u1 t2 t1), (own_pt j1 (3 : Int32) u1 y1 t2)] ∧ ∀ x, x ∈ [(own_pt j1 (0 : Int32) u1 t0 t0), (own_pt j1 (1 : Int32) u1 t1 t0), (own_pt j1 (2 : Int32) u1 t2 t1), (own_pt j1 (3 : Int32) u1 y1 t2)] ↔ x = u1 ∨ x ∈ ([t0, t1, t2] : List Int32) := by
  rcases pl with ⟨rfl, h0b⟩ | ⟨rfl, h1a, h1b⟩ | ⟨rfl, h2a, h2b⟩ | ⟨rfl, h3a⟩
  · show Srt [u1, t0, t1, t2] ∧ ∀ x, x ∈ [u1, t0, t1, t2] ↔ x = u1 ∨ x ∈ ([t0, t1, t2] : List Int32)
    refine ⟨?_, fun x => by (simp only [List.mem_cons, List.not_mem_nil, or_false]; try grind)⟩
    simp only [Srt, own_r, Int32.lt_iff_toInt_lt] at hs hu h0b ⊢; omega
  · show Srt [t0, u1, t1, t2] ∧ ∀ x, x ∈ [t0, u1, t1, t2] ↔ x = u1 ∨ x ∈ ([t0, t1, t2] : List Int32)
    refine ⟨?_, fun x => by (simp only [List.mem_cons, List.not_mem_nil, or_false]; try grind)⟩
    simp only [Srt, own_r, Int32.lt_iff_toInt_lt] at hs hu h1a h1b ⊢; omega
  · show Srt [t0, t1, u1, t2] ∧ ∀ x, x ∈ [t0, t1, u1, t2] ↔ x = u1 ∨ x ∈ ([t0, t1, t2] : List Int32)
    refine ⟨?_, fun x => by (simp only [List.mem_cons, List.not_mem_nil, or_false]; try grind)⟩
    simp only [Srt, own_r, Int32.lt_iff_toInt_lt] at hs hu h2a h2b ⊢; omega
  · show Srt [t0, t1, t2, u1] ∧ ∀ x, x ∈ [t0, t1, t2, u1] ↔ x = u1 ∨ x ∈ ([t0, t1, t2] : List Int32)
    refine ⟨?_, fun x => by (simp only [List.mem_cons, List.not_mem_nil, or_false]; try grind)⟩
    simp only [Srt, own_r, Int32.lt_iff_toInt_lt] at hs hu h3a ⊢; omega
theorem own_not3 {t0 t1 t2 : Int32} {u1 j1 : Int32} (hs : Srt [t0, t1, t2]) (pl : own_pl3 t0 t1 t2 u1 j1) : u1 ∉ ([t0, t1, t2] : List Int32) := by
  rcases pl with ⟨rfl, h0b⟩ | ⟨rfl, h1a, h1b⟩ | ⟨rfl, h2a, h2b⟩ | ⟨rfl, h3a⟩
  · simp only [List.mem_cons, List.not_mem_nil, or_false, not_or]
    simp only [Srt, own_r, Int32.lt_iff_toInt_lt] at hs h0b
    refine ⟨?_, ?_, ?_⟩ <;> (intro q; have z := congrArg Int32.toInt q; omega)
  · simp only [List.mem_cons, List.not_mem_nil, or_false, not_or]
    simp only [Srt, own_r, Int32.lt_iff_toInt_lt] at hs h1a h1b
    refine ⟨?_, ?_, ?_⟩ <;> (intro q; have z := congrArg Int32.toInt q; omega)
  · simp only [List.mem_cons, List.not_mem_nil, or_false, not_or]
    simp only [Srt, own_r, Int32.lt_iff_toInt_lt] at hs h2a h2b
    refine ⟨?_, ?_, ?_⟩ <;> (intro q; have z := congrArg Int32.toInt q; omega)
  · simp only [List.mem_cons, List.not_mem_nil, or_false, not_or]
    simp only [Srt, own_r, Int32.lt_iff_toInt_lt] at hs h3a
    refine ⟨?_, ?_, ?_⟩ <;> (intro q; have z := congrArg Int32.toInt q; omega)
theorem own_mem3 {t0 t1 t2 u1 i1 : Int32} (q : own_at3 t0 t1 t2 u1 i1) : u1 ∈ ([t0, t1, t2] : List Int32) := by
  rcases q with ⟨-, rfl⟩ | ⟨-, rfl⟩ | ⟨-, rfl⟩ <;> simp
theorem own_ati3 {t0 t1 t2 u1 i1 : Int32} (q : own_at3 t0 t1 t2 u1 i1) : i1 = (0 : Int32) ∨ i1 = (1 : Int32) ∨ i1 = (2 : Int32) := by
  unfold own_at3 at q; rcases q with ⟨q, -⟩ | ⟨q, -⟩ | ⟨q, -⟩ <;> simp [q]
theorem own_del3 {t0 t1 t2 u1 i1 : Int32} (hs : Srt [t0, t1, t2]) (q : own_at3 t0 t1 t2 u1 i1) : Srt [(own_dn i1 (0 : Int32) t0 t1), (own_dn i1 (1 : Int32) t1 t2)] ∧ ∀ x, x ∈ ([(own_dn i1 (0 : Int32) t0 t1), (own_dn i1 (1 : Int32) t1 t2)] : List Int32) ↔ x ≠ u1 ∧ x ∈ ([t0, t1, t2] : List Int32) := by
  rcases q with ⟨rfl, rfl⟩ | ⟨rfl, rfl⟩ | ⟨rfl, rfl⟩
  · show Srt [t1, t2] ∧ ∀ x, x ∈ ([t1, t2] : List Int32) ↔ x ≠ t0 ∧ x ∈ ([t0, t1, t2] : List Int32)
    simp only [Srt, own_r] at hs ⊢
    have n1 : t1 ≠ t0 := fun q => by have z := congrArg Int32.toInt q; omega
    have n2 : t2 ≠ t0 := fun q => by have z := congrArg Int32.toInt q; omega
    exact ⟨by omega, fun x => by (simp only [List.mem_cons, List.not_mem_nil, or_false]; try grind)⟩
  · show Srt [t0, t2] ∧ ∀ x, x ∈ ([t0, t2] : List Int32) ↔ x ≠ t1 ∧ x ∈ ([t0, t1, t2] : List Int32)
    simp only [Srt, own_r] at hs ⊢
    have n0 : t0 ≠ t1 := fun q => by have z := congrArg Int32.toInt q; omega
    have n2 : t2 ≠ t1 := fun q => by have z := congrArg Int32.toInt q; omega
    exact ⟨by omega, fun x => by (simp only [List.mem_cons, List.not_mem_nil, or_false]; try grind)⟩
  · show Srt [t0, t1] ∧ ∀ x, x ∈ ([t0, t1] : List Int32) ↔ x ≠ t2 ∧ x ∈ ([t0, t1, t2] : List Int32)
    simp only [Srt, own_r] at hs ⊢
    have n0 : t0 ≠ t2 := fun q => by have z := congrArg Int32.toInt q; omega
    have n1 : t1 ≠ t2 := fun q => by have z := congrArg Int32.toInt q; omega
    exact ⟨by omega, fun x => by (simp only [List.mem_cons, List.not_mem_nil, or_false]; try grind)⟩
theorem own_plj3 {t0 t1 t2 u1 j1 : Int32} (q : own_pl3 t0 t1 t2 u1 j1) : j1 = (0 : Int32) ∨ j1 = (1 : Int32) ∨ j1 = (2 : Int32) ∨ j1 = (3 : Int32) := by
  unfold own_pl3 at q; rcases q with ⟨q, -⟩ | ⟨q, -⟩ | ⟨q, -⟩ | ⟨q, -⟩ <;> simp [q]
theorem own_not4 {t0 t1 t2 t3 : Int32} {u1 j1 : Int32} (hs : Srt [t0, t1, t2, t3]) (pl : own_pl4 t0 t1 t2 t3 u1 j1) : u1 ∉ ([t0, t1, t2, t3] : List Int32) := by
  rcases pl with ⟨rfl, h0b⟩ | ⟨rfl, h1a, h1b⟩ | ⟨rfl, h2a, h2b⟩ | ⟨rfl, h3a, h3b⟩ | ⟨rfl, h4a⟩
  · simp only [List.mem_cons, List.not_mem_nil, or_false, not_or]
    simp only [Srt, own_r, Int32.lt_iff_toInt_lt] at hs h0b
    refine ⟨?_, ?_, ?_, ?_⟩ <;> (intro q; have z := congrArg Int32.toInt q; omega)
  · simp only [List.mem_cons, List.not_mem_nil, or_false, not_or]
    simp only [Srt, own_r, Int32.lt_iff_toInt_lt] at hs h1a h1b
    refine ⟨?_, ?_, ?_, ?_⟩ <;> (intro q; have z := congrArg Int32.toInt q; omega)
  · simp only [List.mem_cons, List.not_mem_nil, or_false, not_or]
    simp only [Srt, own_r, Int32.lt_iff_toInt_lt] at hs h2a h2b
    refine ⟨?_, ?_, ?_, ?_⟩ <;> (intro q; have z := congrArg Int32.toInt q; omega)
  · simp only [List.mem_cons, List.not_mem_nil, or_false, not_or]
    simp only [Srt, own_r, Int32.lt_iff_toInt_lt] at hs h3a h3b
    refine ⟨?_, ?_, ?_, ?_⟩ <;> (intro q; have z := congrArg Int32.toInt q; omega)
  · simp only [List.mem_cons, List.not_mem_nil, or_false, not_or]
    simp only [Srt, own_r, Int32.lt_iff_toInt_lt] at hs h4a
    refine ⟨?_, ?_, ?_, ?_⟩ <;> (intro q; have z := congrArg Int32.toInt q; omega)
theorem own_mem4 {t0 t1 t2 t3 u1 i1 : Int32} (q : own_at4 t0 t1 t2 t3 u1 i1) : u1 ∈ ([t0, t1, t2, t3] : List Int32) := by
  rcases q with ⟨-, rfl⟩ | ⟨-, rfl⟩ | ⟨-, rfl⟩ | ⟨-, rfl⟩ <;> simp
theorem own_ati4 {t0 t1 t2 t3 u1 i1 : Int32} (q : own_at4 t0 t1 t2 t3 u1 i1) : i1 = (0 : Int32) ∨ i1 = (1 : Int32) ∨ i1 = (2 : Int32) ∨ i1 = (3 : Int32) := by
  unfold own_at4 at q; rcases q with ⟨q, -⟩ | ⟨q, -⟩ | ⟨q, -⟩ | ⟨q, -⟩ <;> simp [q]
theorem own_del4 {t0 t1 t2 t3 u1 i1 : Int32} (hs : Srt [t0, t1, t2, t3]) (q : own_at4 t0 t1 t2 t3 u1 i1) : Srt [(own_dn i1 (0 : Int32) t0 t1), (own_dn i1 (1 : Int32) t1 t2), (own_dn i1 (2 : Int32) t2 t3)] ∧ ∀ x, x ∈ ([(own_dn i1 (0 : Int32) t0 t1), (own_dn i1 (1 : Int32) t1 t2), (own_dn i1 (2 : Int32) t2 t3)] : List Int32) ↔ x ≠ u1 ∧ x ∈ ([t0, t1, t2, t3] : List Int32) := by
  rcases q with ⟨rfl, rfl⟩ | ⟨rfl, rfl⟩ | ⟨rfl, rfl⟩ | ⟨rfl, rfl⟩
  · show Srt [t1, t2, t3] ∧ ∀ x, x ∈ ([t1, t2, t3] : List Int32) ↔ x ≠ t0 ∧ x ∈ ([t0, t1, t2, t3] : List Int32)
    simp only [Srt, own_r] at hs ⊢
    have n1 : t1 ≠ t0 := fun q => by have z := congrArg Int32.toInt q; omega
    have n2 : t2 ≠ t0 := fun q => by have z := congrArg Int32.toInt q; omega
    have n3 : t3 ≠ t0 := fun q => by have z := congrArg Int32.toInt q; omega
    exact ⟨by omega, fun x => by (simp only [List.mem_cons, List.not_mem_nil, or_false]; try grind)⟩
  · show Srt [t0, t2, t3] ∧ ∀ x, x ∈ ([t0, t2, t3] : List Int32) ↔ x ≠ t1 ∧ x ∈ ([t0, t1, t2, t3] : List Int32)
    simp only [Srt, own_r] at hs ⊢
    have n0 : t0 ≠ t1 := fun q => by have z := congrArg Int32.toInt q; omega
    have n2 : t2 ≠ t1 := fun q => by have z := congrArg Int32.toInt q; omega
    have n3 : t3 ≠ t1 := fun q => by have z := congrArg Int32.toInt q; omega
    exact ⟨by omega, fun x => by (simp only [List.mem_cons, List.not_mem_nil, or_false]; try grind)⟩
  · show Srt [t0, t1, t3] ∧ ∀ x, x ∈ ([t0, t1, t3] : List Int32) ↔ x ≠ t2 ∧ x ∈ ([t0, t1, t2, t3] : List Int32)
    simp only [Srt, own_r] at hs ⊢
    have n0 : t0 ≠ t2 := fun q => by have z := congrArg Int32.toInt q; omega
    have n1 : t1 ≠ t2 := fun q => by have z := congrArg Int32.toInt q; omega
    have n3 : t3 ≠ t2 := fun q => by have z := congrArg Int32.toInt q; omega
    exact ⟨by omega, fun x => by (simp only [List.mem_cons, List.not_mem_nil, or_false]; try grind)⟩
  · show Srt [t0, t1, t2] ∧ ∀ x, x ∈ ([t0, t1, t2] : List Int32) ↔ x ≠ t3 ∧ x ∈ ([t0, t1, t2, t3] : List Int32)
    simp only [Srt, own_r] at hs ⊢
    have n0 : t0 ≠ t3 := fun q => by have z := congrArg Int32.toInt q; omega
    have n1 : t1 ≠ t3 := fun q => by have z := congrArg Int32.toInt q; omega
    have n2 : t2 ≠ t3 := fun q => by have z := congrArg Int32.toInt q; omega
    exact ⟨by omega, fun x => by (simp only [List.mem_cons, List.not_mem_nil, or_false]; try grind)⟩
theorem own_plj4 {t0 t1 t2 t3 u1 j1 : Int32} (q : own_pl4 t0 t1 t2 t3 u1 j1) : j1 = (0 : Int32) ∨ j1 = (1 : Int32) ∨ j1 = (2 : Int32) ∨ j1 = (3 : Int32) ∨ j1 = (4 : Int32) := by
  unfold own_pl4 at q; rcases q with ⟨q, -⟩ | ⟨q, -⟩ | ⟨q, -⟩ | ⟨q, -⟩ | ⟨q, -⟩ <;> simp [q]
theorem Lev.same {i1 : Nat} {l1 : List Int32} (h : Lev i1 l1) (hi : i1 ≤ 4) : Lev (i1 + 1) l1 := by
  rcases h with ⟨rfl, h, -⟩ | ⟨rfl, h⟩ | ⟨rfl, h⟩
  · exact Or.inr (Or.inl ⟨rfl, Or.inl (by omega)⟩)
  · exact Or.inr (Or.inr ⟨rfl, by omega⟩)
  · omega
theorem Lev.add {i1 : Nat} {l1 : List Int32} {u1 : Int32} (h : Lev i1 l1) (hi : i1 ≤ 4) : Lev (i1 + 1) (u1 :: l1) := by
  rcases h with ⟨rfl, h, -⟩ | ⟨rfl, h⟩ | ⟨rfl, h⟩
  · exact Or.inr (Or.inl ⟨rfl, Or.inl (by simp; omega)⟩)
  · exact Or.inr (Or.inr ⟨rfl, by simp⟩)
  · omega
theorem Lev.del {i1 : Nat} {l1 : List Int32} {u1 : Int32} (h : Lev i1 l1) (hi : i1 ≤ 4) (hm : u1 ∈ l1) : Lev (i1 + 1) (l1.erase u1) := by
  have e := List.length_erase_of_mem hm
  rcases h with ⟨rfl, h, q⟩ | ⟨rfl, h⟩ | ⟨rfl, h⟩
  · exact Or.inr (Or.inl ⟨rfl, Or.inr ⟨by omega, fun x hx => q x (List.mem_of_mem_erase hx)⟩⟩)
  · exact Or.inr (Or.inr ⟨rfl, by omega⟩)
  · omega
theorem Lev.two {i1 : Nat} {l1 : List Int32} (h : Lev i1 l1) (hi : i1 ≤ 4) : 2 ≤ l1.length := by
  rcases h with ⟨rfl, h, q⟩ | ⟨rfl, h⟩ | ⟨rfl, h⟩ <;> omega
theorem own_erase {l1 : List Int32} (hn : l1.Nodup) (u1 x : Int32) : x ∈ l1.erase u1 ↔ x ≠ u1 ∧ x ∈ l1 := hn.mem_erase_iff
theorem own_cnt {c2 : Int32} {n : Nat} (h : c2 = Int32.ofNat n) (hn : n ≤ 5) (h1 : 1 ≤ n) : ((((4 : Int32) * (c2 - (1 : Int32))) * (4 : Int32)).toInt64).toInt = 16 * ((n : Int) - 1) := by
  have e0 : c2.toInt = n := by rw [h]; exact Int32.toInt_ofNat_of_lt (by omega)
  have e1 : (1 : Int32).toInt = 1 := rfl
  have e4 : (4 : Int32).toInt = 4 := rfl
  have a := c_isub c2 1; have a' := rng32 (c2 - 1); rw [e1] at a
  have b := c_imul 4 (c2 - 1); have b' := rng32 ((4 : Int32) * (c2 - 1)); rw [e4] at b
  have a2 : (c2 - (1 : Int32)).toInt = (n : Int) - 1 := by omega
  rw [a2] at b
  have b2 : ((4 : Int32) * (c2 - (1 : Int32))).toInt = 4 * ((n : Int) - 1) := by omega
  have c := c_imul ((4 : Int32) * (c2 - 1)) 4; have c' := rng32 (((4 : Int32) * (c2 - 1)) * (4 : Int32)); rw [e4, b2] at c
  rw [c_i2l]; omega
theorem own_hcmp {i1 : Nat} {l1 : List Int32} {c2 u1 : Int32} {m0 m1 : Int64} (hc : c2 = Int32.ofNat l1.length) (hl : l1.length ≤ i1) (hi : i1 ≤ 4) (lv : Lev i1 l1) (mk : Mk l1 m0 m1) (hr : ∀ x ∈ l1, own_r x) (hu : own_r u1) (r : Int32) (r0 : 0 ≤ r.toInt) (r1 : r.toInt ≤ 128) (r2 : own_c1 u1 m1 = 0 → r.toInt ≤ 64) : ¬ ((((4 : Int32) * (c2 - (1 : Int32))) * (4 : Int32)).toInt64) < (own_bb r) := by
  have two := lv.two hi
  rw [Int64.lt_iff_toInt_lt, own_cnt hc (by omega) (by omega), own_bb_val r0 r1]
  have big : 3 ≤ l1.length ∨ (l1.length = 2 ∧ ∀ x ∈ l1, x < (64 : Int32)) := by
    rcases lv with ⟨rfl, h, q⟩ | ⟨rfl, h⟩ | ⟨rfl, h⟩
    · exact Or.inl (by omega)
    · exact h
    · omega
  rcases big with h | ⟨h, q⟩
  · omega
  · have z : m1 = 0 := mk.hi (fun x hx => ⟨hr x hx, q x hx⟩)
    have c : own_c1 u1 m1 = 0 := by
      rw [z]; by_cases t : u1 < (64 : Int32)
      · rw [own_c1p t]
      · rw [own_c1n t]; exact own_and_0 _
    have := r2 c; omega
theorem own_ofN {n : Nat} (h : 1 ≤ n) (hn : n ≤ 100) : (Int32.ofNat n - (1 : Int32)) = Int32.ofNat (n - 1) := by
  apply Int32.toInt_inj.mp
  have a := c_isub (Int32.ofNat n) 1; have b := rng32 (Int32.ofNat n - 1); have e1 : (1 : Int32).toInt = 1 := rfl
  rw [Int32.toInt_ofNat_of_lt (by omega), e1] at a; rw [Int32.toInt_ofNat_of_lt (by omega)]; omega
theorem own_ofS {n : Nat} (hn : n ≤ 100) : (Int32.ofNat n + (1 : Int32)) = Int32.ofNat (n + 1) := by
  apply Int32.toInt_inj.mp
  have a := c_iadd (Int32.ofNat n) 1; have b := rng32 (Int32.ofNat n + 1); have e1 : (1 : Int32).toInt = 1 := rfl
  rw [Int32.toInt_ofNat_of_lt (by omega), e1] at a; rw [Int32.toInt_ofNat_of_lt (by omega)]; omega
theorem Us.cnt {Z : State} {h : Heap} {n0 : Nat} {a1 : Addr} {i1 : Nat} {l1 : List Int32} {w1 : List Addr} (F : Us Z h n0 a1 i1 l1 w1) : Fld Z h a1 sU "count" "I" (.int (Int32.ofNat l1.length)) := F.2.2.1
theorem own_c00 {l1 : List Int32} (hn : l1.length ≤ 100) : Int32.ofNat l1.length = (0 : Int32) ↔ l1 = [] := by
  rw [← Int32.toInt_inj, Int32.toInt_ofNat_of_lt (by omega)]
  have e : (0 : Int32).toInt = 0 := rfl
  rw [e, ← List.length_eq_zero_iff]; omega
theorem Us.wge {Z : State} {h : Heap} {n0 : Nat} {a1 : Addr} {i1 : Nat} {l1 : List Int32} {w1 : List Addr} (F : Us Z h n0 a1 i1 l1 w1) : ∀ x ∈ w1, n0 ≤ x := by
  obtain ⟨-, ga, -, -, q⟩ := F
  rcases q with ⟨b1, rfl, gb, -⟩ | ⟨c1, d1, m0, m1, rfl, gc, gd, -⟩
  · exact allS ga (allS gb all0)
  · exact allS ga (allS gc (allS gd all0))
def Q_ad (Z : State) (a1 : Addr) (u1 : Int32) (i1 : Nat) (l1 : List Int32) (w1 : List Addr) (h0 : Heap) (n0 : Nat) (v : Option Value) (h : Heap) (L : List Loc) : Prop := v = none ∧ Fr n0 L ∧ Keep h0 h w1 ∧ ∃ l2 w2, Us Z h n0 a1 (i1 + 1) l2 w2 ∧ (∀ x, x ∈ l2 ↔ x = u1 ∨ x ∈ l1) ∧ ∀ x ∈ w2, x ∈ w1 ∨ h0.size ≤ x
def Q_re (Z : State) (a1 : Addr) (u1 : Int32) (i1 : Nat) (l1 : List Int32) (w1 : List Addr) (h0 : Heap) (n0 : Nat) (v : Option Value) (h : Heap) (L : List Loc) : Prop := v = none ∧ Fr n0 L ∧ Keep h0 h w1 ∧ ∃ l2 w2, Us Z h n0 a1 (i1 + 1) l2 w2 ∧ (∀ x, x ∈ l2 ↔ x ≠ u1 ∧ x ∈ l1) ∧ ∀ x ∈ w2, x ∈ w1 ∨ h0.size ≤ x
theorem own_w2 {a1 b1 b2 : Addr} {h0 : Heap} (h : b2 = b1 ∨ h0.size ≤ b2) : ∀ x ∈ [a1, b2], x ∈ [a1, b1] ∨ h0.size ≤ x := by
  refine allS (Or.inl (by simp)) (allS ?_ all0)
  rcases h with q | q
  · exact Or.inl (by simp [q])
  · exact Or.inr q
theorem own_w3 {a1 c1 d1 d2 : Addr} {h0 : Heap} (h : d2 = d1 ∨ h0.size ≤ d2) : ∀ x ∈ [a1, c1, d2], x ∈ [a1, c1, d1] ∨ h0.size ≤ x := by
  refine allS (Or.inl (by simp)) (allS (Or.inl (by simp)) (allS ?_ all0))
  rcases h with q | q
  · exact Or.inl (by simp [q])
  · exact Or.inr q
theorem own_tb2 {t0 t1 u1 j1 : Int32} (hs : Srt [t0, t1]) (hu : own_r u1) (pl : own_pl2 t0 t1 u1 j1) : Mk [t1, t0] (own_s0 t1 (own_s0 t0 (0 : Int64))) (own_s1 t1 (own_s1 t0 (0 : Int64))) ∧ ¬ ((own_s0 t1 (own_s0 t0 (0 : Int64))) = (0 : Int64) ∧ (own_s1 t1 (own_s1 t0 (0 : Int64))) = (0 : Int64)) ∧ ¬ own_in u1 (own_s0 t1 (own_s0 t0 (0 : Int64))) (own_s1 t1 (own_s1 t0 (0 : Int64))) ∧ Mk (u1 :: [t1, t0]) (own_s0 u1 (own_s0 t1 (own_s0 t0 (0 : Int64)))) (own_s1 u1 (own_s1 t1 (own_s1 t0 (0 : Int64)))) ∧ (u1 :: [t1, t0]).Nodup ∧ (∀ x ∈ (u1 :: [t1, t0]), own_r x) ∧ (∀ x, x ∈ (u1 :: [t1, t0]) ↔ x = u1 ∨ x ∈ ([t0, t1] : List Int32)) := by
  have nm := own_not2 hs pl
  have hr0 : own_r t0 := by simp only [Srt, own_r] at hs ⊢; omega
  have hr1 : own_r t1 := by simp only [Srt, own_r] at hs ⊢; omega
  have k0 : Mk [t0] (own_s0 t0 (0 : Int64)) (own_s1 t0 (0 : Int64)) := Mk.add hr0 Mk.zero (fun x => by simp)
  have k1 : Mk [t1, t0] (own_s0 t1 (own_s0 t0 (0 : Int64))) (own_s1 t1 (own_s1 t0 (0 : Int64))) := Mk.add hr1 k0 (fun x => by simp)
  have nm2 : u1 ∉ ([t1, t0] : List Int32) := by simp only [List.mem_cons, List.not_mem_nil, or_false] at nm ⊢; grind
  have n10 : t1 ≠ t0 := fun q => by have z := congrArg Int32.toInt q; simp only [Srt, own_r] at hs; omega
  refine ⟨k1, k1.cons hr0 (by simp), fun q => nm2 ((k1 u1 hu).mp q), Mk.add hu k1 (fun x => by simp), ?_, ?_, fun x => by simp only [List.mem_cons, List.not_mem_nil, or_false]; grind⟩
  · refine List.nodup_cons.mpr ⟨nm2, ?_⟩
    simp [n10]
  · simp only [List.mem_cons, List.not_mem_nil, or_false, forall_eq_or_imp, forall_eq]; exact ⟨hu, hr1, hr0⟩
theorem own_tb3 {t0 t1 t2 u1 j1 : Int32} (hs : Srt [t0, t1, t2]) (hu : own_r u1) (pl : own_pl3 t0 t1 t2 u1 j1) : Mk [t2, t1, t0] (own_s0 t2 (own_s0 t1 (own_s0 t0 (0 : Int64)))) (own_s1 t2 (own_s1 t1 (own_s1 t0 (0 : Int64)))) ∧ ¬ ((own_s0 t2 (own_s0 t1 (own_s0 t0 (0 : Int64)))) = (0 : Int64) ∧ (own_s1 t2 (own_s1 t1 (own_s1 t0 (0 : Int64)))) = (0 : Int64)) ∧ ¬ own_in u1 (own_s0 t2 (own_s0 t1 (own_s0 t0 (0 : Int64)))) (own_s1 t2 (own_s1 t1 (own_s1 t0 (0 : Int64)))) ∧ Mk (u1 :: [t2, t1, t0]) (own_s0 u1 (own_s0 t2 (own_s0 t1 (own_s0 t0 (0 : Int64))))) (own_s1 u1 (own_s1 t2 (own_s1 t1 (own_s1 t0 (0 : Int64))))) ∧ (u1 :: [t2, t1, t0]).Nodup ∧ (∀ x ∈ (u1 :: [t2, t1, t0]), own_r x) ∧ (∀ x, x ∈ (u1 :: [t2, t1, t0]) ↔ x = u1 ∨ x ∈ ([t0, t1, t2] : List Int32)) := by
  have nm := own_not3 hs pl
  have hr0 : own_r t0 := by simp only [Srt, own_r] at hs ⊢; omega
  have hr1 : own_r t1 := by simp only [Srt, own_r] at hs ⊢; omega
  have hr2 : own_r t2 := by simp only [Srt, own_r] at hs ⊢; omega
  have k0 : Mk [t0] (own_s0 t0 (0 : Int64)) (own_s1 t0 (0 : Int64)) := Mk.add hr0 Mk.zero (fun x => by simp)
  have k1 : Mk [t1, t0] (own_s0 t1 (own_s0 t0 (0 : Int64))) (own_s1 t1 (own_s1 t0 (0 : Int64))) := Mk.add hr1 k0 (fun x => by simp)
  have k2 : Mk [t2, t1, t0] (own_s0 t2 (own_s0 t1 (own_s0 t0 (0 : Int64)))) (own_s1 t2 (own_s1 t1 (own_s1 t0 (0 : Int64)))) := Mk.add hr2 k1 (fun x => by simp)
  have nm2 : u1 ∉ ([t2, t1, t0] : List Int32) := by simp only [List.mem_cons, List.not_mem_nil, or_false] at nm ⊢; grind
  have n10 : t1 ≠ t0 := fun q => by have z := congrArg Int32.toInt q; simp only [Srt, own_r] at hs; omega
  have n20 : t2 ≠ t0 := fun q => by have z := congrArg Int32.toInt q; simp only [Srt, own_r] at hs; omega
  have n21 : t2 ≠ t1 := fun q => by have z := congrArg Int32.toInt q; simp only [Srt, own_r] at hs; omega
  refine ⟨k2, k2.cons hr0 (by simp), fun q => nm2 ((k2 u1 hu).mp q), Mk.add hu k2 (fun x => by simp), ?_, ?_, fun x => by simp only [List.mem_cons, List.not_mem_nil, or_false]; grind⟩
  · refine List.nodup_cons.mpr ⟨nm2, ?_⟩
    simp [n10, n20, n21]
  · simp only [List.mem_cons, List.not_mem_nil, or_false, forall_eq_or_imp, forall_eq]; exact ⟨hu, hr2, hr1, hr0⟩
theorem own_tb4 {t0 t1 t2 t3 u1 j1 : Int32} (hs : Srt [t0, t1, t2, t3]) (hu : own_r u1) (pl : own_pl4 t0 t1 t2 t3 u1 j1) : Mk [t3, t2, t1, t0] (own_s0 t3 (own_s0 t2 (own_s0 t1 (own_s0 t0 (0 : Int64))))) (own_s1 t3 (own_s1 t2 (own_s1 t1 (own_s1 t0 (0 : Int64))))) ∧ ¬ ((own_s0 t3 (own_s0 t2 (own_s0 t1 (own_s0 t0 (0 : Int64))))) = (0 : Int64) ∧ (own_s1 t3 (own_s1 t2 (own_s1 t1 (own_s1 t0 (0 : Int64))))) = (0 : Int64)) ∧ ¬ own_in u1 (own_s0 t3 (own_s0 t2 (own_s0 t1 (own_s0 t0 (0 : Int64))))) (own_s1 t3 (own_s1 t2 (own_s1 t1 (own_s1 t0 (0 : Int64))))) ∧ Mk (u1 :: [t3, t2, t1, t0]) (own_s0 u1 (own_s0 t3 (own_s0 t2 (own_s0 t1 (own_s0 t0 (0 : Int64)))))) (own_s1 u1 (own_s1 t3 (own_s1 t2 (own_s1 t1 (own_s1 t0 (0 : Int64)))))) ∧ (u1 :: [t3, t2, t1, t0]).Nodup ∧ (∀ x ∈ (u1 :: [t3, t2, t1, t0]), own_r x) ∧ (∀ x, x ∈ (u1 :: [t3, t2, t1, t0]) ↔ x = u1 ∨ x ∈ ([t0, t1, t2, t3] : List Int32)) := by
  have nm := own_not4 hs pl
  have hr0 : own_r t0 := by simp only [Srt, own_r] at hs ⊢; omega
  have hr1 : own_r t1 := by simp only [Srt, own_r] at hs ⊢; omega
  have hr2 : own_r t2 := by simp only [Srt, own_r] at hs ⊢; omega
  have hr3 : own_r t3 := by simp only [Srt, own_r] at hs ⊢; omega
  have k0 : Mk [t0] (own_s0 t0 (0 : Int64)) (own_s1 t0 (0 : Int64)) := Mk.add hr0 Mk.zero (fun x => by simp)
  have k1 : Mk [t1, t0] (own_s0 t1 (own_s0 t0 (0 : Int64))) (own_s1 t1 (own_s1 t0 (0 : Int64))) := Mk.add hr1 k0 (fun x => by simp)
  have k2 : Mk [t2, t1, t0] (own_s0 t2 (own_s0 t1 (own_s0 t0 (0 : Int64)))) (own_s1 t2 (own_s1 t1 (own_s1 t0 (0 : Int64)))) := Mk.add hr2 k1 (fun x => by simp)
  have k3 : Mk [t3, t2, t1, t0] (own_s0 t3 (own_s0 t2 (own_s0 t1 (own_s0 t0 (0 : Int64))))) (own_s1 t3 (own_s1 t2 (own_s1 t1 (own_s1 t0 (0 : Int64))))) := Mk.add hr3 k2 (fun x => by simp)
  have nm2 : u1 ∉ ([t3, t2, t1, t0] : List Int32) := by simp only [List.mem_cons, List.not_mem_nil, or_false] at nm ⊢; grind
  have n10 : t1 ≠ t0 := fun q => by have z := congrArg Int32.toInt q; simp only [Srt, own_r] at hs; omega
  have n20 : t2 ≠ t0 := fun q => by have z := congrArg Int32.toInt q; simp only [Srt, own_r] at hs; omega
  have n21 : t2 ≠ t1 := fun q => by have z := congrArg Int32.toInt q; simp only [Srt, own_r] at hs; omega
  have n30 : t3 ≠ t0 := fun q => by have z := congrArg Int32.toInt q; simp only [Srt, own_r] at hs; omega
  have n31 : t3 ≠ t1 := fun q => by have z := congrArg Int32.toInt q; simp only [Srt, own_r] at hs; omega
  have n32 : t3 ≠ t2 := fun q => by have z := congrArg Int32.toInt q; simp only [Srt, own_r] at hs; omega
  refine ⟨k3, k3.cons hr0 (by simp), fun q => nm2 ((k3 u1 hu).mp q), Mk.add hu k3 (fun x => by simp), ?_, ?_, fun x => by simp only [List.mem_cons, List.not_mem_nil, or_false]; grind⟩
  · refine List.nodup_cons.mpr ⟨nm2, ?_⟩
    simp [n10, n20, n21, n30, n31, n32]
  · simp only [List.mem_cons, List.not_mem_nil, or_false, forall_eq_or_imp, forall_eq]; exact ⟨hu, hr3, hr2, hr1, hr0⟩
theorem own_lev2 {i1 : Nat} {e0 e1 u1 : Int32} (hs : Srt [e0, e1]) (hu : own_r u1) (hi : 2 ≤ i1) (hi4 : i1 ≤ 4) (hb : own_bb (own_mx u1 e1) < (12 : Int64)) : Lev (i1 + 1) [u1, e1, e0] := by
  have r1 : own_r e1 := by simp only [Srt, own_r] at hs ⊢; omega
  rw [own_bb_lt (own_mx_r hu r1)] at hb
  have m := own_mx_le u1 e1
  have e12 : (12 : Int64).toInt = 12 := rfl
  rw [e12] at hb
  have a : ∀ x ∈ [u1, e1, e0], x < (64 : Int32) := by
    simp only [List.mem_cons, List.not_mem_nil, or_false, forall_eq_or_imp, forall_eq, own_lt64]
    simp only [Srt, own_r] at hs; omega
  rcases (show i1 = 2 ∨ i1 = 3 ∨ i1 = 4 by omega) with rfl | rfl | rfl
  · exact Or.inl ⟨rfl, rfl, a⟩
  · exact Or.inr (Or.inl ⟨rfl, Or.inl (Nat.le_refl 3)⟩)
  · exact Or.inr (Or.inr ⟨rfl, by simp⟩)
theorem own_l642 {t0 t1 u1 : Int32} (hs : Srt [t0, t1]) (hu : own_r u1) (hb : own_bb (own_mx u1 t1) < (12 : Int64)) : t0 < (64 : Int32) ∧ t1 < (64 : Int32) := by
  have r1 : own_r t1 := by simp only [Srt, own_r] at hs ⊢; omega
  rw [own_bb_lt (own_mx_r hu r1)] at hb
  have m := own_mx_le u1 t1
  have e : (12 : Int64).toInt = 12 := rfl
  rw [e] at hb
  simp only [own_lt64]
  simp only [Srt, own_r] at hs; omega
theorem own_l643 {t0 t1 t2 u1 : Int32} (hs : Srt [t0, t1, t2]) (hu : own_r u1) (hb : own_bb (own_mx u1 t2) < (16 : Int64)) : t0 < (64 : Int32) ∧ t1 < (64 : Int32) ∧ t2 < (64 : Int32) := by
  have r1 : own_r t2 := by simp only [Srt, own_r] at hs ⊢; omega
  rw [own_bb_lt (own_mx_r hu r1)] at hb
  have m := own_mx_le u1 t2
  have e : (16 : Int64).toInt = 16 := rfl
  rw [e] at hb
  simp only [own_lt64]
  simp only [Srt, own_r] at hs; omega
theorem own_lev3 {i1 : Nat} {l1 : List Int32} (h : 3 ≤ l1.length) (hi : 3 ≤ i1) (hi4 : i1 ≤ 4) : Lev (i1 + 1) l1 := by
  rcases (show i1 = 3 ∨ i1 = 4 by omega) with rfl | rfl
  · exact Or.inr (Or.inl ⟨rfl, Or.inl h⟩)
  · exact Or.inr (Or.inr ⟨rfl, by omega⟩)
theorem own_neg {j1 : Int32} (h : 0 ≤ j1.toInt ∧ j1.toInt < 100) : (-(j1 + (1 : Int32))) < (0 : Int32) := by
  rw [Int32.lt_iff_toInt_lt]; have e1 : (1 : Int32).toInt = 1 := rfl; have e0 : (0 : Int32).toInt = 0 := rfl
  have a := c_iadd j1 1; have a' := rng32 (j1 + 1); have b := c_ineg (j1 + 1); have b' := rng32 (-(j1 + 1)); omega
theorem own_jr0 {j1 : Int32} (h : j1 = (0 : Int32)) : 0 ≤ j1.toInt ∧ j1.toInt < 100 := by rcases h with rfl <;> decide
theorem own_jr1 {j1 : Int32} (h : j1 = (0 : Int32) ∨ j1 = (1 : Int32)) : 0 ≤ j1.toInt ∧ j1.toInt < 100 := by rcases h with rfl | rfl <;> decide
theorem own_ir1 {i1 : Int32} (h : i1 = (0 : Int32)) : ¬ i1 < (0 : Int32) := by rcases h with rfl <;> decide
theorem own_jr2 {j1 : Int32} (h : j1 = (0 : Int32) ∨ j1 = (1 : Int32) ∨ j1 = (2 : Int32)) : 0 ≤ j1.toInt ∧ j1.toInt < 100 := by rcases h with rfl | rfl | rfl <;> decide
theorem own_ir2 {i1 : Int32} (h : i1 = (0 : Int32) ∨ i1 = (1 : Int32)) : ¬ i1 < (0 : Int32) := by rcases h with rfl | rfl <;> decide
theorem own_jr3 {j1 : Int32} (h : j1 = (0 : Int32) ∨ j1 = (1 : Int32) ∨ j1 = (2 : Int32) ∨ j1 = (3 : Int32)) : 0 ≤ j1.toInt ∧ j1.toInt < 100 := by rcases h with rfl | rfl | rfl | rfl <;> decide
theorem own_ir3 {i1 : Int32} (h : i1 = (0 : Int32) ∨ i1 = (1 : Int32) ∨ i1 = (2 : Int32)) : ¬ i1 < (0 : Int32) := by rcases h with rfl | rfl | rfl <;> decide
theorem own_jr4 {j1 : Int32} (h : j1 = (0 : Int32) ∨ j1 = (1 : Int32) ∨ j1 = (2 : Int32) ∨ j1 = (3 : Int32) ∨ j1 = (4 : Int32)) : 0 ≤ j1.toInt ∧ j1.toInt < 100 := by rcases h with rfl | rfl | rfl | rfl | rfl <;> decide
theorem own_ir4 {i1 : Int32} (h : i1 = (0 : Int32) ∨ i1 = (1 : Int32) ∨ i1 = (2 : Int32) ∨ i1 = (3 : Int32)) : ¬ i1 < (0 : Int32) := by rcases h with rfl | rfl | rfl | rfl <;> decide
theorem own_cu01 {t0 : Int32} {j1 : Int32} (h : j1 = (0 : Int32)) : ¬ j1 < 0 ∧ ¬ (j1 + (1 : Int32)) < 0 ∧ ¬ ((0 : Int32) - j1) < 0 ∧ j1.toNatClampNeg + ((0 : Int32) - j1).toNatClampNeg ≤ ((1 : Int32)).toNatClampNeg ∧ (j1 + (1 : Int32)).toNatClampNeg + ((0 : Int32) - j1).toNatClampNeg ≤ ((1 : Int32)).toNatClampNeg ∧ (([(.int t0)] : List Value).take (j1 + (1 : Int32)).toNatClampNeg ++ (List.range ((0 : Int32) - j1).toNatClampNeg).map (fun i => ([(.int t0)] : List Value).getD (j1.toNatClampNeg + i) (.int (0 : Int32))) ++ ([(.int t0)] : List Value).drop ((j1 + (1 : Int32)).toNatClampNeg + ((0 : Int32) - j1).toNatClampNeg)) = [(.int t0)] := by
  rcases h with rfl
  · exact ⟨by decide, by decide, by decide, by decide, by decide, rfl⟩
theorem own_su01 {t0 : Int32} {j1 u1 : Int32} (h : j1 = (0 : Int32)) : (¬ j1 < 0 ∧ j1 < (1 : Int32)) ∧ j1.toNatClampNeg < ([(.int t0)] : List Value).length ∧ ([(.int t0)] : List Value).set j1.toNatClampNeg (.int u1) = [(.int (own_pt j1 (0 : Int32) u1 t0 t0))] := by
  rcases h with rfl
  · exact ⟨⟨by decide, by decide⟩, (by decide : (0 : Int32).toNatClampNeg < 1), rfl⟩
theorem own_cu02 {t0 t1 : Int32} {j1 : Int32} (h : j1 = (0 : Int32)) : ¬ j1 < 0 ∧ ¬ (j1 + (1 : Int32)) < 0 ∧ ¬ ((0 : Int32) - j1) < 0 ∧ j1.toNatClampNeg + ((0 : Int32) - j1).toNatClampNeg ≤ ((2 : Int32)).toNatClampNeg ∧ (j1 + (1 : Int32)).toNatClampNeg + ((0 : Int32) - j1).toNatClampNeg ≤ ((2 : Int32)).toNatClampNeg ∧ (([(.int t0), (.int t1)] : List Value).take (j1 + (1 : Int32)).toNatClampNeg ++ (List.range ((0 : Int32) - j1).toNatClampNeg).map (fun i => ([(.int t0), (.int t1)] : List Value).getD (j1.toNatClampNeg + i) (.int (0 : Int32))) ++ ([(.int t0), (.int t1)] : List Value).drop ((j1 + (1 : Int32)).toNatClampNeg + ((0 : Int32) - j1).toNatClampNeg)) = [(.int t0), (.int t1)] := by
  rcases h with rfl
  · exact ⟨by decide, by decide, by decide, by decide, by decide, rfl⟩
theorem own_su02 {t0 t1 : Int32} {j1 u1 : Int32} (h : j1 = (0 : Int32)) : (¬ j1 < 0 ∧ j1 < (2 : Int32)) ∧ j1.toNatClampNeg < ([(.int t0), (.int t1)] : List Value).length ∧ ([(.int t0), (.int t1)] : List Value).set j1.toNatClampNeg (.int u1) = [(.int (own_pt j1 (0 : Int32) u1 t0 t0)), (.int t1)] := by
  rcases h with rfl
  · exact ⟨⟨by decide, by decide⟩, (by decide : (0 : Int32).toNatClampNeg < 2), rfl⟩
theorem own_cu11 {t0 : Int32} {j1 : Int32} (h : j1 = (0 : Int32) ∨ j1 = (1 : Int32)) : ¬ j1 < 0 ∧ ¬ (j1 + (1 : Int32)) < 0 ∧ ¬ ((1 : Int32) - j1) < 0 ∧ j1.toNatClampNeg + ((1 : Int32) - j1).toNatClampNeg ≤ ((2 : Int32)).toNatClampNeg ∧ (j1 + (1 : Int32)).toNatClampNeg + ((1 : Int32) - j1).toNatClampNeg ≤ ((2 : Int32)).toNatClampNeg ∧ (([(.int t0), (.int (0 : Int32))] : List Value).take (j1 + (1 : Int32)).toNatClampNeg ++ (List.range ((1 : Int32) - j1).toNatClampNeg).map (fun i => ([(.int t0), (.int (0 : Int32))] : List Value).getD (j1.toNatClampNeg + i) (.int (0 : Int32))) ++ ([(.int t0), (.int (0 : Int32))] : List Value).drop ((j1 + (1 : Int32)).toNatClampNeg + ((1 : Int32) - j1).toNatClampNeg)) = [(.int t0), (.int (own_up j1 (1 : Int32) (0 : Int32) t0))] := by
  rcases h with rfl | rfl
  · exact ⟨by decide, by decide, by decide, by decide, by decide, rfl⟩
  · exact ⟨by decide, by decide, by decide, by decide, by decide, rfl⟩
theorem own_su11 {t0 : Int32} {j1 u1 : Int32} (h : j1 = (0 : Int32) ∨ j1 = (1 : Int32)) : (¬ j1 < 0 ∧ j1 < (2 : Int32)) ∧ j1.toNatClampNeg < ([(.int t0), (.int (own_up j1 (1 : Int32) (0 : Int32) t0))] : List Value).length ∧ ([(.int t0), (.int (own_up j1 (1 : Int32) (0 : Int32) t0))] : List Value).set j1.toNatClampNeg (.int u1) = [(.int (own_pt j1 (0 : Int32) u1 t0 t0)), (.int (own_pt j1 (1 : Int32) u1 (0 : Int32) t0))] := by
  rcases h with rfl | rfl
  · exact ⟨⟨by decide, by decide⟩, (by decide : (0 : Int32).toNatClampNeg < 2), rfl⟩
  · exact ⟨⟨by decide, by decide⟩, (by decide : (1 : Int32).toNatClampNeg < 2), rfl⟩
theorem own_cu12 {t0 t1 : Int32} {j1 : Int32} (h : j1 = (0 : Int32) ∨ j1 = (1 : Int32)) : ¬ j1 < 0 ∧ ¬ (j1 + (1 : Int32)) < 0 ∧ ¬ ((1 : Int32) - j1) < 0 ∧ j1.toNatClampNeg + ((1 : Int32) - j1).toNatClampNeg ≤ ((2 : Int32)).toNatClampNeg ∧ (j1 + (1 : Int32)).toNatClampNeg + ((1 : Int32) - j1).toNatClampNeg ≤ ((2 : Int32)).toNatClampNeg ∧ (([(.int t0), (.int t1)] : List Value).take (j1 + (1 : Int32)).toNatClampNeg ++ (List.range ((1 : Int32) - j1).toNatClampNeg).map (fun i => ([(.int t0), (.int t1)] : List Value).getD (j1.toNatClampNeg + i) (.int (0 : Int32))) ++ ([(.int t0), (.int t1)] : List Value).drop ((j1 + (1 : Int32)).toNatClampNeg + ((1 : Int32) - j1).toNatClampNeg)) = [(.int t0), (.int (own_up j1 (1 : Int32) t1 t0))] := by
  rcases h with rfl | rfl
  · exact ⟨by decide, by decide, by decide, by decide, by decide, rfl⟩
  · exact ⟨by decide, by decide, by decide, by decide, by decide, rfl⟩
theorem own_su12 {t0 t1 : Int32} {j1 u1 : Int32} (h : j1 = (0 : Int32) ∨ j1 = (1 : Int32)) : (¬ j1 < 0 ∧ j1 < (2 : Int32)) ∧ j1.toNatClampNeg < ([(.int t0), (.int (own_up j1 (1 : Int32) t1 t0))] : List Value).length ∧ ([(.int t0), (.int (own_up j1 (1 : Int32) t1 t0))] : List Value).set j1.toNatClampNeg (.int u1) = [(.int (own_pt j1 (0 : Int32) u1 t0 t0)), (.int (own_pt j1 (1 : Int32) u1 t1 t0))] := by
  rcases h with rfl | rfl
  · exact ⟨⟨by decide, by decide⟩, (by decide : (0 : Int32).toNatClampNeg < 2), rfl⟩
  · exact ⟨⟨by decide, by decide⟩, (by decide : (1 : Int32).toNatClampNeg < 2), rfl⟩
theorem own_cu22 {t0 t1 : Int32} {j1 : Int32} (h : j1 = (0 : Int32) ∨ j1 = (1 : Int32) ∨ j1 = (2 : Int32)) : ¬ j1 < 0 ∧ ¬ (j1 + (1 : Int32)) < 0 ∧ ¬ ((2 : Int32) - j1) < 0 ∧ j1.toNatClampNeg + ((2 : Int32) - j1).toNatClampNeg ≤ ((4 : Int32)).toNatClampNeg ∧ (j1 + (1 : Int32)).toNatClampNeg + ((2 : Int32) - j1).toNatClampNeg ≤ ((4 : Int32)).toNatClampNeg ∧ (([(.int t0), (.int t1), (.int (0 : Int32)), (.int (0 : Int32))] : List Value).take (j1 + (1 : Int32)).toNatClampNeg ++ (List.range ((2 : Int32) - j1).toNatClampNeg).map (fun i => ([(.int t0), (.int t1), (.int (0 : Int32)), (.int (0 : Int32))] : List Value).getD (j1.toNatClampNeg + i) (.int (0 : Int32))) ++ ([(.int t0), (.int t1), (.int (0 : Int32)), (.int (0 : Int32))] : List Value).drop ((j1 + (1 : Int32)).toNatClampNeg + ((2 : Int32) - j1).toNatClampNeg)) = [(.int t0), (.int (own_up j1 (1 : Int32) t1 t0)), (.int (own_up j1 (2 : Int32) (0 : Int32) t1)), (.int (0 : Int32))] := by
  rcases h with rfl | rfl | rfl
  · exact ⟨by decide, by decide, by decide, by decide, by decide, rfl⟩
  · exact ⟨by decide, by decide, by decide, by decide, by decide, rfl⟩
  · exact ⟨by decide, by decide, by decide, by decide, by decide, rfl⟩
theorem own_su22 {t0 t1 : Int32} {j1 u1 : Int32} (h : j1 = (0 : Int32) ∨ j1 = (1 : Int32) ∨ j1 = (2 : Int32)) : (¬ j1 < 0 ∧ j1 < (4 : Int32)) ∧ j1.toNatClampNeg < ([(.int t0), (.int (own_up j1 (1 : Int32) t1 t0)), (.int (own_up j1 (2 : Int32) (0 : Int32) t1)), (.int (0 : Int32))] : List Value).length ∧ ([(.int t0), (.int (own_up j1 (1 : Int32) t1 t0)), (.int (own_up j1 (2 : Int32) (0 : Int32) t1)), (.int (0 : Int32))] : List Value).set j1.toNatClampNeg (.int u1) = [(.int (own_pt j1 (0 : Int32) u1 t0 t0)), (.int (own_pt j1 (1 : Int32) u1 t1 t0)), (.int (own_pt j1 (2 : Int32) u1 (0 : Int32) t1)), (.int (0 : Int32))] := by
  rcases h with rfl | rfl | rfl
  · exact ⟨⟨by decide, by decide⟩, (by decide : (0 : Int32).toNatClampNeg < 4), rfl⟩
  · exact ⟨⟨by decide, by decide⟩, (by decide : (1 : Int32).toNatClampNeg < 4), rfl⟩
  · exact ⟨⟨by decide, by decide⟩, (by decide : (2 : Int32).toNatClampNeg < 4), rfl⟩
theorem own_cu24 {t0 t1 t2 t3 : Int32} {j1 : Int32} (h : j1 = (0 : Int32) ∨ j1 = (1 : Int32) ∨ j1 = (2 : Int32)) : ¬ j1 < 0 ∧ ¬ (j1 + (1 : Int32)) < 0 ∧ ¬ ((2 : Int32) - j1) < 0 ∧ j1.toNatClampNeg + ((2 : Int32) - j1).toNatClampNeg ≤ ((4 : Int32)).toNatClampNeg ∧ (j1 + (1 : Int32)).toNatClampNeg + ((2 : Int32) - j1).toNatClampNeg ≤ ((4 : Int32)).toNatClampNeg ∧ (([(.int t0), (.int t1), (.int t2), (.int t3)] : List Value).take (j1 + (1 : Int32)).toNatClampNeg ++ (List.range ((2 : Int32) - j1).toNatClampNeg).map (fun i => ([(.int t0), (.int t1), (.int t2), (.int t3)] : List Value).getD (j1.toNatClampNeg + i) (.int (0 : Int32))) ++ ([(.int t0), (.int t1), (.int t2), (.int t3)] : List Value).drop ((j1 + (1 : Int32)).toNatClampNeg + ((2 : Int32) - j1).toNatClampNeg)) = [(.int t0), (.int (own_up j1 (1 : Int32) t1 t0)), (.int (own_up j1 (2 : Int32) t2 t1)), (.int t3)] := by
  rcases h with rfl | rfl | rfl
  · exact ⟨by decide, by decide, by decide, by decide, by decide, rfl⟩
  · exact ⟨by decide, by decide, by decide, by decide, by decide, rfl⟩
  · exact ⟨by decide, by decide, by decide, by decide, by decide, rfl⟩
theorem own_su24 {t0 t1 t2 t3 : Int32} {j1 u1 : Int32} (h : j1 = (0 : Int32) ∨ j1 = (1 : Int32) ∨ j1 = (2 : Int32)) : (¬ j1 < 0 ∧ j1 < (4 : Int32)) ∧ j1.toNatClampNeg < ([(.int t0), (.int (own_up j1 (1 : Int32) t1 t0)), (.int (own_up j1 (2 : Int32) t2 t1)), (.int t3)] : List Value).length ∧ ([(.int t0), (.int (own_up j1 (1 : Int32) t1 t0)), (.int (own_up j1 (2 : Int32) t2 t1)), (.int t3)] : List Value).set j1.toNatClampNeg (.int u1) = [(.int (own_pt j1 (0 : Int32) u1 t0 t0)), (.int (own_pt j1 (1 : Int32) u1 t1 t0)), (.int (own_pt j1 (2 : Int32) u1 t2 t1)), (.int t3)] := by
  rcases h with rfl | rfl | rfl
  · exact ⟨⟨by decide, by decide⟩, (by decide : (0 : Int32).toNatClampNeg < 4), rfl⟩
  · exact ⟨⟨by decide, by decide⟩, (by decide : (1 : Int32).toNatClampNeg < 4), rfl⟩
  · exact ⟨⟨by decide, by decide⟩, (by decide : (2 : Int32).toNatClampNeg < 4), rfl⟩
theorem own_cu34 {t0 t1 t2 t3 : Int32} {j1 : Int32} (h : j1 = (0 : Int32) ∨ j1 = (1 : Int32) ∨ j1 = (2 : Int32) ∨ j1 = (3 : Int32)) : ¬ j1 < 0 ∧ ¬ (j1 + (1 : Int32)) < 0 ∧ ¬ ((3 : Int32) - j1) < 0 ∧ j1.toNatClampNeg + ((3 : Int32) - j1).toNatClampNeg ≤ ((4 : Int32)).toNatClampNeg ∧ (j1 + (1 : Int32)).toNatClampNeg + ((3 : Int32) - j1).toNatClampNeg ≤ ((4 : Int32)).toNatClampNeg ∧ (([(.int t0), (.int t1), (.int t2), (.int t3)] : List Value).take (j1 + (1 : Int32)).toNatClampNeg ++ (List.range ((3 : Int32) - j1).toNatClampNeg).map (fun i => ([(.int t0), (.int t1), (.int t2), (.int t3)] : List Value).getD (j1.toNatClampNeg + i) (.int (0 : Int32))) ++ ([(.int t0), (.int t1), (.int t2), (.int t3)] : List Value).drop ((j1 + (1 : Int32)).toNatClampNeg + ((3 : Int32) - j1).toNatClampNeg)) = [(.int t0), (.int (own_up j1 (1 : Int32) t1 t0)), (.int (own_up j1 (2 : Int32) t2 t1)), (.int (own_up j1 (3 : Int32) t3 t2))] := by
  rcases h with rfl | rfl | rfl | rfl
  · exact ⟨by decide, by decide, by decide, by decide, by decide, rfl⟩
  · exact ⟨by decide, by decide, by decide, by decide, by decide, rfl⟩
  · exact ⟨by decide, by decide, by decide, by decide, by decide, rfl⟩
  · exact ⟨by decide, by decide, by decide, by decide, by decide, rfl⟩
theorem own_su34 {t0 t1 t2 t3 : Int32} {j1 u1 : Int32} (h : j1 = (0 : Int32) ∨ j1 = (1 : Int32) ∨ j1 = (2 : Int32) ∨ j1 = (3 : Int32)) : (¬ j1 < 0 ∧ j1 < (4 : Int32)) ∧ j1.toNatClampNeg < ([(.int t0), (.int (own_up j1 (1 : Int32) t1 t0)), (.int (own_up j1 (2 : Int32) t2 t1)), (.int (own_up j1 (3 : Int32) t3 t2))] : List Value).length ∧ ([(.int t0), (.int (own_up j1 (1 : Int32) t1 t0)), (.int (own_up j1 (2 : Int32) t2 t1)), (.int (own_up j1 (3 : Int32) t3 t2))] : List Value).set j1.toNatClampNeg (.int u1) = [(.int (own_pt j1 (0 : Int32) u1 t0 t0)), (.int (own_pt j1 (1 : Int32) u1 t1 t0)), (.int (own_pt j1 (2 : Int32) u1 t2 t1)), (.int (own_pt j1 (3 : Int32) u1 t3 t2))] := by
  rcases h with rfl | rfl | rfl | rfl
  · exact ⟨⟨by decide, by decide⟩, (by decide : (0 : Int32).toNatClampNeg < 4), rfl⟩
  · exact ⟨⟨by decide, by decide⟩, (by decide : (1 : Int32).toNatClampNeg < 4), rfl⟩
  · exact ⟨⟨by decide, by decide⟩, (by decide : (2 : Int32).toNatClampNeg < 4), rfl⟩
  · exact ⟨⟨by decide, by decide⟩, (by decide : (3 : Int32).toNatClampNeg < 4), rfl⟩
theorem dc25_37 : decode C25 37 = .ok (.aload_n 0, 1) := by decide +kernel
theorem dc25_38 : decode C25 38 = .ok (.iload_n 1, 1) := by decide +kernel
theorem dc25_39 : decode C25 39 = .ok (.invokevirtual 29, 3) := by decide +kernel
theorem dc25_42 : decode C25 42 = .ok (.istore_n 2, 1) := by decide +kernel
theorem dc25_43 : decode C25 43 = .ok (.iload_n 2, 1) := by decide +kernel
theorem dc25_44 : decode C25 44 = .ok (.ifCond .lt 4, 3) := by decide +kernel
theorem dc25_48 : decode C25 48 = .ok (.aload_n 0, 1) := by decide +kernel
theorem dc25_49 : decode C25 49 = .ok (.getfield 15, 3) := by decide +kernel
theorem dc25_52 : decode C25 52 = .ok (.ifCond .ne 7, 3) := by decide +kernel
theorem dc25_55 : decode C25 55 = .ok (.iload_n 1, 1) := by decide +kernel
theorem dc25_56 : decode C25 56 = .ok (.goto 18, 3) := by decide +kernel
theorem dc25_74 : decode C25 74 = .ok (.istore_n 3, 1) := by decide +kernel
theorem dc25_75 : decode C25 75 = .ok (.aload_n 0, 1) := by decide +kernel
theorem dc25_76 : decode C25 76 = .ok (.getfield 15, 3) := by decide +kernel
theorem dc25_79 : decode C25 79 = .ok (.iconst 1, 1) := by decide +kernel
theorem dc25_80 : decode C25 80 = .ok (.iadd, 1) := by decide +kernel
theorem dc25_81 : decode C25 81 = .ok (.iconst 4, 1) := by decide +kernel
theorem dc25_82 : decode C25 82 = .ok (.imul, 1) := by decide +kernel
theorem dc25_83 : decode C25 83 = .ok (.i2l, 1) := by decide +kernel
theorem dc25_84 : decode C25 84 = .ok (.iload_n 3, 1) := by decide +kernel
theorem dc25_85 : decode C25 85 = .ok (.invokestatic 46, 3) := by decide +kernel
theorem dc25_88 : decode C25 88 = .ok (.lcmp, 1) := by decide +kernel
theorem dc25_89 : decode C25 89 = .ok (.ifCond .le 13, 3) := by decide +kernel
theorem dc25_102 : decode C25 102 = .ok (.iload_n 2, 1) := by decide +kernel
theorem dc25_103 : decode C25 103 = .ok (.ineg, 1) := by decide +kernel
theorem dc25_104 : decode C25 104 = .ok (.iconst 1, 1) := by decide +kernel
theorem dc25_105 : decode C25 105 = .ok (.isub, 1) := by decide +kernel
theorem dc25_106 : decode C25 106 = .ok (.istore 4, 2) := by decide +kernel
theorem dc25_108 : decode C25 108 = .ok (.aload_n 0, 1) := by decide +kernel
theorem dc25_109 : decode C25 109 = .ok (.getfield 15, 3) := by decide +kernel
theorem dc25_112 : decode C25 112 = .ok (.aload_n 0, 1) := by decide +kernel
theorem dc25_113 : decode C25 113 = .ok (.getfield 9, 3) := by decide +kernel
theorem dc25_116 : decode C25 116 = .ok (.arraylength, 1) := by decide +kernel
theorem dc25_117 : decode C25 117 = .ok (.if_icmp .ne 20, 3) := by decide +kernel
theorem dc25_137 : decode C25 137 = .ok (.aload_n 0, 1) := by decide +kernel
theorem dc25_138 : decode C25 138 = .ok (.getfield 9, 3) := by decide +kernel
theorem dc25_141 : decode C25 141 = .ok (.iload 4, 2) := by decide +kernel
theorem dc25_143 : decode C25 143 = .ok (.aload_n 0, 1) := by decide +kernel
theorem dc25_144 : decode C25 144 = .ok (.getfield 9, 3) := by decide +kernel
theorem dc25_147 : decode C25 147 = .ok (.iload 4, 2) := by decide +kernel
theorem dc25_149 : decode C25 149 = .ok (.iconst 1, 1) := by decide +kernel
theorem dc25_150 : decode C25 150 = .ok (.iadd, 1) := by decide +kernel
theorem dc25_151 : decode C25 151 = .ok (.aload_n 0, 1) := by decide +kernel
theorem dc25_152 : decode C25 152 = .ok (.getfield 15, 3) := by decide +kernel
theorem dc25_155 : decode C25 155 = .ok (.iload 4, 2) := by decide +kernel
theorem dc25_157 : decode C25 157 = .ok (.isub, 1) := by decide +kernel
theorem dc25_158 : decode C25 158 = .ok (.invokestatic 62, 3) := by decide +kernel
theorem dc25_161 : decode C25 161 = .ok (.aload_n 0, 1) := by decide +kernel
theorem dc25_162 : decode C25 162 = .ok (.getfield 9, 3) := by decide +kernel
theorem dc25_165 : decode C25 165 = .ok (.iload 4, 2) := by decide +kernel
theorem dc25_167 : decode C25 167 = .ok (.iload_n 1, 1) := by decide +kernel
theorem dc25_168 : decode C25 168 = .ok (.iastore, 1) := by decide +kernel
theorem dc25_169 : decode C25 169 = .ok (.aload_n 0, 1) := by decide +kernel
theorem dc25_170 : decode C25 170 = .ok (.dup, 1) := by decide +kernel
theorem dc25_171 : decode C25 171 = .ok (.getfield 15, 3) := by decide +kernel
theorem dc25_174 : decode C25 174 = .ok (.iconst 1, 1) := by decide +kernel
theorem dc25_175 : decode C25 175 = .ok (.iadd, 1) := by decide +kernel
theorem dc25_176 : decode C25 176 = .ok (.putfield 15, 3) := by decide +kernel
theorem dc25_179 : decode C25 179 = .ok (.return_, 1) := by decide +kernel
theorem rmAd01 (l : Launch) (Z : State) (a0 : Array Value) (hw : HwT a0 Z) (ws : List Jvm.Cond) (a1 b1 : Addr) (kb : ClassId) (t0 u1 : Int32) (i1 : Nat) (h0 : Heap) (n0 : Nat) (O0 : Old Z n0 h0) (Ea : Exa Z h0 a1 sU) (Fn : Fld Z h0 a1 sU "numbers" "[I" (.ref b1)) (Fb : Fld Z h0 a1 sU "bits" "Ljava/util/BitSet;" .null) (Fc : Fld Z h0 a1 sU "count" "I" (.int (0 : Int32))) (ga : n0 ≤ a1) (Vb : Arv Z h0 b1 kb .int (1 : Int32) [(.int t0)] (.int (0 : Int32))) (neab : a1 ≠ b1) (gb : n0 ≤ b1) (hs : Srt []) (hi : 0 ≤ i1) (hi4 : i1 ≤ 4) (hu : own_r u1) (SB : Sta Z Z.heap sB "$assertionsDisabled" "Z" (.int (1 : Int32))) :
    Mt l Z y_25 prog_25_method_5_code 5 none ws ({ frames := 3, cells := 0, slots := 0, locals := 47 } : Room) #[(.ref a1), (.int u1)] h0 (Q_ad Z a1 u1 i1 [] [a1, b1] h0 n0) := by
  refine MetFree.of_bodySF (plainFor_of_name pn_0) hisR ?_
  intro p e s m args below meth c s₁ Bd hml0 hP hK
  obtain ⟨rfl, hZ, hh⟩ := hP
  have hx := Bd.exec
  have hby := Bd.bytes
  have hml : c.maxLocals = 5 := hml0
  have hown : s.vm.findClass sU = some m.cls := findClass_of_methodNamed Bd.named
  have hnm := (name_of_methodNamed Bd.named Bd.method).1
  have X0 : Stand p l e ({ frames := 3, cells := 0, slots := 0, locals := 47 } : Room) s m #[(.ref a1), (.int u1)] below meth c s₁ [] 0 0 := Stand.of_body Bd
  have e0 : s₁.heap = h0 := by rw [← hh, Bd.state]; rfl
  have N0 := Fr.nil n0
  have pre0 := fun t (k : Steps p.tables e below (s₁.setTop _) t) => castTop (ef_11 m a1 u1) k
  obtain ⟨T101, X101, e101, st101⟩ := gG X0 hx hZ hown (wq hw 29 rfl) e0 Fb (g := (mkF m 1 #[vR a1, vI u1, .unset, .unset, .unset] [(.ref a1)])) rfl rfl (hb hby dc25_1)
  obtain ⟨cq102, q102, q102'⟩ := Exa.cell Ea
  obtain ⟨_, _, ⟨T102, L102, k102, n102⟩, -, X102, ⟨Lc102, hQ102, l102, y102, z102⟩, st102⟩ := X101.privateBack hx (y := y_21) hown (mvT hZ (wq hw 31 rfl)) (mvT hZ (wq hw 32 rfl)) (mvT hZ (own_sel (y := y_21) (wq hw 1 rfl) (wq hw 33 rfl) (wq hw 32 rfl) (by decide))) (Cond.privateMethod_at (mvP hZ (wq hw 33 rfl) (args := #[]))) (mvT hZ (wq hw 34 rfl)) (by decide) (backOf (W := 0) (rmFi l Z a0 hw [] a1 b1 (0 : Int32) u1 1 (own_f1 t0) h0 n0 O0 Fn Fc (Iv.of1 Vb) (by decide) (by decide) (own_mo01) (by decide) (by decide)) hZ (wq hw 34 rfl) (wq hw 2 rfl) (by decide) (by decide)) (g := (mkF m 39 #[vR a1, vI u1, .unset, .unset, .unset] [(.int u1), (.ref a1)])) rfl (by rw [hml]; rfl) (Steps.refl _) (a := a1) (by rw [e101]; exact q102) q102' (argsL := [(.int u1)]) (rest := []) (lenOf pd_0 rfl) rfl (by show 2 * 0 + _ ≤ _; exact Nat.le_of_eq rfl) (hb hby dc25_39) (fun _ _ => ⟨rfl, e101, (by decide : 0 + 0 ≤ _), (by decide : 0 + 0 ≤ _)⟩)
  dsimp only [Pt.U, Pt.locs, Pt.cells, Pt.slots] at X102 l102 y102 z102 st102 hQ102
  subst l102 y102 z102
  obtain ⟨r102, rfl, N102q, hh102, R102⟩ := hQ102
  have N102 := Fr.app N0 N102q
  have pre103 : ∀ t, Steps p.tables e below (T102.setTop (mkF m 42 #[vR a1, vI u1, .unset, .unset, .unset] [(.int r102)])) t → Steps p.tables e below (s₁.setTop (entryFrame m #[(.ref a1), (.int u1)] 5)) t := fun t kt => pre0 t (by
      show Steps p.tables e below (s₁.setTop (mkF m 0 #[vR a1, vI u1, .unset, .unset, .unset] [])) _
      refine XS.aloadN X0.here hx rfl (hb hby dc25_0) rfl rfl ?_
      refine st101 _ ?_
      refine XS.ifnullYes X101.here hx rfl (pc0 := 4) (pc' := 37) rfl (hb hby dc25_4) rfl (by decide) (by decide) ?_
      refine XS.aloadN X101.here hx rfl (hb hby dc25_37) rfl rfl ?_
      refine XS.iloadN X101.here hx rfl (hb hby dc25_38) rfl ?_
      refine st102.trans ?_
      exact kt)
  rcases ((or_iff_right (fun q => by obtain ⟨_, _, z⟩ := q; exact z)).mp (own_cv01 R102)) with ⟨j102, hk104, hk104a⟩
  · skip
    obtain ⟨T105, X105, e105, st105⟩ := gG X102 hx hZ hown (wq hw 18 rfl) hh102 Fc (g := (mkF m 49 #[vR a1, vI u1, vI (-(j102 + (1 : Int32))), .unset, .unset] [(.ref a1)])) rfl rfl (hb hby dc25_49)
    obtain ⟨T106, X106, e106, st106⟩ := gG X105 hx hZ hown (wq hw 18 rfl) e105 Fc (g := (mkF m 76 #[vR a1, vI u1, vI (-(j102 + (1 : Int32))), vI u1, .unset] [(.ref a1)])) rfl rfl (hb hby dc25_76)
    obtain ⟨_, _, ⟨T107, L107, k107, n107⟩, -, X107, ⟨Lc107, hQ107, l107, y107, z107⟩, st107⟩ := Jvm.LawKit.callS X106 hx (y := y_2) hown (mvT hZ (wq hw 45 rfl)) (mvT hZ (wq hw 46 rfl)) (mvT hZ (wq hw 2 rfl)) (mvT hZ (wq hw 47 rfl)) (by decide) (backOf (W := 2) (rmBb l Z a0 hw [] u1 h0 n0 O0) hZ (wq hw 47 rfl) (wq hw 2 rfl) (by decide) (by decide)) (g := (mkF m 85 #[vR a1, vI u1, vI (-(j102 + (1 : Int32))), vI u1, .unset] [(.int u1), (.long (4 : Int64))])) rfl (by rw [hml]; rfl) (argsL := [(.int u1)]) (rest := [(.long (4 : Int64))]) (lenOf pd_10 rfl) rfl (by show 2 * 0 + _ ≤ _; exact Nat.le_of_eq rfl) (hb hby dc25_85) (fun _ _ => ⟨rfl, e106, (by decide : 0 + 0 ≤ _), (by decide : 0 + 0 ≤ _)⟩)
    dsimp only [Pt.U, Pt.locs, Pt.cells, Pt.slots] at X107 l107 y107 z107 st107 hQ107
    subst l107 y107 z107
    obtain ⟨rfl, N107q, hh107⟩ := hQ107
    have N107 := Fr.app N102 N107q
    obtain ⟨T108, X108, e108, st108⟩ := gG X107 hx hZ hown (wq hw 18 rfl) hh107 Fc (g := (mkF m 109 #[vR a1, vI u1, vI (-(j102 + (1 : Int32))), vI u1, vI j102] [(.ref a1)])) rfl rfl (hb hby dc25_109)
    obtain ⟨T109, X109, e109, st109⟩ := gG X108 hx hZ hown (wq hw 10 rfl) e108 Fn (g := (mkF m 113 #[vR a1, vI u1, vI (-(j102 + (1 : Int32))), vI u1, vI j102] [(.ref a1), (.int (0 : Int32))])) rfl rfl (hb hby dc25_113)
    obtain ⟨cl110, Ar110, q110, S110, N110_, H110, G110⟩ := id Vb
    obtain ⟨T111, X111, e111, st111⟩ := gG X109 hx hZ hown (wq hw 10 rfl) e109 Fn (g := (mkF m 138 #[vR a1, vI u1, vI (-(j102 + (1 : Int32))), vI u1, vI j102] [(.ref a1)])) rfl rfl (hb hby dc25_138)
    obtain ⟨T112, X112, e112, st112⟩ := gG X111 hx hZ hown (wq hw 10 rfl) e111 Fn (g := (mkF m 144 #[vR a1, vI u1, vI (-(j102 + (1 : Int32))), vI u1, vI j102] [(.ref a1), (.int j102), (.ref b1)])) rfl rfl (hb hby dc25_144)
    obtain ⟨T113, X113, e113, st113⟩ := gG X112 hx hZ hown (wq hw 18 rfl) e112 Fc (g := (mkF m 152 #[vR a1, vI u1, vI (-(j102 + (1 : Int32))), vI u1, vI j102] [(.ref a1), (.int (j102 + (1 : Int32))), (.ref b1), (.int j102), (.ref b1)])) rfl rfl (hb hby dc25_152)
    obtain ⟨T114, h114, L114, X114, e114, N114, K114, V114_, st114⟩ := cpA X113 hx hZ hown (wq hw 50 rfl) (wq hw 53 rfl) (wq hw 51 rfl) (wq hw 52 rfl) e113 Vb Vb (Or.inl ⟨rfl, rfl⟩) (own_cu01 (j1 := j102) (t0 := t0) (own_plj0 hk104a)).1 (own_cu01 (j1 := j102) (t0 := t0) (own_plj0 hk104a)).2.1 (own_cu01 (j1 := j102) (t0 := t0) (own_plj0 hk104a)).2.2.1 (own_cu01 (j1 := j102) (t0 := t0) (own_plj0 hk104a)).2.2.2.1 (own_cu01 (j1 := j102) (t0 := t0) (own_plj0 hk104a)).2.2.2.2.1 rfl (Nat.le_trans (own_cu01 (j1 := j102) (t0 := t0) (own_plj0 hk104a)).2.2.2.2.1 (by decide : (1 : Int32).toNatClampNeg ≤ 1)) N107 gb (g := (mkF m 158 #[vR a1, vI u1, vI (-(j102 + (1 : Int32))), vI u1, vI j102] [(.int ((0 : Int32) - j102)), (.int (j102 + (1 : Int32))), (.ref b1), (.int j102), (.ref b1)])) rfl (by rw [hml]; rfl) rfl (hb hby dc25_158) (by decide) (W := 0) (by show 2 * 0 + _ ≤ _; exact Nat.le_of_eq rfl) (by decide)
    have V114 : Arv Z h114 b1 kb .int (1 : Int32) [(.int t0)] (.int (0 : Int32)) := by have q := V114_; rw [(own_cu01 (j1 := j102) (t0 := t0) (own_plj0 hk104a)).2.2.2.2.2] at q; exact q
    have f115 := (Fn.keep K114 (ninS neab nin0))
    obtain ⟨T116, X116, e116, st116⟩ := gG X114 hx hZ hown (wq hw 10 rfl) e114 f115 (g := (mkF m 162 #[vR a1, vI u1, vI (-(j102 + (1 : Int32))), vI u1, vI j102] [(.ref a1)])) rfl rfl (hb hby dc25_162)
    obtain ⟨cl117, Ar117, q117, S117, N117_, H117, G117⟩ := id V114
    have hin117 : ¬ (j102 < 0 ∨ cl117.slots.size ≤ (j102).toNatClampNeg) := inb_of S117 (own_su01 (j1 := j102) (u1 := u1) (t0 := t0) (own_plj0 hk104a)).1
    obtain ⟨T118, h118, X118, e118, W118, st118⟩ := stI X116 hx hZ e116 Ar117 (j := j102) hin117 (g := (mkF m 168 #[vR a1, vI u1, vI (-(j102 + (1 : Int32))), vI u1, vI j102] [(.int u1), (.int j102), (.ref b1)])) rfl rfl (hb hby dc25_168)
    have V118 : Arv Z h118 b1 kb .int (1 : Int32) [(.int (own_pt j102 (0 : Int32) u1 t0 t0))] (.int (0 : Int32)) := by have q := Arv.set Ar117 q117 S117 N117_ H117 G117 rfl W118 _ rfl (own_su01 (j1 := j102) (u1 := u1) (t0 := t0) (own_plj0 hk104a)).2.1; rw [(own_su01 (j1 := j102) (u1 := u1) (t0 := t0) (own_plj0 hk104a)).2.2] at q; exact q
    have N118 := Fr.snoc X118 N114 gb
    have f119 := ((Fc.keep K114 (ninS neab nin0)).other W118 (Or.inl neab))
    obtain ⟨T120, X120, e120, st120⟩ := gG X118 hx hZ hown (wq hw 18 rfl) e118 f119 (g := (mkF m 171 #[vR a1, vI u1, vI (-(j102 + (1 : Int32))), vI u1, vI j102] [(.ref a1), (.ref a1)])) rfl rfl (hb hby dc25_171)
    have f121 := ((Ea.keep K114).wr W118)
    obtain ⟨T122, h122, X122, e122, W122, st122⟩ := putF X120 hx hZ hown (host := "") (Or.inl (wq hw 18 rfl)) Via.refl e120 f119 f121 (Or.inl (wq hw 19 rfl)) (wq hw 1 rfl) (ty := .int) (by decide) rfl rfl (g := (mkF m 176 #[vR a1, vI u1, vI (-(j102 + (1 : Int32))), vI u1, vI j102] [(.int (1 : Int32)), (.ref a1)])) rfl rfl (hb hby dc25_176)
    have Fw122 : Fld Z h122 a1 sU "count" "I" (.int (1 : Int32)) := Fld.same W122 f119
    have N122 := Fr.snoc X122 N118 ga
    obtain ⟨fs, hr, hrun, hended, hW, hsame⟩ := X122.leave (v := none) (fun _ => rfl)
    have K123 : Keep h0 h122 [a1, b1] := (Keep.wr (Keep.wr (Keep.trans (Keep.refl h0 [a1, b1]) K114 (allS (P := fun x => x ∈ [a1, b1] ∨ h0.size ≤ x) (Or.inl (List.mem_of_getElem? (i := 1) rfl)) all0)) W118 (Or.inl (List.mem_of_getElem? (i := 1) rfl))) W122 (Or.inl (List.mem_of_getElem? (i := 0) rfl)))
    have f124 := (f121.wr W122)
    have f125 := ((f115.other W118 (Or.inl neab)).other W122 (Or.inr (slot_ne (Or.inl (wq hw 11 rfl)) (Or.inl (wq hw 19 rfl)) (by decide) (t := (.array .int)) (t' := .int) (by decide) (by decide))))
    have f126 := (((Fb.keep K114 (ninS neab nin0)).other W118 (Or.inl neab)).other W122 (Or.inr (slot_ne (Or.inl (wq hw 30 rfl)) (Or.inl (wq hw 19 rfl)) (by decide) (t := (.object sB)) (t' := .int) (by decide) (by decide))))
    have f127 := (V118.other W122 (Ne.symm neab))
    refine ⟨_, _, pre103 _ ?_, hrun, hended, _, _, rfl, ?_, ⟨_, rfl⟩, hW, hsame.mono (by decide) (by decide)⟩
    · skip
      show Steps p.tables e below (T102.setTop (mkF m 42 #[vR a1, vI u1, .unset, .unset, .unset] [(.int r102)])) _
      rw [hk104]
      show Steps p.tables e below (T102.setTop (mkF m 42 #[vR a1, vI u1, .unset, .unset, .unset] [(.int (-(j102 + (1 : Int32))))])) _
      refine XS.istoreN X102.here hx rfl (hb hby dc25_42) rfl (l' := #[vR a1, vI u1, vI (-(j102 + (1 : Int32))), .unset, .unset]) rfl ?_
      refine XS.iloadN X102.here hx rfl (hb hby dc25_43) rfl ?_
      refine XS.ifYes X102.here hx rfl (pc0 := 44) (pc' := 48) rfl (hb hby dc25_44) rfl ((if0 _ _).trans (tlt (own_neg (own_jr0 (own_plj0 hk104a)))).1) (by decide) (by decide) ?_
      refine XS.aloadN X102.here hx rfl (hb hby dc25_48) rfl rfl ?_
      refine st105 _ ?_
      refine XS.ifNo X105.here hx rfl (hb hby dc25_52) rfl (by decide) ?_
      refine XS.iloadN X105.here hx rfl (hb hby dc25_55) rfl ?_
      refine XS.goto X105.here hx rfl (pc0 := 56) (pc' := 74) rfl (hb hby dc25_56) (by decide) (by decide) ?_
      refine XS.istoreN X105.here hx rfl (hb hby dc25_74) rfl (l' := #[vR a1, vI u1, vI (-(j102 + (1 : Int32))), vI u1, .unset]) rfl ?_
      refine XS.aloadN X105.here hx rfl (hb hby dc25_75) rfl rfl ?_
      refine st106 _ ?_
      refine XS.iconst X106.here hx rfl (hb hby dc25_79) ?_
      show Steps p.tables e below (T106.setTop (mkF m 80 #[vR a1, vI u1, vI (-(j102 + (1 : Int32))), vI u1, .unset] [(.int (1 : Int32)), (.int (0 : Int32))])) _
      refine XS.iadd X106.here hx rfl (hb hby dc25_80) rfl ?_
      refine XS.iconst X106.here hx rfl (hb hby dc25_81) ?_
      refine XS.imul X106.here hx rfl (hb hby dc25_82) rfl ?_
      refine XS.i2l X106.here hx rfl (hb hby dc25_83) rfl ?_
      refine XS.iloadN X106.here hx rfl (hb hby dc25_84) rfl ?_
      refine st107 _ ?_
      refine XS.lcmp X107.here hx rfl (hb hby dc25_88) rfl ?_
      refine XS.ifYes X107.here hx rfl (pc0 := 89) (pc' := 102) rfl (hb hby dc25_89) rfl ((if0 _ _).trans (flt (mt (lw_gt _ _).mp (by rw [own_bb_lt hu]; have e : (4 : Int64).toInt = 4 := rfl; have := hu; unfold own_r at this; omega))).2.2.2) (by decide) (by decide) ?_
      refine XS.iloadN X107.here hx rfl (hb hby dc25_102) rfl ?_
      refine XS.ineg X107.here hx rfl (hb hby dc25_103) rfl ?_
      refine XS.iconst X107.here hx rfl (hb hby dc25_104) ?_
      refine XS.isub X107.here hx rfl (hb hby dc25_105) rfl ?_
      show Steps p.tables e below (T107.setTop (mkF m 106 #[vR a1, vI u1, vI (-(j102 + (1 : Int32))), vI u1, .unset] [(.int ((-(-(j102 + (1 : Int32)))) - (1 : Int32)))])) _
      rw [(own_idx j102)]
      refine XS.istore X107.here hx rfl (hb hby dc25_106) rfl (l' := #[vR a1, vI u1, vI (-(j102 + (1 : Int32))), vI u1, vI j102]) rfl ?_
      refine XS.aloadN X107.here hx rfl (hb hby dc25_108) rfl rfl ?_
      refine st108 _ ?_
      refine XS.aloadN X108.here hx rfl (hb hby dc25_112) rfl rfl ?_
      refine st109 _ ?_
      refine X109.arraylength hx (by rw [e109]; exact Ar110.1) (State.isArrayOf_alike hZ.alike Ar110.2.1) (g := (mkF m 116 #[vR a1, vI u1, vI (-(j102 + (1 : Int32))), vI u1, vI j102] [(.ref b1), (.int (0 : Int32))])) rfl rfl (hb hby dc25_116) _ ?_
      rw [len_of S110 N110_]
      refine XS.icmpYes X109.here hx rfl (pc0 := 117) (pc' := 137) rfl (hb hby dc25_117) rfl (by decide) (by decide) (by decide) ?_
      refine XS.aloadN X109.here hx rfl (hb hby dc25_137) rfl rfl ?_
      refine st111 _ ?_
      refine XS.iload X111.here hx rfl (hb hby dc25_141) rfl ?_
      refine XS.aloadN X111.here hx rfl (hb hby dc25_143) rfl rfl ?_
      show Steps p.tables e below (T111.setTop (mkF m 144 #[vR a1, vI u1, vI (-(j102 + (1 : Int32))), vI u1, vI j102] [(.ref a1), (.int j102), (.ref b1)])) _
      refine st112 _ ?_
      refine XS.iload X112.here hx rfl (hb hby dc25_147) rfl ?_
      refine XS.iconst X112.here hx rfl (hb hby dc25_149) ?_
      refine XS.iadd X112.here hx rfl (hb hby dc25_150) rfl ?_
      refine XS.aloadN X112.here hx rfl (hb hby dc25_151) rfl rfl ?_
      refine st113 _ ?_
      refine XS.iload X113.here hx rfl (hb hby dc25_155) rfl ?_
      refine XS.isub X113.here hx rfl (hb hby dc25_157) rfl ?_
      refine st114 _ ?_
      refine XS.aloadN X114.here hx rfl (hb hby dc25_161) rfl rfl ?_
      refine st116 _ ?_
      refine XS.iload X116.here hx rfl (hb hby dc25_165) rfl ?_
      show Steps p.tables e below (T116.setTop (mkF m 167 #[vR a1, vI u1, vI (-(j102 + (1 : Int32))), vI u1, vI j102] [(.int j102), (.ref b1)])) _
      refine XS.iloadN X116.here hx rfl (hb hby dc25_167) rfl ?_
      refine st118 _ ?_
      refine XS.aloadN X118.here hx rfl (hb hby dc25_169) rfl rfl ?_
      refine XS.dup X118.here hx rfl (hb hby dc25_170) rfl rfl ?_
      refine st120 _ ?_
      refine XS.iconst X120.here hx rfl (hb hby dc25_174) ?_
      refine XS.iadd X120.here hx rfl (hb hby dc25_175) rfl ?_
      refine st122 _ ?_
      exact X122.returnOut hx Bd.returns (hb hby dc25_179) hr
    · show Q_ad Z a1 u1 i1 [] [a1, b1] h0 n0 _ T122.heap _
      rw [e122]
      exact ⟨rfl, N122, K123, [(own_pt j102 (0 : Int32) u1 t0 t0)], _, ⟨f124, ga, Fw122, Nat.succ_le_succ hi, Or.inl ⟨b1, rfl, gb, neab, f125, f126, ⟨_, Or.inr (Or.inr (Or.inl ⟨_, rfl, f127⟩))⟩, (own_ins0 t0 hs hu hk104a).1⟩⟩, (own_ins0 t0 hs hu hk104a).2, own_w2 (Or.inl rfl)⟩
theorem rmAd02 (l : Launch) (Z : State) (a0 : Array Value) (hw : HwT a0 Z) (ws : List Jvm.Cond) (a1 b1 : Addr) (kb : ClassId) (t0 t1 u1 : Int32) (i1 : Nat) (h0 : Heap) (n0 : Nat) (O0 : Old Z n0 h0) (Ea : Exa Z h0 a1 sU) (Fn : Fld Z h0 a1 sU "numbers" "[I" (.ref b1)) (Fb : Fld Z h0 a1 sU "bits" "Ljava/util/BitSet;" .null) (Fc : Fld Z h0 a1 sU "count" "I" (.int (0 : Int32))) (ga : n0 ≤ a1) (Vb : Arv Z h0 b1 kb .int (2 : Int32) [(.int t0), (.int t1)] (.int (0 : Int32))) (neab : a1 ≠ b1) (gb : n0 ≤ b1) (hs : Srt []) (hi : 0 ≤ i1) (hi4 : i1 ≤ 4) (hu : own_r u1) (SB : Sta Z Z.heap sB "$assertionsDisabled" "Z" (.int (1 : Int32))) :
    Mt l Z y_25 prog_25_method_5_code 5 none ws ({ frames := 3, cells := 0, slots := 0, locals := 47 } : Room) #[(.ref a1), (.int u1)] h0 (Q_ad Z a1 u1 i1 [] [a1, b1] h0 n0) := by
  refine MetFree.of_bodySF (plainFor_of_name pn_0) hisR ?_
  intro p e s m args below meth c s₁ Bd hml0 hP hK
  obtain ⟨rfl, hZ, hh⟩ := hP
  have hx := Bd.exec
  have hby := Bd.bytes
  have hml : c.maxLocals = 5 := hml0
  have hown : s.vm.findClass sU = some m.cls := findClass_of_methodNamed Bd.named
  have hnm := (name_of_methodNamed Bd.named Bd.method).1
  have X0 : Stand p l e ({ frames := 3, cells := 0, slots := 0, locals := 47 } : Room) s m #[(.ref a1), (.int u1)] below meth c s₁ [] 0 0 := Stand.of_body Bd
  have e0 : s₁.heap = h0 := by rw [← hh, Bd.state]; rfl
  have N0 := Fr.nil n0
  have pre0 := fun t (k : Steps p.tables e below (s₁.setTop _) t) => castTop (ef_11 m a1 u1) k
  obtain ⟨T101, X101, e101, st101⟩ := gG X0 hx hZ hown (wq hw 29 rfl) e0 Fb (g := (mkF m 1 #[vR a1, vI u1, .unset, .unset, .unset] [(.ref a1)])) rfl rfl (hb hby dc25_1)
  obtain ⟨cq102, q102, q102'⟩ := Exa.cell Ea
  obtain ⟨_, _, ⟨T102, L102, k102, n102⟩, -, X102, ⟨Lc102, hQ102, l102, y102, z102⟩, st102⟩ := X101.privateBack hx (y := y_21) hown (mvT hZ (wq hw 31 rfl)) (mvT hZ (wq hw 32 rfl)) (mvT hZ (own_sel (y := y_21) (wq hw 1 rfl) (wq hw 33 rfl) (wq hw 32 rfl) (by decide))) (Cond.privateMethod_at (mvP hZ (wq hw 33 rfl) (args := #[]))) (mvT hZ (wq hw 34 rfl)) (by decide) (backOf (W := 0) (rmFi l Z a0 hw [] a1 b1 (0 : Int32) u1 2 (own_f2 t0 t1) h0 n0 O0 Fn Fc (Iv.of2 Vb) (by decide) (by decide) (own_mo02) (by decide) (by decide)) hZ (wq hw 34 rfl) (wq hw 2 rfl) (by decide) (by decide)) (g := (mkF m 39 #[vR a1, vI u1, .unset, .unset, .unset] [(.int u1), (.ref a1)])) rfl (by rw [hml]; rfl) (Steps.refl _) (a := a1) (by rw [e101]; exact q102) q102' (argsL := [(.int u1)]) (rest := []) (lenOf pd_0 rfl) rfl (by show 2 * 0 + _ ≤ _; exact Nat.le_of_eq rfl) (hb hby dc25_39) (fun _ _ => ⟨rfl, e101, (by decide : 0 + 0 ≤ _), (by decide : 0 + 0 ≤ _)⟩)
  dsimp only [Pt.U, Pt.locs, Pt.cells, Pt.slots] at X102 l102 y102 z102 st102 hQ102
  subst l102 y102 z102
  obtain ⟨r102, rfl, N102q, hh102, R102⟩ := hQ102
  have N102 := Fr.app N0 N102q
  have pre103 : ∀ t, Steps p.tables e below (T102.setTop (mkF m 42 #[vR a1, vI u1, .unset, .unset, .unset] [(.int r102)])) t → Steps p.tables e below (s₁.setTop (entryFrame m #[(.ref a1), (.int u1)] 5)) t := fun t kt => pre0 t (by
      show Steps p.tables e below (s₁.setTop (mkF m 0 #[vR a1, vI u1, .unset, .unset, .unset] [])) _
      refine XS.aloadN X0.here hx rfl (hb hby dc25_0) rfl rfl ?_
      refine st101 _ ?_
      refine XS.ifnullYes X101.here hx rfl (pc0 := 4) (pc' := 37) rfl (hb hby dc25_4) rfl (by decide) (by decide) ?_
      refine XS.aloadN X101.here hx rfl (hb hby dc25_37) rfl rfl ?_
      refine XS.iloadN X101.here hx rfl (hb hby dc25_38) rfl ?_
      refine st102.trans ?_
      exact kt)
  rcases ((or_iff_right (fun q => by obtain ⟨_, _, z⟩ := q; exact z)).mp (own_cv02 R102)) with ⟨j102, hk104, hk104a⟩
  · skip
    obtain ⟨T105, X105, e105, st105⟩ := gG X102 hx hZ hown (wq hw 18 rfl) hh102 Fc (g := (mkF m 49 #[vR a1, vI u1, vI (-(j102 + (1 : Int32))), .unset, .unset] [(.ref a1)])) rfl rfl (hb hby dc25_49)
    obtain ⟨T106, X106, e106, st106⟩ := gG X105 hx hZ hown (wq hw 18 rfl) e105 Fc (g := (mkF m 76 #[vR a1, vI u1, vI (-(j102 + (1 : Int32))), vI u1, .unset] [(.ref a1)])) rfl rfl (hb hby dc25_76)
    obtain ⟨_, _, ⟨T107, L107, k107, n107⟩, -, X107, ⟨Lc107, hQ107, l107, y107, z107⟩, st107⟩ := Jvm.LawKit.callS X106 hx (y := y_2) hown (mvT hZ (wq hw 45 rfl)) (mvT hZ (wq hw 46 rfl)) (mvT hZ (wq hw 2 rfl)) (mvT hZ (wq hw 47 rfl)) (by decide) (backOf (W := 2) (rmBb l Z a0 hw [] u1 h0 n0 O0) hZ (wq hw 47 rfl) (wq hw 2 rfl) (by decide) (by decide)) (g := (mkF m 85 #[vR a1, vI u1, vI (-(j102 + (1 : Int32))), vI u1, .unset] [(.int u1), (.long (4 : Int64))])) rfl (by rw [hml]; rfl) (argsL := [(.int u1)]) (rest := [(.long (4 : Int64))]) (lenOf pd_10 rfl) rfl (by show 2 * 0 + _ ≤ _; exact Nat.le_of_eq rfl) (hb hby dc25_85) (fun _ _ => ⟨rfl, e106, (by decide : 0 + 0 ≤ _), (by decide : 0 + 0 ≤ _)⟩)
    dsimp only [Pt.U, Pt.locs, Pt.cells, Pt.slots] at X107 l107 y107 z107 st107 hQ107
    subst l107 y107 z107
    obtain ⟨rfl, N107q, hh107⟩ := hQ107
    have N107 := Fr.app N102 N107q
    obtain ⟨T108, X108, e108, st108⟩ := gG X107 hx hZ hown (wq hw 18 rfl) hh107 Fc (g := (mkF m 109 #[vR a1, vI u1, vI (-(j102 + (1 : Int32))), vI u1, vI j102] [(.ref a1)])) rfl rfl (hb hby dc25_109)
    obtain ⟨T109, X109, e109, st109⟩ := gG X108 hx hZ hown (wq hw 10 rfl) e108 Fn (g := (mkF m 113 #[vR a1, vI u1, vI (-(j102 + (1 : Int32))), vI u1, vI j102] [(.ref a1), (.int (0 : Int32))])) rfl rfl (hb hby dc25_113)
    obtain ⟨cl110, Ar110, q110, S110, N110_, H110, G110⟩ := id Vb
    obtain ⟨T111, X111, e111, st111⟩ := gG X109 hx hZ hown (wq hw 10 rfl) e109 Fn (g := (mkF m 138 #[vR a1, vI u1, vI (-(j102 + (1 : Int32))), vI u1, vI j102] [(.ref a1)])) rfl rfl (hb hby dc25_138)
    obtain ⟨T112, X112, e112, st112⟩ := gG X111 hx hZ hown (wq hw 10 rfl) e111 Fn (g := (mkF m 144 #[vR a1, vI u1, vI (-(j102 + (1 : Int32))), vI u1, vI j102] [(.ref a1), (.int j102), (.ref b1)])) rfl rfl (hb hby dc25_144)
    obtain ⟨T113, X113, e113, st113⟩ := gG X112 hx hZ hown (wq hw 18 rfl) e112 Fc (g := (mkF m 152 #[vR a1, vI u1, vI (-(j102 + (1 : Int32))), vI u1, vI j102] [(.ref a1), (.int (j102 + (1 : Int32))), (.ref b1), (.int j102), (.ref b1)])) rfl rfl (hb hby dc25_152)
    obtain ⟨T114, h114, L114, X114, e114, N114, K114, V114_, st114⟩ := cpA X113 hx hZ hown (wq hw 50 rfl) (wq hw 53 rfl) (wq hw 51 rfl) (wq hw 52 rfl) e113 Vb Vb (Or.inl ⟨rfl, rfl⟩) (own_cu02 (j1 := j102) (t0 := t0) (t1 := t1) (own_plj0 hk104a)).1 (own_cu02 (j1 := j102) (t0 := t0) (t1 := t1) (own_plj0 hk104a)).2.1 (own_cu02 (j1 := j102) (t0 := t0) (t1 := t1) (own_plj0 hk104a)).2.2.1 (own_cu02 (j1 := j102) (t0 := t0) (t1 := t1) (own_plj0 hk104a)).2.2.2.1 (own_cu02 (j1 := j102) (t0 := t0) (t1 := t1) (own_plj0 hk104a)).2.2.2.2.1 rfl (Nat.le_trans (own_cu02 (j1 := j102) (t0 := t0) (t1 := t1) (own_plj0 hk104a)).2.2.2.2.1 (by decide : (2 : Int32).toNatClampNeg ≤ 2)) N107 gb (g := (mkF m 158 #[vR a1, vI u1, vI (-(j102 + (1 : Int32))), vI u1, vI j102] [(.int ((0 : Int32) - j102)), (.int (j102 + (1 : Int32))), (.ref b1), (.int j102), (.ref b1)])) rfl (by rw [hml]; rfl) rfl (hb hby dc25_158) (by decide) (W := 0) (by show 2 * 0 + _ ≤ _; exact Nat.le_of_eq rfl) (by decide)
    have V114 : Arv Z h114 b1 kb .int (2 : Int32) [(.int t0), (.int t1)] (.int (0 : Int32)) := by have q := V114_; rw [(own_cu02 (j1 := j102) (t0 := t0) (t1 := t1) (own_plj0 hk104a)).2.2.2.2.2] at q; exact q
    have f115 := (Fn.keep K114 (ninS neab nin0))
    obtain ⟨T116, X116, e116, st116⟩ := gG X114 hx hZ hown (wq hw 10 rfl) e114 f115 (g := (mkF m 162 #[vR a1, vI u1, vI (-(j102 + (1 : Int32))), vI u1, vI j102] [(.ref a1)])) rfl rfl (hb hby dc25_162)
    obtain ⟨cl117, Ar117, q117, S117, N117_, H117, G117⟩ := id V114
    have hin117 : ¬ (j102 < 0 ∨ cl117.slots.size ≤ (j102).toNatClampNeg) := inb_of S117 (own_su02 (j1 := j102) (u1 := u1) (t0 := t0) (t1 := t1) (own_plj0 hk104a)).1
    obtain ⟨T118, h118, X118, e118, W118, st118⟩ := stI X116 hx hZ e116 Ar117 (j := j102) hin117 (g := (mkF m 168 #[vR a1, vI u1, vI (-(j102 + (1 : Int32))), vI u1, vI j102] [(.int u1), (.int j102), (.ref b1)])) rfl rfl (hb hby dc25_168)
    have V118 : Arv Z h118 b1 kb .int (2 : Int32) [(.int (own_pt j102 (0 : Int32) u1 t0 t0)), (.int t1)] (.int (0 : Int32)) := by have q := Arv.set Ar117 q117 S117 N117_ H117 G117 rfl W118 _ rfl (own_su02 (j1 := j102) (u1 := u1) (t0 := t0) (t1 := t1) (own_plj0 hk104a)).2.1; rw [(own_su02 (j1 := j102) (u1 := u1) (t0 := t0) (t1 := t1) (own_plj0 hk104a)).2.2] at q; exact q
    have N118 := Fr.snoc X118 N114 gb
    have f119 := ((Fc.keep K114 (ninS neab nin0)).other W118 (Or.inl neab))
    obtain ⟨T120, X120, e120, st120⟩ := gG X118 hx hZ hown (wq hw 18 rfl) e118 f119 (g := (mkF m 171 #[vR a1, vI u1, vI (-(j102 + (1 : Int32))), vI u1, vI j102] [(.ref a1), (.ref a1)])) rfl rfl (hb hby dc25_171)
    have f121 := ((Ea.keep K114).wr W118)
    obtain ⟨T122, h122, X122, e122, W122, st122⟩ := putF X120 hx hZ hown (host := "") (Or.inl (wq hw 18 rfl)) Via.refl e120 f119 f121 (Or.inl (wq hw 19 rfl)) (wq hw 1 rfl) (ty := .int) (by decide) rfl rfl (g := (mkF m 176 #[vR a1, vI u1, vI (-(j102 + (1 : Int32))), vI u1, vI j102] [(.int (1 : Int32)), (.ref a1)])) rfl rfl (hb hby dc25_176)
    have Fw122 : Fld Z h122 a1 sU "count" "I" (.int (1 : Int32)) := Fld.same W122 f119
    have N122 := Fr.snoc X122 N118 ga
    obtain ⟨fs, hr, hrun, hended, hW, hsame⟩ := X122.leave (v := none) (fun _ => rfl)
    have K123 : Keep h0 h122 [a1, b1] := (Keep.wr (Keep.wr (Keep.trans (Keep.refl h0 [a1, b1]) K114 (allS (P := fun x => x ∈ [a1, b1] ∨ h0.size ≤ x) (Or.inl (List.mem_of_getElem? (i := 1) rfl)) all0)) W118 (Or.inl (List.mem_of_getElem? (i := 1) rfl))) W122 (Or.inl (List.mem_of_getElem? (i := 0) rfl)))
    have f124 := (f121.wr W122)
    have f125 := ((f115.other W118 (Or.inl neab)).other W122 (Or.inr (slot_ne (Or.inl (wq hw 11 rfl)) (Or.inl (wq hw 19 rfl)) (by decide) (t := (.array .int)) (t' := .int) (by decide) (by decide))))
    have f126 := (((Fb.keep K114 (ninS neab nin0)).other W118 (Or.inl neab)).other W122 (Or.inr (slot_ne (Or.inl (wq hw 30 rfl)) (Or.inl (wq hw 19 rfl)) (by decide) (t := (.object sB)) (t' := .int) (by decide) (by decide))))
    have f127 := (V118.other W122 (Ne.symm neab))
    refine ⟨_, _, pre103 _ ?_, hrun, hended, _, _, rfl, ?_, ⟨_, rfl⟩, hW, hsame.mono (by decide) (by decide)⟩
    · skip
      show Steps p.tables e below (T102.setTop (mkF m 42 #[vR a1, vI u1, .unset, .unset, .unset] [(.int r102)])) _
      rw [hk104]
      show Steps p.tables e below (T102.setTop (mkF m 42 #[vR a1, vI u1, .unset, .unset, .unset] [(.int (-(j102 + (1 : Int32))))])) _
      refine XS.istoreN X102.here hx rfl (hb hby dc25_42) rfl (l' := #[vR a1, vI u1, vI (-(j102 + (1 : Int32))), .unset, .unset]) rfl ?_
      refine XS.iloadN X102.here hx rfl (hb hby dc25_43) rfl ?_
      refine XS.ifYes X102.here hx rfl (pc0 := 44) (pc' := 48) rfl (hb hby dc25_44) rfl ((if0 _ _).trans (tlt (own_neg (own_jr0 (own_plj0 hk104a)))).1) (by decide) (by decide) ?_
      refine XS.aloadN X102.here hx rfl (hb hby dc25_48) rfl rfl ?_
      refine st105 _ ?_
      refine XS.ifNo X105.here hx rfl (hb hby dc25_52) rfl (by decide) ?_
      refine XS.iloadN X105.here hx rfl (hb hby dc25_55) rfl ?_
      refine XS.goto X105.here hx rfl (pc0 := 56) (pc' := 74) rfl (hb hby dc25_56) (by decide) (by decide) ?_
      refine XS.istoreN X105.here hx rfl (hb hby dc25_74) rfl (l' := #[vR a1, vI u1, vI (-(j102 + (1 : Int32))), vI u1, .unset]) rfl ?_
      refine XS.aloadN X105.here hx rfl (hb hby dc25_75) rfl rfl ?_
      refine st106 _ ?_
      refine XS.iconst X106.here hx rfl (hb hby dc25_79) ?_
      show Steps p.tables e below (T106.setTop (mkF m 80 #[vR a1, vI u1, vI (-(j102 + (1 : Int32))), vI u1, .unset] [(.int (1 : Int32)), (.int (0 : Int32))])) _
      refine XS.iadd X106.here hx rfl (hb hby dc25_80) rfl ?_
      refine XS.iconst X106.here hx rfl (hb hby dc25_81) ?_
      refine XS.imul X106.here hx rfl (hb hby dc25_82) rfl ?_
      refine XS.i2l X106.here hx rfl (hb hby dc25_83) rfl ?_
      refine XS.iloadN X106.here hx rfl (hb hby dc25_84) rfl ?_
      refine st107 _ ?_
      refine XS.lcmp X107.here hx rfl (hb hby dc25_88) rfl ?_
      refine XS.ifYes X107.here hx rfl (pc0 := 89) (pc' := 102) rfl (hb hby dc25_89) rfl ((if0 _ _).trans (flt (mt (lw_gt _ _).mp (by rw [own_bb_lt hu]; have e : (4 : Int64).toInt = 4 := rfl; have := hu; unfold own_r at this; omega))).2.2.2) (by decide) (by decide) ?_
      refine XS.iloadN X107.here hx rfl (hb hby dc25_102) rfl ?_
      refine XS.ineg X107.here hx rfl (hb hby dc25_103) rfl ?_
      refine XS.iconst X107.here hx rfl (hb hby dc25_104) ?_
      refine XS.isub X107.here hx rfl (hb hby dc25_105) rfl ?_
      show Steps p.tables e below (T107.setTop (mkF m 106 #[vR a1, vI u1, vI (-(j102 + (1 : Int32))), vI u1, .unset] [(.int ((-(-(j102 + (1 : Int32)))) - (1 : Int32)))])) _
      rw [(own_idx j102)]
      refine XS.istore X107.here hx rfl (hb hby dc25_106) rfl (l' := #[vR a1, vI u1, vI (-(j102 + (1 : Int32))), vI u1, vI j102]) rfl ?_
      refine XS.aloadN X107.here hx rfl (hb hby dc25_108) rfl rfl ?_
      refine st108 _ ?_
      refine XS.aloadN X108.here hx rfl (hb hby dc25_112) rfl rfl ?_
      refine st109 _ ?_
      refine X109.arraylength hx (by rw [e109]; exact Ar110.1) (State.isArrayOf_alike hZ.alike Ar110.2.1) (g := (mkF m 116 #[vR a1, vI u1, vI (-(j102 + (1 : Int32))), vI u1, vI j102] [(.ref b1), (.int (0 : Int32))])) rfl rfl (hb hby dc25_116) _ ?_
      rw [len_of S110 N110_]
      refine XS.icmpYes X109.here hx rfl (pc0 := 117) (pc' := 137) rfl (hb hby dc25_117) rfl (by decide) (by decide) (by decide) ?_
      refine XS.aloadN X109.here hx rfl (hb hby dc25_137) rfl rfl ?_
      refine st111 _ ?_
      refine XS.iload X111.here hx rfl (hb hby dc25_141) rfl ?_
      refine XS.aloadN X111.here hx rfl (hb hby dc25_143) rfl rfl ?_
      show Steps p.tables e below (T111.setTop (mkF m 144 #[vR a1, vI u1, vI (-(j102 + (1 : Int32))), vI u1, vI j102] [(.ref a1), (.int j102), (.ref b1)])) _
      refine st112 _ ?_
      refine XS.iload X112.here hx rfl (hb hby dc25_147) rfl ?_
      refine XS.iconst X112.here hx rfl (hb hby dc25_149) ?_
      refine XS.iadd X112.here hx rfl (hb hby dc25_150) rfl ?_
      refine XS.aloadN X112.here hx rfl (hb hby dc25_151) rfl rfl ?_
      refine st113 _ ?_
      refine XS.iload X113.here hx rfl (hb hby dc25_155) rfl ?_
      refine XS.isub X113.here hx rfl (hb hby dc25_157) rfl ?_
      refine st114 _ ?_
      refine XS.aloadN X114.here hx rfl (hb hby dc25_161) rfl rfl ?_
      refine st116 _ ?_
      refine XS.iload X116.here hx rfl (hb hby dc25_165) rfl ?_
      show Steps p.tables e below (T116.setTop (mkF m 167 #[vR a1, vI u1, vI (-(j102 + (1 : Int32))), vI u1, vI j102] [(.int j102), (.ref b1)])) _
      refine XS.iloadN X116.here hx rfl (hb hby dc25_167) rfl ?_
      refine st118 _ ?_
      refine XS.aloadN X118.here hx rfl (hb hby dc25_169) rfl rfl ?_
      refine XS.dup X118.here hx rfl (hb hby dc25_170) rfl rfl ?_
      refine st120 _ ?_
      refine XS.iconst X120.here hx rfl (hb hby dc25_174) ?_
      refine XS.iadd X120.here hx rfl (hb hby dc25_175) rfl ?_
      refine st122 _ ?_
      exact X122.returnOut hx Bd.returns (hb hby dc25_179) hr
    · show Q_ad Z a1 u1 i1 [] [a1, b1] h0 n0 _ T122.heap _
      rw [e122]
      exact ⟨rfl, N122, K123, [(own_pt j102 (0 : Int32) u1 t0 t0)], _, ⟨f124, ga, Fw122, Nat.succ_le_succ hi, Or.inl ⟨b1, rfl, gb, neab, f125, f126, ⟨_, Or.inr (Or.inr (Or.inr (Or.inl ⟨_, _, rfl, f127⟩)))⟩, (own_ins0 t0 hs hu hk104a).1⟩⟩, (own_ins0 t0 hs hu hk104a).2, own_w2 (Or.inl rfl)⟩
theorem dc25_47 : decode C25 47 = .ok (.return_, 1) := by decide +kernel
theorem dc25_59 : decode C25 59 = .ok (.iload_n 1, 1) := by decide +kernel
theorem dc25_60 : decode C25 60 = .ok (.aload_n 0, 1) := by decide +kernel
theorem dc25_61 : decode C25 61 = .ok (.getfield 9, 3) := by decide +kernel
theorem dc25_64 : decode C25 64 = .ok (.aload_n 0, 1) := by decide +kernel
theorem dc25_65 : decode C25 65 = .ok (.getfield 15, 3) := by decide +kernel
theorem dc25_68 : decode C25 68 = .ok (.iconst 1, 1) := by decide +kernel
theorem dc25_69 : decode C25 69 = .ok (.isub, 1) := by decide +kernel
theorem dc25_70 : decode C25 70 = .ok (.iaload, 1) := by decide +kernel
theorem dc25_71 : decode C25 71 = .ok (.invokestatic 40, 3) := by decide +kernel
theorem dc25_120 : decode C25 120 = .ok (.aload_n 0, 1) := by decide +kernel
theorem dc25_121 : decode C25 121 = .ok (.aload_n 0, 1) := by decide +kernel
theorem dc25_122 : decode C25 122 = .ok (.getfield 9, 3) := by decide +kernel
theorem dc25_125 : decode C25 125 = .ok (.iconst 2, 1) := by decide +kernel
theorem dc25_126 : decode C25 126 = .ok (.aload_n 0, 1) := by decide +kernel
theorem dc25_127 : decode C25 127 = .ok (.getfield 15, 3) := by decide +kernel
theorem dc25_130 : decode C25 130 = .ok (.imul, 1) := by decide +kernel
theorem dc25_131 : decode C25 131 = .ok (.invokestatic 56, 3) := by decide +kernel
theorem pd_11 : parseMethodDescriptor "([II)[I" = some ⟨[(.array .int), .int], some (.array .int)⟩ := by decide +kernel
theorem dc25_134 : decode C25 134 = .ok (.putfield 9, 3) := by decide +kernel
theorem rmAd11 (l : Launch) (Z : State) (a0 : Array Value) (hw : HwT a0 Z) (ws : List Jvm.Cond) (a1 b1 : Addr) (kb : ClassId) (t0 u1 : Int32) (i1 : Nat) (h0 : Heap) (n0 : Nat) (O0 : Old Z n0 h0) (Ea : Exa Z h0 a1 sU) (Fn : Fld Z h0 a1 sU "numbers" "[I" (.ref b1)) (Fb : Fld Z h0 a1 sU "bits" "Ljava/util/BitSet;" .null) (Fc : Fld Z h0 a1 sU "count" "I" (.int (1 : Int32))) (ga : n0 ≤ a1) (Vb : Arv Z h0 b1 kb .int (1 : Int32) [(.int t0)] (.int (0 : Int32))) (neab : a1 ≠ b1) (gb : n0 ≤ b1) (hs : Srt [t0]) (hi : 1 ≤ i1) (hi4 : i1 ≤ 4) (hu : own_r u1) (SB : Sta Z Z.heap sB "$assertionsDisabled" "Z" (.int (1 : Int32))) :
    Mt l Z y_25 prog_25_method_5_code 5 none ws ({ frames := 3, cells := 1, slots := 2, locals := 47 } : Room) #[(.ref a1), (.int u1)] h0 (Q_ad Z a1 u1 i1 [t0] [a1, b1] h0 n0) := by
  refine MetFree.of_bodySF (plainFor_of_name pn_0) hisR ?_
  intro p e s m args below meth c s₁ Bd hml0 hP hK
  obtain ⟨rfl, hZ, hh⟩ := hP
  have hx := Bd.exec
  have hby := Bd.bytes
  have hml : c.maxLocals = 5 := hml0
  have hown : s.vm.findClass sU = some m.cls := findClass_of_methodNamed Bd.named
  have hnm := (name_of_methodNamed Bd.named Bd.method).1
  have X0 : Stand p l e ({ frames := 3, cells := 1, slots := 2, locals := 47 } : Room) s m #[(.ref a1), (.int u1)] below meth c s₁ [] 0 0 := Stand.of_body Bd
  have e0 : s₁.heap = h0 := by rw [← hh, Bd.state]; rfl
  have N0 := Fr.nil n0
  have pre0 := fun t (k : Steps p.tables e below (s₁.setTop _) t) => castTop (ef_11 m a1 u1) k
  have hr0 : own_r t0 := by simp only [Srt, own_r] at hs ⊢; omega
  obtain ⟨T101, X101, e101, st101⟩ := gG X0 hx hZ hown (wq hw 29 rfl) e0 Fb (g := (mkF m 1 #[vR a1, vI u1, .unset, .unset, .unset] [(.ref a1)])) rfl rfl (hb hby dc25_1)
  obtain ⟨cq102, q102, q102'⟩ := Exa.cell Ea
  obtain ⟨_, _, ⟨T102, L102, k102, n102⟩, -, X102, ⟨Lc102, hQ102, l102, y102, z102⟩, st102⟩ := X101.privateBack hx (y := y_21) hown (mvT hZ (wq hw 31 rfl)) (mvT hZ (wq hw 32 rfl)) (mvT hZ (own_sel (y := y_21) (wq hw 1 rfl) (wq hw 33 rfl) (wq hw 32 rfl) (by decide))) (Cond.privateMethod_at (mvP hZ (wq hw 33 rfl) (args := #[]))) (mvT hZ (wq hw 34 rfl)) (by decide) (backOf (W := 0) (rmFi l Z a0 hw [] a1 b1 (1 : Int32) u1 1 (own_f1 t0) h0 n0 O0 Fn Fc (Iv.of1 Vb) (by decide) (by decide) (own_mo11) (by decide) (by decide)) hZ (wq hw 34 rfl) (wq hw 2 rfl) (by decide) (by decide)) (g := (mkF m 39 #[vR a1, vI u1, .unset, .unset, .unset] [(.int u1), (.ref a1)])) rfl (by rw [hml]; rfl) (Steps.refl _) (a := a1) (by rw [e101]; exact q102) q102' (argsL := [(.int u1)]) (rest := []) (lenOf pd_0 rfl) rfl (by show 2 * 0 + _ ≤ _; exact Nat.le_of_eq rfl) (hb hby dc25_39) (fun _ _ => ⟨rfl, e101, (by decide : 0 + 0 ≤ _), (by decide : 0 + 0 ≤ _)⟩)
  dsimp only [Pt.U, Pt.locs, Pt.cells, Pt.slots] at X102 l102 y102 z102 st102 hQ102
  subst l102 y102 z102
  obtain ⟨r102, rfl, N102q, hh102, R102⟩ := hQ102
  have N102 := Fr.app N0 N102q
  have pre103 : ∀ t, Steps p.tables e below (T102.setTop (mkF m 42 #[vR a1, vI u1, .unset, .unset, .unset] [(.int r102)])) t → Steps p.tables e below (s₁.setTop (entryFrame m #[(.ref a1), (.int u1)] 5)) t := fun t kt => pre0 t (by
      show Steps p.tables e below (s₁.setTop (mkF m 0 #[vR a1, vI u1, .unset, .unset, .unset] [])) _
      refine XS.aloadN X0.here hx rfl (hb hby dc25_0) rfl rfl ?_
      refine st101 _ ?_
      refine XS.ifnullYes X101.here hx rfl (pc0 := 4) (pc' := 37) rfl (hb hby dc25_4) rfl (by decide) (by decide) ?_
      refine XS.aloadN X101.here hx rfl (hb hby dc25_37) rfl rfl ?_
      refine XS.iloadN X101.here hx rfl (hb hby dc25_38) rfl ?_
      refine st102.trans ?_
      exact kt)
  rcases (own_cv11 R102) with ⟨i102, hk104, hk104a⟩ | ⟨j102, hk104, hk104a⟩
  · skip
    obtain ⟨fs, hr, hrun, hended, hW, hsame⟩ := X102.leave (v := none) (fun _ => rfl)
    refine ⟨_, _, pre103 _ ?_, hrun, hended, _, _, rfl, ?_, ⟨_, rfl⟩, hW, hsame.mono (by decide) (by decide)⟩
    · skip
      show Steps p.tables e below (T102.setTop (mkF m 42 #[vR a1, vI u1, .unset, .unset, .unset] [(.int r102)])) _
      rw [hk104]
      refine XS.istoreN X102.here hx rfl (hb hby dc25_42) rfl (l' := #[vR a1, vI u1, vI i102, .unset, .unset]) rfl ?_
      refine XS.iloadN X102.here hx rfl (hb hby dc25_43) rfl ?_
      refine XS.ifNo X102.here hx rfl (hb hby dc25_44) rfl ((if0 _ _).trans (flt (own_ir1 (own_ati1 hk104a))).1) ?_
      show Steps p.tables e below (T102.setTop (mkF m 47 #[vR a1, vI u1, vI i102, .unset, .unset] [])) _
      exact X102.returnOut hx Bd.returns (hb hby dc25_47) hr
    · show Q_ad Z a1 u1 i1 [t0] [a1, b1] h0 n0 _ T102.heap _
      rw [hh102]
      exact ⟨rfl, N102, (Keep.refl h0 [a1, b1]), [t0], _, ⟨Ea, ga, Fc, Nat.le_succ_of_le hi, Or.inl ⟨b1, rfl, gb, neab, Fn, Fb, ⟨_, Or.inr (Or.inr (Or.inl ⟨_, rfl, Vb⟩))⟩, hs⟩⟩, fun x => ⟨Or.inr, fun q => q.elim (fun z => z ▸ own_mem1 hk104a) id⟩, own_w2 (Or.inl rfl)⟩
  · skip
    obtain ⟨T105, X105, e105, st105⟩ := gG X102 hx hZ hown (wq hw 18 rfl) hh102 Fc (g := (mkF m 49 #[vR a1, vI u1, vI (-(j102 + (1 : Int32))), .unset, .unset] [(.ref a1)])) rfl rfl (hb hby dc25_49)
    obtain ⟨T106, X106, e106, st106⟩ := gG X105 hx hZ hown (wq hw 10 rfl) e105 Fn (g := (mkF m 61 #[vR a1, vI u1, vI (-(j102 + (1 : Int32))), .unset, .unset] [(.ref a1), (.int u1)])) rfl rfl (hb hby dc25_61)
    obtain ⟨T107, X107, e107, st107⟩ := gG X106 hx hZ hown (wq hw 18 rfl) e106 Fc (g := (mkF m 65 #[vR a1, vI u1, vI (-(j102 + (1 : Int32))), .unset, .unset] [(.ref a1), (.ref b1), (.int u1)])) rfl rfl (hb hby dc25_65)
    obtain ⟨cl108, Ar108, q108, S108, N108_, H108, G108⟩ := id Vb
    have hin108 : ¬ ((0 : Int32) < 0 ∨ cl108.slots.size ≤ ((0 : Int32)).toNatClampNeg) := inb_of S108 ⟨by decide, by decide⟩
    have hat108 : cl108.slots[((0 : Int32)).toNatClampNeg]? = some (.int t0) := H108.at hin108 rfl
    obtain ⟨_, _, ⟨T109, L109, k109, n109⟩, -, X109, ⟨Lc109, hQ109, l109, y109, z109⟩, st109⟩ := Jvm.LawKit.callS X107 hx (y := y_0) hown (mvT hZ (wq hw 54 rfl)) (mvT hZ (wq hw 55 rfl)) (mvT hZ (wq hw 56 rfl)) (mvT hZ (wq hw 57 rfl)) (by decide) (backOf (W := 0) (rmMx l Z a0 hw [] u1 t0 h0 n0 O0) hZ (wq hw 57 rfl) (wq hw 56 rfl) (by decide) (by decide)) (g := (mkF m 71 #[vR a1, vI u1, vI (-(j102 + (1 : Int32))), .unset, .unset] [(.int t0), (.int u1)])) rfl (by rw [hml]; rfl) (argsL := [(.int u1), (.int t0)]) (rest := []) (lenOf pd_1 rfl) rfl (by show 2 * 0 + _ ≤ _; exact Nat.le_of_eq rfl) (hb hby dc25_71) (fun _ _ => ⟨rfl, e107, (by decide : 0 + 0 ≤ _), (by decide : 0 + 0 ≤ _)⟩)
    dsimp only [Pt.U, Pt.locs, Pt.cells, Pt.slots] at X109 l109 y109 z109 st109 hQ109
    subst l109 y109 z109
    obtain ⟨rfl, N109q, hh109⟩ := hQ109
    have N109 := Fr.app N102 N109q
    obtain ⟨T110, X110, e110, st110⟩ := gG X109 hx hZ hown (wq hw 18 rfl) hh109 Fc (g := (mkF m 76 #[vR a1, vI u1, vI (-(j102 + (1 : Int32))), vI (own_mx u1 t0), .unset] [(.ref a1)])) rfl rfl (hb hby dc25_76)
    obtain ⟨_, _, ⟨T111, L111, k111, n111⟩, -, X111, ⟨Lc111, hQ111, l111, y111, z111⟩, st111⟩ := Jvm.LawKit.callS X110 hx (y := y_2) hown (mvT hZ (wq hw 45 rfl)) (mvT hZ (wq hw 46 rfl)) (mvT hZ (wq hw 2 rfl)) (mvT hZ (wq hw 47 rfl)) (by decide) (backOf (W := 2) (rmBb l Z a0 hw [] (own_mx u1 t0) h0 n0 O0) hZ (wq hw 47 rfl) (wq hw 2 rfl) (by decide) (by decide)) (g := (mkF m 85 #[vR a1, vI u1, vI (-(j102 + (1 : Int32))), vI (own_mx u1 t0), .unset] [(.int (own_mx u1 t0)), (.long (8 : Int64))])) rfl (by rw [hml]; rfl) (argsL := [(.int (own_mx u1 t0))]) (rest := [(.long (8 : Int64))]) (lenOf pd_10 rfl) rfl (by show 2 * 0 + _ ≤ _; exact Nat.le_of_eq rfl) (hb hby dc25_85) (fun _ _ => ⟨rfl, e110, (by decide : 0 + 0 ≤ _), (by decide : 0 + 0 ≤ _)⟩)
    dsimp only [Pt.U, Pt.locs, Pt.cells, Pt.slots] at X111 l111 y111 z111 st111 hQ111
    subst l111 y111 z111
    obtain ⟨rfl, N111q, hh111⟩ := hQ111
    have N111 := Fr.app N109 N111q
    obtain ⟨T112, X112, e112, st112⟩ := gG X111 hx hZ hown (wq hw 18 rfl) hh111 Fc (g := (mkF m 109 #[vR a1, vI u1, vI (-(j102 + (1 : Int32))), vI (own_mx u1 t0), vI j102] [(.ref a1)])) rfl rfl (hb hby dc25_109)
    obtain ⟨T113, X113, e113, st113⟩ := gG X112 hx hZ hown (wq hw 10 rfl) e112 Fn (g := (mkF m 113 #[vR a1, vI u1, vI (-(j102 + (1 : Int32))), vI (own_mx u1 t0), vI j102] [(.ref a1), (.int (1 : Int32))])) rfl rfl (hb hby dc25_113)
    obtain ⟨cl114, Ar114, q114, S114, N114_, H114, G114⟩ := id Vb
    obtain ⟨T115, X115, e115, st115⟩ := gG X113 hx hZ hown (wq hw 10 rfl) e113 Fn (g := (mkF m 122 #[vR a1, vI u1, vI (-(j102 + (1 : Int32))), vI (own_mx u1 t0), vI j102] [(.ref a1), (.ref a1)])) rfl rfl (hb hby dc25_122)
    obtain ⟨T116, X116, e116, st116⟩ := gG X115 hx hZ hown (wq hw 18 rfl) e115 Fc (g := (mkF m 127 #[vR a1, vI u1, vI (-(j102 + (1 : Int32))), vI (own_mx u1 t0), vI j102] [(.ref a1), (.int (2 : Int32)), (.ref b1), (.ref a1)])) rfl rfl (hb hby dc25_127)
    obtain ⟨_, _, ⟨T117, L117, k117, n117⟩, -, X117, ⟨Lc117, hQ117, l117, y117, z117⟩, st117⟩ := Jvm.LawKit.callS X116 hx (y := y_8) hown (mvT hZ (wq hw 58 rfl)) (mvT hZ (wq hw 59 rfl)) (mvT hZ (wq hw 37 rfl)) (mvT hZ (wq hw 60 rfl)) (by decide) (backOf (W := 1) (rmCi12 l Z a0 hw [] b1 kb t0 h0 n0 O0 Vb) hZ (wq hw 60 rfl) (wq hw 37 rfl) (by decide) (by decide)) (g := (mkF m 131 #[vR a1, vI u1, vI (-(j102 + (1 : Int32))), vI (own_mx u1 t0), vI j102] [(.int (2 : Int32)), (.ref b1), (.ref a1)])) rfl (by rw [hml]; rfl) (argsL := [(.ref b1), (.int (2 : Int32))]) (rest := [(.ref a1)]) (lenOf pd_11 rfl) rfl (by show 2 * 0 + _ ≤ _; exact Nat.le_of_eq rfl) (hb hby dc25_131) (fun _ _ => ⟨rfl, e116, (by decide : 0 + 1 ≤ _), (by decide : 0 + 2 ≤ _)⟩)
    dsimp only [Pt.U, Pt.locs, Pt.cells, Pt.slots] at X117 l117 y117 z117 st117 hQ117
    subst l117 y117 z117
    obtain ⟨b117, kb117, rfl, N117q, gb117, sz117, K117, V117⟩ := hQ117
    have N117 := Fr.app N111 N117q
    have ne117_a1 : a1 ≠ b117 := Nat.ne_of_lt (Nat.lt_of_lt_of_le (Ea).lt sz117)
    have ne117_b1 : b1 ≠ b117 := Nat.ne_of_lt (Nat.lt_of_lt_of_le (Vb).lt sz117)
    have sz0117 : h0.size ≤ b117 := Nat.le_trans ((Keep.refl h0 [a1, b1])).1 sz117
    have f118 := (Ea.keep K117)
    have f119 := (Fn.keep K117 nin0)
    obtain ⟨T120, h120, X120, e120, W120, st120⟩ := putF X117 hx hZ hown (host := "") (Or.inl (wq hw 10 rfl)) Via.refl rfl f119 f118 (Or.inl (wq hw 11 rfl)) (wq hw 1 rfl) (ty := (.array .int)) (by decide) rfl rfl (g := (mkF m 134 #[vR a1, vI u1, vI (-(j102 + (1 : Int32))), vI (own_mx u1 t0), vI j102] [(.ref b117), (.ref a1)])) rfl rfl (hb hby dc25_134)
    have Fw120 : Fld Z h120 a1 sU "numbers" "[I" (.ref b117) := Fld.same W120 f119
    have N120 := Fr.snoc X120 N117 ga
    obtain ⟨T121, X121, e121, st121⟩ := gG X120 hx hZ hown (wq hw 10 rfl) e120 Fw120 (g := (mkF m 138 #[vR a1, vI u1, vI (-(j102 + (1 : Int32))), vI (own_mx u1 t0), vI j102] [(.ref a1)])) rfl rfl (hb hby dc25_138)
    obtain ⟨T122, X122, e122, st122⟩ := gG X121 hx hZ hown (wq hw 10 rfl) e121 Fw120 (g := (mkF m 144 #[vR a1, vI u1, vI (-(j102 + (1 : Int32))), vI (own_mx u1 t0), vI j102] [(.ref a1), (.int j102), (.ref b117)])) rfl rfl (hb hby dc25_144)
    have f123 := ((Fc.keep K117 nin0).other W120 (Or.inr (slot_ne (Or.inl (wq hw 19 rfl)) (Or.inl (wq hw 11 rfl)) (by decide) (t := .int) (t' := (.array .int)) (by decide) (by decide))))
    obtain ⟨T124, X124, e124, st124⟩ := gG X122 hx hZ hown (wq hw 18 rfl) e122 f123 (g := (mkF m 152 #[vR a1, vI u1, vI (-(j102 + (1 : Int32))), vI (own_mx u1 t0), vI j102] [(.ref a1), (.int (j102 + (1 : Int32))), (.ref b117), (.int j102), (.ref b117)])) rfl rfl (hb hby dc25_152)
    have f125 := (V117.other W120 (Ne.symm ne117_a1))
    obtain ⟨T126, h126, L126, X126, e126, N126, K126, V126_, st126⟩ := cpA X124 hx hZ hown (wq hw 50 rfl) (wq hw 53 rfl) (wq hw 51 rfl) (wq hw 52 rfl) e124 f125 f125 (Or.inl ⟨rfl, rfl⟩) (own_cu11 (j1 := j102) (t0 := t0) (own_plj1 hk104a)).1 (own_cu11 (j1 := j102) (t0 := t0) (own_plj1 hk104a)).2.1 (own_cu11 (j1 := j102) (t0 := t0) (own_plj1 hk104a)).2.2.1 (own_cu11 (j1 := j102) (t0 := t0) (own_plj1 hk104a)).2.2.2.1 (own_cu11 (j1 := j102) (t0 := t0) (own_plj1 hk104a)).2.2.2.2.1 rfl (Nat.le_trans (own_cu11 (j1 := j102) (t0 := t0) (own_plj1 hk104a)).2.2.2.2.1 (by decide : (2 : Int32).toNatClampNeg ≤ 2)) N120 gb117 (g := (mkF m 158 #[vR a1, vI u1, vI (-(j102 + (1 : Int32))), vI (own_mx u1 t0), vI j102] [(.int ((1 : Int32) - j102)), (.int (j102 + (1 : Int32))), (.ref b117), (.int j102), (.ref b117)])) rfl (by rw [hml]; rfl) rfl (hb hby dc25_158) (by decide) (W := 0) (by show 2 * 0 + _ ≤ _; exact Nat.le_of_eq rfl) (by decide)
    have V126 : Arv Z h126 b117 kb117 .int (2 : Int32) [(.int t0), (.int (own_up j102 (1 : Int32) (0 : Int32) t0))] (.int (0 : Int32)) := by have q := V126_; rw [(own_cu11 (j1 := j102) (t0 := t0) (own_plj1 hk104a)).2.2.2.2.2] at q; exact q
    have f127 := (Fw120.keep K126 (ninS ne117_a1 nin0))
    obtain ⟨T128, X128, e128, st128⟩ := gG X126 hx hZ hown (wq hw 10 rfl) e126 f127 (g := (mkF m 162 #[vR a1, vI u1, vI (-(j102 + (1 : Int32))), vI (own_mx u1 t0), vI j102] [(.ref a1)])) rfl rfl (hb hby dc25_162)
    obtain ⟨cl129, Ar129, q129, S129, N129_, H129, G129⟩ := id V126
    have hin129 : ¬ (j102 < 0 ∨ cl129.slots.size ≤ (j102).toNatClampNeg) := inb_of S129 (own_su11 (j1 := j102) (u1 := u1) (t0 := t0) (own_plj1 hk104a)).1
    obtain ⟨T130, h130, X130, e130, W130, st130⟩ := stI X128 hx hZ e128 Ar129 (j := j102) hin129 (g := (mkF m 168 #[vR a1, vI u1, vI (-(j102 + (1 : Int32))), vI (own_mx u1 t0), vI j102] [(.int u1), (.int j102), (.ref b117)])) rfl rfl (hb hby dc25_168)
    have V130 : Arv Z h130 b117 kb117 .int (2 : Int32) [(.int (own_pt j102 (0 : Int32) u1 t0 t0)), (.int (own_pt j102 (1 : Int32) u1 (0 : Int32) t0))] (.int (0 : Int32)) := by have q := Arv.set Ar129 q129 S129 N129_ H129 G129 rfl W130 _ rfl (own_su11 (j1 := j102) (u1 := u1) (t0 := t0) (own_plj1 hk104a)).2.1; rw [(own_su11 (j1 := j102) (u1 := u1) (t0 := t0) (own_plj1 hk104a)).2.2] at q; exact q
    have N130 := Fr.snoc X130 N126 gb117
    have f131 := ((f123.keep K126 (ninS ne117_a1 nin0)).other W130 (Or.inl ne117_a1))
    obtain ⟨T132, X132, e132, st132⟩ := gG X130 hx hZ hown (wq hw 18 rfl) e130 f131 (g := (mkF m 171 #[vR a1, vI u1, vI (-(j102 + (1 : Int32))), vI (own_mx u1 t0), vI j102] [(.ref a1), (.ref a1)])) rfl rfl (hb hby dc25_171)
    have f133 := (((f118.wr W120).keep K126).wr W130)
    obtain ⟨T134, h134, X134, e134, W134, st134⟩ := putF X132 hx hZ hown (host := "") (Or.inl (wq hw 18 rfl)) Via.refl e132 f131 f133 (Or.inl (wq hw 19 rfl)) (wq hw 1 rfl) (ty := .int) (by decide) rfl rfl (g := (mkF m 176 #[vR a1, vI u1, vI (-(j102 + (1 : Int32))), vI (own_mx u1 t0), vI j102] [(.int (2 : Int32)), (.ref a1)])) rfl rfl (hb hby dc25_176)
    have Fw134 : Fld Z h134 a1 sU "count" "I" (.int (2 : Int32)) := Fld.same W134 f131
    have N134 := Fr.snoc X134 N130 ga
    obtain ⟨fs, hr, hrun, hended, hW, hsame⟩ := X134.leave (v := none) (fun _ => rfl)
    have K135 : Keep h0 h134 [a1, b1] := (Keep.wr (Keep.wr (Keep.trans (Keep.wr (Keep.trans (Keep.refl h0 [a1, b1]) K117 all0) W120 (Or.inl (List.mem_of_getElem? (i := 0) rfl))) K126 (allS (P := fun x => x ∈ [a1, b1] ∨ h0.size ≤ x) (Or.inr sz0117) all0)) W130 (Or.inr sz0117)) W134 (Or.inl (List.mem_of_getElem? (i := 0) rfl)))
    have f136 := (f133.wr W134)
    have f137 := ((f127.other W130 (Or.inl ne117_a1)).other W134 (Or.inr (slot_ne (Or.inl (wq hw 11 rfl)) (Or.inl (wq hw 19 rfl)) (by decide) (t := (.array .int)) (t' := .int) (by decide) (by decide))))
    have f138 := (((((Fb.keep K117 nin0).other W120 (Or.inr (slot_ne (Or.inl (wq hw 30 rfl)) (Or.inl (wq hw 11 rfl)) (by decide) (t := (.object sB)) (t' := (.array .int)) (by decide) (by decide)))).keep K126 (ninS ne117_a1 nin0)).other W130 (Or.inl ne117_a1)).other W134 (Or.inr (slot_ne (Or.inl (wq hw 30 rfl)) (Or.inl (wq hw 19 rfl)) (by decide) (t := (.object sB)) (t' := .int) (by decide) (by decide))))
    have f139 := (V130.other W134 (Ne.symm ne117_a1))
    refine ⟨_, _, pre103 _ ?_, hrun, hended, _, _, rfl, ?_, ⟨_, rfl⟩, hW, hsame.mono (by decide) (by decide)⟩
    · skip
      show Steps p.tables e below (T102.setTop (mkF m 42 #[vR a1, vI u1, .unset, .unset, .unset] [(.int r102)])) _
      rw [hk104]
      refine XS.istoreN X102.here hx rfl (hb hby dc25_42) rfl (l' := #[vR a1, vI u1, vI (-(j102 + (1 : Int32))), .unset, .unset]) rfl ?_
      refine XS.iloadN X102.here hx rfl (hb hby dc25_43) rfl ?_
      refine XS.ifYes X102.here hx rfl (pc0 := 44) (pc' := 48) rfl (hb hby dc25_44) rfl ((if0 _ _).trans (tlt (own_neg (own_jr1 (own_plj1 hk104a)))).1) (by decide) (by decide) ?_
      refine XS.aloadN X102.here hx rfl (hb hby dc25_48) rfl rfl ?_
      refine st105 _ ?_
      refine XS.ifYes X105.here hx rfl (pc0 := 52) (pc' := 59) rfl (hb hby dc25_52) rfl (by decide) (by decide) (by decide) ?_
      refine XS.iloadN X105.here hx rfl (hb hby dc25_59) rfl ?_
      refine XS.aloadN X105.here hx rfl (hb hby dc25_60) rfl rfl ?_
      refine st106 _ ?_
      refine XS.aloadN X106.here hx rfl (hb hby dc25_64) rfl rfl ?_
      show Steps p.tables e below (T106.setTop (mkF m 65 #[vR a1, vI u1, vI (-(j102 + (1 : Int32))), .unset, .unset] [(.ref a1), (.ref b1), (.int u1)])) _
      refine st107 _ ?_
      refine XS.iconst X107.here hx rfl (hb hby dc25_68) ?_
      refine XS.isub X107.here hx rfl (hb hby dc25_69) rfl ?_
      refine X107.iaload hx (j := (0 : Int32)) (v := (.int t0)) (by rw [e107]; exact Ar108.1) (State.isArrayOf_alike hZ.alike Ar108.2.1) Ar108.2.2 hin108 hat108 (g := (mkF m 70 #[vR a1, vI u1, vI (-(j102 + (1 : Int32))), .unset, .unset] [(.int (0 : Int32)), (.ref b1), (.int u1)])) rfl rfl (hb hby dc25_70) _ ?_
      refine st109 _ ?_
      refine XS.istoreN X109.here hx rfl (hb hby dc25_74) rfl (l' := #[vR a1, vI u1, vI (-(j102 + (1 : Int32))), vI (own_mx u1 t0), .unset]) rfl ?_
      refine XS.aloadN X109.here hx rfl (hb hby dc25_75) rfl rfl ?_
      refine st110 _ ?_
      refine XS.iconst X110.here hx rfl (hb hby dc25_79) ?_
      refine XS.iadd X110.here hx rfl (hb hby dc25_80) rfl ?_
      refine XS.iconst X110.here hx rfl (hb hby dc25_81) ?_
      refine XS.imul X110.here hx rfl (hb hby dc25_82) rfl ?_
      show Steps p.tables e below (T110.setTop (mkF m 83 #[vR a1, vI u1, vI (-(j102 + (1 : Int32))), vI (own_mx u1 t0), .unset] [(.int (8 : Int32))])) _
      refine XS.i2l X110.here hx rfl (hb hby dc25_83) rfl ?_
      refine XS.iloadN X110.here hx rfl (hb hby dc25_84) rfl ?_
      refine st111 _ ?_
      refine XS.lcmp X111.here hx rfl (hb hby dc25_88) rfl ?_
      refine XS.ifYes X111.here hx rfl (pc0 := 89) (pc' := 102) rfl (hb hby dc25_89) rfl ((if0 _ _).trans (flt (mt (lw_gt _ _).mp (by rw [own_bb_lt (own_mx_r hu hr0)]; have e : (8 : Int64).toInt = 8 := rfl; have := (own_mx_r hu hr0); unfold own_r at this; omega))).2.2.2) (by decide) (by decide) ?_
      refine XS.iloadN X111.here hx rfl (hb hby dc25_102) rfl ?_
      refine XS.ineg X111.here hx rfl (hb hby dc25_103) rfl ?_
      refine XS.iconst X111.here hx rfl (hb hby dc25_104) ?_
      refine XS.isub X111.here hx rfl (hb hby dc25_105) rfl ?_
      show Steps p.tables e below (T111.setTop (mkF m 106 #[vR a1, vI u1, vI (-(j102 + (1 : Int32))), vI (own_mx u1 t0), .unset] [(.int ((-(-(j102 + (1 : Int32)))) - (1 : Int32)))])) _
      rw [(own_idx j102)]
      refine XS.istore X111.here hx rfl (hb hby dc25_106) rfl (l' := #[vR a1, vI u1, vI (-(j102 + (1 : Int32))), vI (own_mx u1 t0), vI j102]) rfl ?_
      refine XS.aloadN X111.here hx rfl (hb hby dc25_108) rfl rfl ?_
      show Steps p.tables e below (T111.setTop (mkF m 109 #[vR a1, vI u1, vI (-(j102 + (1 : Int32))), vI (own_mx u1 t0), vI j102] [(.ref a1)])) _
      refine st112 _ ?_
      refine XS.aloadN X112.here hx rfl (hb hby dc25_112) rfl rfl ?_
      refine st113 _ ?_
      refine X113.arraylength hx (by rw [e113]; exact Ar114.1) (State.isArrayOf_alike hZ.alike Ar114.2.1) (g := (mkF m 116 #[vR a1, vI u1, vI (-(j102 + (1 : Int32))), vI (own_mx u1 t0), vI j102] [(.ref b1), (.int (1 : Int32))])) rfl rfl (hb hby dc25_116) _ ?_
      rw [len_of S114 N114_]
      refine XS.icmpNo X113.here hx rfl (hb hby dc25_117) rfl (by decide) ?_
      refine XS.aloadN X113.here hx rfl (hb hby dc25_120) rfl rfl ?_
      refine XS.aloadN X113.here hx rfl (hb hby dc25_121) rfl rfl ?_
      refine st115 _ ?_
      refine XS.iconst X115.here hx rfl (hb hby dc25_125) ?_
      refine XS.aloadN X115.here hx rfl (hb hby dc25_126) rfl rfl ?_
      refine st116 _ ?_
      refine XS.imul X116.here hx rfl (hb hby dc25_130) rfl ?_
      show Steps p.tables e below (T116.setTop (mkF m 131 #[vR a1, vI u1, vI (-(j102 + (1 : Int32))), vI (own_mx u1 t0), vI j102] [(.int (2 : Int32)), (.ref b1), (.ref a1)])) _
      refine st117 _ ?_
      refine st120 _ ?_
      refine XS.aloadN X120.here hx rfl (hb hby dc25_137) rfl rfl ?_
      refine st121 _ ?_
      refine XS.iload X121.here hx rfl (hb hby dc25_141) rfl ?_
      refine XS.aloadN X121.here hx rfl (hb hby dc25_143) rfl rfl ?_
      refine st122 _ ?_
      refine XS.iload X122.here hx rfl (hb hby dc25_147) rfl ?_
      refine XS.iconst X122.here hx rfl (hb hby dc25_149) ?_
      refine XS.iadd X122.here hx rfl (hb hby dc25_150) rfl ?_
      refine XS.aloadN X122.here hx rfl (hb hby dc25_151) rfl rfl ?_
      refine st124 _ ?_
      show Steps p.tables e below (T124.setTop (mkF m 155 #[vR a1, vI u1, vI (-(j102 + (1 : Int32))), vI (own_mx u1 t0), vI j102] [(.int (1 : Int32)), (.int (j102 + (1 : Int32))), (.ref b117), (.int j102), (.ref b117)])) _
      refine XS.iload X124.here hx rfl (hb hby dc25_155) rfl ?_
      refine XS.isub X124.here hx rfl (hb hby dc25_157) rfl ?_
      refine st126 _ ?_
      refine XS.aloadN X126.here hx rfl (hb hby dc25_161) rfl rfl ?_
      refine st128 _ ?_
      refine XS.iload X128.here hx rfl (hb hby dc25_165) rfl ?_
      refine XS.iloadN X128.here hx rfl (hb hby dc25_167) rfl ?_
      refine st130 _ ?_
      refine XS.aloadN X130.here hx rfl (hb hby dc25_169) rfl rfl ?_
      refine XS.dup X130.here hx rfl (hb hby dc25_170) rfl rfl ?_
      refine st132 _ ?_
      refine XS.iconst X132.here hx rfl (hb hby dc25_174) ?_
      show Steps p.tables e below (T132.setTop (mkF m 175 #[vR a1, vI u1, vI (-(j102 + (1 : Int32))), vI (own_mx u1 t0), vI j102] [(.int (1 : Int32)), (.int (1 : Int32)), (.ref a1)])) _
      refine XS.iadd X132.here hx rfl (hb hby dc25_175) rfl ?_
      refine st134 _ ?_
      exact X134.returnOut hx Bd.returns (hb hby dc25_179) hr
    · show Q_ad Z a1 u1 i1 [t0] [a1, b1] h0 n0 _ T134.heap _
      rw [e134]
      exact ⟨rfl, N134, K135, [(own_pt j102 (0 : Int32) u1 t0 t0), (own_pt j102 (1 : Int32) u1 (0 : Int32) t0)], _, ⟨f136, ga, Fw134, Nat.succ_le_succ hi, Or.inl ⟨b117, rfl, gb117, ne117_a1, f137, f138, ⟨_, Or.inr (Or.inr (Or.inr (Or.inr (Or.inl ⟨_, _, rfl, f139⟩))))⟩, (own_ins1 (0 : Int32) hs hu hk104a).1⟩⟩, (own_ins1 (0 : Int32) hs hu hk104a).2, own_w2 (Or.inr sz0117)⟩
theorem rmAd12 (l : Launch) (Z : State) (a0 : Array Value) (hw : HwT a0 Z) (ws : List Jvm.Cond) (a1 b1 : Addr) (kb : ClassId) (t0 t1 u1 : Int32) (i1 : Nat) (h0 : Heap) (n0 : Nat) (O0 : Old Z n0 h0) (Ea : Exa Z h0 a1 sU) (Fn : Fld Z h0 a1 sU "numbers" "[I" (.ref b1)) (Fb : Fld Z h0 a1 sU "bits" "Ljava/util/BitSet;" .null) (Fc : Fld Z h0 a1 sU "count" "I" (.int (1 : Int32))) (ga : n0 ≤ a1) (Vb : Arv Z h0 b1 kb .int (2 : Int32) [(.int t0), (.int t1)] (.int (0 : Int32))) (neab : a1 ≠ b1) (gb : n0 ≤ b1) (hs : Srt [t0]) (hi : 1 ≤ i1) (hi4 : i1 ≤ 4) (hu : own_r u1) (SB : Sta Z Z.heap sB "$assertionsDisabled" "Z" (.int (1 : Int32))) :
    Mt l Z y_25 prog_25_method_5_code 5 none ws ({ frames := 3, cells := 0, slots := 0, locals := 47 } : Room) #[(.ref a1), (.int u1)] h0 (Q_ad Z a1 u1 i1 [t0] [a1, b1] h0 n0) := by
  refine MetFree.of_bodySF (plainFor_of_name pn_0) hisR ?_
  intro p e s m args below meth c s₁ Bd hml0 hP hK
  obtain ⟨rfl, hZ, hh⟩ := hP
  have hx := Bd.exec
  have hby := Bd.bytes
  have hml : c.maxLocals = 5 := hml0
  have hown : s.vm.findClass sU = some m.cls := findClass_of_methodNamed Bd.named
  have hnm := (name_of_methodNamed Bd.named Bd.method).1
  have X0 : Stand p l e ({ frames := 3, cells := 0, slots := 0, locals := 47 } : Room) s m #[(.ref a1), (.int u1)] below meth c s₁ [] 0 0 := Stand.of_body Bd
  have e0 : s₁.heap = h0 := by rw [← hh, Bd.state]; rfl
  have N0 := Fr.nil n0
  have pre0 := fun t (k : Steps p.tables e below (s₁.setTop _) t) => castTop (ef_11 m a1 u1) k
  have hr0 : own_r t0 := by simp only [Srt, own_r] at hs ⊢; omega
  obtain ⟨T101, X101, e101, st101⟩ := gG X0 hx hZ hown (wq hw 29 rfl) e0 Fb (g := (mkF m 1 #[vR a1, vI u1, .unset, .unset, .unset] [(.ref a1)])) rfl rfl (hb hby dc25_1)
  obtain ⟨cq102, q102, q102'⟩ := Exa.cell Ea
  obtain ⟨_, _, ⟨T102, L102, k102, n102⟩, -, X102, ⟨Lc102, hQ102, l102, y102, z102⟩, st102⟩ := X101.privateBack hx (y := y_21) hown (mvT hZ (wq hw 31 rfl)) (mvT hZ (wq hw 32 rfl)) (mvT hZ (own_sel (y := y_21) (wq hw 1 rfl) (wq hw 33 rfl) (wq hw 32 rfl) (by decide))) (Cond.privateMethod_at (mvP hZ (wq hw 33 rfl) (args := #[]))) (mvT hZ (wq hw 34 rfl)) (by decide) (backOf (W := 0) (rmFi l Z a0 hw [] a1 b1 (1 : Int32) u1 2 (own_f2 t0 t1) h0 n0 O0 Fn Fc (Iv.of2 Vb) (by decide) (by decide) (own_mo12) (by decide) (by decide)) hZ (wq hw 34 rfl) (wq hw 2 rfl) (by decide) (by decide)) (g := (mkF m 39 #[vR a1, vI u1, .unset, .unset, .unset] [(.int u1), (.ref a1)])) rfl (by rw [hml]; rfl) (Steps.refl _) (a := a1) (by rw [e101]; exact q102) q102' (argsL := [(.int u1)]) (rest := []) (lenOf pd_0 rfl) rfl (by show 2 * 0 + _ ≤ _; exact Nat.le_of_eq rfl) (hb hby dc25_39) (fun _ _ => ⟨rfl, e101, (by decide : 0 + 0 ≤ _), (by decide : 0 + 0 ≤ _)⟩)
  dsimp only [Pt.U, Pt.locs, Pt.cells, Pt.slots] at X102 l102 y102 z102 st102 hQ102
  subst l102 y102 z102
  obtain ⟨r102, rfl, N102q, hh102, R102⟩ := hQ102
  have N102 := Fr.app N0 N102q
  have pre103 : ∀ t, Steps p.tables e below (T102.setTop (mkF m 42 #[vR a1, vI u1, .unset, .unset, .unset] [(.int r102)])) t → Steps p.tables e below (s₁.setTop (entryFrame m #[(.ref a1), (.int u1)] 5)) t := fun t kt => pre0 t (by
      show Steps p.tables e below (s₁.setTop (mkF m 0 #[vR a1, vI u1, .unset, .unset, .unset] [])) _
      refine XS.aloadN X0.here hx rfl (hb hby dc25_0) rfl rfl ?_
      refine st101 _ ?_
      refine XS.ifnullYes X101.here hx rfl (pc0 := 4) (pc' := 37) rfl (hb hby dc25_4) rfl (by decide) (by decide) ?_
      refine XS.aloadN X101.here hx rfl (hb hby dc25_37) rfl rfl ?_
      refine XS.iloadN X101.here hx rfl (hb hby dc25_38) rfl ?_
      refine st102.trans ?_
      exact kt)
  rcases (own_cv12 R102) with ⟨i102, hk104, hk104a⟩ | ⟨j102, hk104, hk104a⟩
  · skip
    obtain ⟨fs, hr, hrun, hended, hW, hsame⟩ := X102.leave (v := none) (fun _ => rfl)
    refine ⟨_, _, pre103 _ ?_, hrun, hended, _, _, rfl, ?_, ⟨_, rfl⟩, hW, hsame.mono (by decide) (by decide)⟩
    · skip
      show Steps p.tables e below (T102.setTop (mkF m 42 #[vR a1, vI u1, .unset, .unset, .unset] [(.int r102)])) _
      rw [hk104]
      show Steps p.tables e below (T102.setTop (mkF m 42 #[vR a1, vI u1, .unset, .unset, .unset] [(.int i102)])) _
      refine XS.istoreN X102.here hx rfl (hb hby dc25_42) rfl (l' := #[vR a1, vI u1, vI i102, .unset, .unset]) rfl ?_
      refine XS.iloadN X102.here hx rfl (hb hby dc25_43) rfl ?_
      refine XS.ifNo X102.here hx rfl (hb hby dc25_44) rfl ((if0 _ _).trans (flt (own_ir1 (own_ati1 hk104a))).1) ?_
      exact X102.returnOut hx Bd.returns (hb hby dc25_47) hr
    · show Q_ad Z a1 u1 i1 [t0] [a1, b1] h0 n0 _ T102.heap _
      rw [hh102]
      exact ⟨rfl, N102, (Keep.refl h0 [a1, b1]), [t0], _, ⟨Ea, ga, Fc, Nat.le_succ_of_le hi, Or.inl ⟨b1, rfl, gb, neab, Fn, Fb, ⟨_, Or.inr (Or.inr (Or.inr (Or.inl ⟨_, _, rfl, Vb⟩)))⟩, hs⟩⟩, fun x => ⟨Or.inr, fun q => q.elim (fun z => z ▸ own_mem1 hk104a) id⟩, own_w2 (Or.inl rfl)⟩
  · skip
    obtain ⟨T105, X105, e105, st105⟩ := gG X102 hx hZ hown (wq hw 18 rfl) hh102 Fc (g := (mkF m 49 #[vR a1, vI u1, vI (-(j102 + (1 : Int32))), .unset, .unset] [(.ref a1)])) rfl rfl (hb hby dc25_49)
    obtain ⟨T106, X106, e106, st106⟩ := gG X105 hx hZ hown (wq hw 10 rfl) e105 Fn (g := (mkF m 61 #[vR a1, vI u1, vI (-(j102 + (1 : Int32))), .unset, .unset] [(.ref a1), (.int u1)])) rfl rfl (hb hby dc25_61)
    obtain ⟨T107, X107, e107, st107⟩ := gG X106 hx hZ hown (wq hw 18 rfl) e106 Fc (g := (mkF m 65 #[vR a1, vI u1, vI (-(j102 + (1 : Int32))), .unset, .unset] [(.ref a1), (.ref b1), (.int u1)])) rfl rfl (hb hby dc25_65)
    obtain ⟨cl108, Ar108, q108, S108, N108_, H108, G108⟩ := id Vb
    have hin108 : ¬ ((0 : Int32) < 0 ∨ cl108.slots.size ≤ ((0 : Int32)).toNatClampNeg) := inb_of S108 ⟨by decide, by decide⟩
    have hat108 : cl108.slots[((0 : Int32)).toNatClampNeg]? = some (.int t0) := H108.at hin108 rfl
    obtain ⟨_, _, ⟨T109, L109, k109, n109⟩, -, X109, ⟨Lc109, hQ109, l109, y109, z109⟩, st109⟩ := Jvm.LawKit.callS X107 hx (y := y_0) hown (mvT hZ (wq hw 54 rfl)) (mvT hZ (wq hw 55 rfl)) (mvT hZ (wq hw 56 rfl)) (mvT hZ (wq hw 57 rfl)) (by decide) (backOf (W := 0) (rmMx l Z a0 hw [] u1 t0 h0 n0 O0) hZ (wq hw 57 rfl) (wq hw 56 rfl) (by decide) (by decide)) (g := (mkF m 71 #[vR a1, vI u1, vI (-(j102 + (1 : Int32))), .unset, .unset] [(.int t0), (.int u1)])) rfl (by rw [hml]; rfl) (argsL := [(.int u1), (.int t0)]) (rest := []) (lenOf pd_1 rfl) rfl (by show 2 * 0 + _ ≤ _; exact Nat.le_of_eq rfl) (hb hby dc25_71) (fun _ _ => ⟨rfl, e107, (by decide : 0 + 0 ≤ _), (by decide : 0 + 0 ≤ _)⟩)
    dsimp only [Pt.U, Pt.locs, Pt.cells, Pt.slots] at X109 l109 y109 z109 st109 hQ109
    subst l109 y109 z109
    obtain ⟨rfl, N109q, hh109⟩ := hQ109
    have N109 := Fr.app N102 N109q
    obtain ⟨T110, X110, e110, st110⟩ := gG X109 hx hZ hown (wq hw 18 rfl) hh109 Fc (g := (mkF m 76 #[vR a1, vI u1, vI (-(j102 + (1 : Int32))), vI (own_mx u1 t0), .unset] [(.ref a1)])) rfl rfl (hb hby dc25_76)
    obtain ⟨_, _, ⟨T111, L111, k111, n111⟩, -, X111, ⟨Lc111, hQ111, l111, y111, z111⟩, st111⟩ := Jvm.LawKit.callS X110 hx (y := y_2) hown (mvT hZ (wq hw 45 rfl)) (mvT hZ (wq hw 46 rfl)) (mvT hZ (wq hw 2 rfl)) (mvT hZ (wq hw 47 rfl)) (by decide) (backOf (W := 2) (rmBb l Z a0 hw [] (own_mx u1 t0) h0 n0 O0) hZ (wq hw 47 rfl) (wq hw 2 rfl) (by decide) (by decide)) (g := (mkF m 85 #[vR a1, vI u1, vI (-(j102 + (1 : Int32))), vI (own_mx u1 t0), .unset] [(.int (own_mx u1 t0)), (.long (8 : Int64))])) rfl (by rw [hml]; rfl) (argsL := [(.int (own_mx u1 t0))]) (rest := [(.long (8 : Int64))]) (lenOf pd_10 rfl) rfl (by show 2 * 0 + _ ≤ _; exact Nat.le_of_eq rfl) (hb hby dc25_85) (fun _ _ => ⟨rfl, e110, (by decide : 0 + 0 ≤ _), (by decide : 0 + 0 ≤ _)⟩)
    dsimp only [Pt.U, Pt.locs, Pt.cells, Pt.slots] at X111 l111 y111 z111 st111 hQ111
    subst l111 y111 z111
    obtain ⟨rfl, N111q, hh111⟩ := hQ111
    have N111 := Fr.app N109 N111q
    obtain ⟨T112, X112, e112, st112⟩ := gG X111 hx hZ hown (wq hw 18 rfl) hh111 Fc (g := (mkF m 109 #[vR a1, vI u1, vI (-(j102 + (1 : Int32))), vI (own_mx u1 t0), vI j102] [(.ref a1)])) rfl rfl (hb hby dc25_109)
    obtain ⟨T113, X113, e113, st113⟩ := gG X112 hx hZ hown (wq hw 10 rfl) e112 Fn (g := (mkF m 113 #[vR a1, vI u1, vI (-(j102 + (1 : Int32))), vI (own_mx u1 t0), vI j102] [(.ref a1), (.int (1 : Int32))])) rfl rfl (hb hby dc25_113)
    obtain ⟨cl114, Ar114, q114, S114, N114_, H114, G114⟩ := id Vb
    obtain ⟨T115, X115, e115, st115⟩ := gG X113 hx hZ hown (wq hw 10 rfl) e113 Fn (g := (mkF m 138 #[vR a1, vI u1, vI (-(j102 + (1 : Int32))), vI (own_mx u1 t0), vI j102] [(.ref a1)])) rfl rfl (hb hby dc25_138)
    obtain ⟨T116, X116, e116, st116⟩ := gG X115 hx hZ hown (wq hw 10 rfl) e115 Fn (g := (mkF m 144 #[vR a1, vI u1, vI (-(j102 + (1 : Int32))), vI (own_mx u1 t0), vI j102] [(.ref a1), (.int j102), (.ref b1)])) rfl rfl (hb hby dc25_144)
    obtain ⟨T117, X117, e117, st117⟩ := gG X116 hx hZ hown (wq hw 18 rfl) e116 Fc (g := (mkF m 152 #[vR a1, vI u1, vI (-(j102 + (1 : Int32))), vI (own_mx u1 t0), vI j102] [(.ref a1), (.int (j102 + (1 : Int32))), (.ref b1), (.int j102), (.ref b1)])) rfl rfl (hb hby dc25_152)
    obtain ⟨T118, h118, L118, X118, e118, N118, K118, V118_, st118⟩ := cpA X117 hx hZ hown (wq hw 50 rfl) (wq hw 53 rfl) (wq hw 51 rfl) (wq hw 52 rfl) e117 Vb Vb (Or.inl ⟨rfl, rfl⟩) (own_cu12 (j1 := j102) (t0 := t0) (t1 := t1) (own_plj1 hk104a)).1 (own_cu12 (j1 := j102) (t0 := t0) (t1 := t1) (own_plj1 hk104a)).2.1 (own_cu12 (j1 := j102) (t0 := t0) (t1 := t1) (own_plj1 hk104a)).2.2.1 (own_cu12 (j1 := j102) (t0 := t0) (t1 := t1) (own_plj1 hk104a)).2.2.2.1 (own_cu12 (j1 := j102) (t0 := t0) (t1 := t1) (own_plj1 hk104a)).2.2.2.2.1 rfl (Nat.le_trans (own_cu12 (j1 := j102) (t0 := t0) (t1 := t1) (own_plj1 hk104a)).2.2.2.2.1 (by decide : (2 : Int32).toNatClampNeg ≤ 2)) N111 gb (g := (mkF m 158 #[vR a1, vI u1, vI (-(j102 + (1 : Int32))), vI (own_mx u1 t0), vI j102] [(.int ((1 : Int32) - j102)), (.int (j102 + (1 : Int32))), (.ref b1), (.int j102), (.ref b1)])) rfl (by rw [hml]; rfl) rfl (hb hby dc25_158) (by decide) (W := 0) (by show 2 * 0 + _ ≤ _; exact Nat.le_of_eq rfl) (by decide)
    have V118 : Arv Z h118 b1 kb .int (2 : Int32) [(.int t0), (.int (own_up j102 (1 : Int32) t1 t0))] (.int (0 : Int32)) := by have q := V118_; rw [(own_cu12 (j1 := j102) (t0 := t0) (t1 := t1) (own_plj1 hk104a)).2.2.2.2.2] at q; exact q
    have f119 := (Fn.keep K118 (ninS neab nin0))
    obtain ⟨T120, X120, e120, st120⟩ := gG X118 hx hZ hown (wq hw 10 rfl) e118 f119 (g := (mkF m 162 #[vR a1, vI u1, vI (-(j102 + (1 : Int32))), vI (own_mx u1 t0), vI j102] [(.ref a1)])) rfl rfl (hb hby dc25_162)
    obtain ⟨cl121, Ar121, q121, S121, N121_, H121, G121⟩ := id V118
    have hin121 : ¬ (j102 < 0 ∨ cl121.slots.size ≤ (j102).toNatClampNeg) := inb_of S121 (own_su12 (j1 := j102) (u1 := u1) (t0 := t0) (t1 := t1) (own_plj1 hk104a)).1
    obtain ⟨T122, h122, X122, e122, W122, st122⟩ := stI X120 hx hZ e120 Ar121 (j := j102) hin121 (g := (mkF m 168 #[vR a1, vI u1, vI (-(j102 + (1 : Int32))), vI (own_mx u1 t0), vI j102] [(.int u1), (.int j102), (.ref b1)])) rfl rfl (hb hby dc25_168)
    have V122 : Arv Z h122 b1 kb .int (2 : Int32) [(.int (own_pt j102 (0 : Int32) u1 t0 t0)), (.int (own_pt j102 (1 : Int32) u1 t1 t0))] (.int (0 : Int32)) := by have q := Arv.set Ar121 q121 S121 N121_ H121 G121 rfl W122 _ rfl (own_su12 (j1 := j102) (u1 := u1) (t0 := t0) (t1 := t1) (own_plj1 hk104a)).2.1; rw [(own_su12 (j1 := j102) (u1 := u1) (t0 := t0) (t1 := t1) (own_plj1 hk104a)).2.2] at q; exact q
    have N122 := Fr.snoc X122 N118 gb
    have f123 := ((Fc.keep K118 (ninS neab nin0)).other W122 (Or.inl neab))
    obtain ⟨T124, X124, e124, st124⟩ := gG X122 hx hZ hown (wq hw 18 rfl) e122 f123 (g := (mkF m 171 #[vR a1, vI u1, vI (-(j102 + (1 : Int32))), vI (own_mx u1 t0), vI j102] [(.ref a1), (.ref a1)])) rfl rfl (hb hby dc25_171)
    have f125 := ((Ea.keep K118).wr W122)
    obtain ⟨T126, h126, X126, e126, W126, st126⟩ := putF X124 hx hZ hown (host := "") (Or.inl (wq hw 18 rfl)) Via.refl e124 f123 f125 (Or.inl (wq hw 19 rfl)) (wq hw 1 rfl) (ty := .int) (by decide) rfl rfl (g := (mkF m 176 #[vR a1, vI u1, vI (-(j102 + (1 : Int32))), vI (own_mx u1 t0), vI j102] [(.int (2 : Int32)), (.ref a1)])) rfl rfl (hb hby dc25_176)
    have Fw126 : Fld Z h126 a1 sU "count" "I" (.int (2 : Int32)) := Fld.same W126 f123
    have N126 := Fr.snoc X126 N122 ga
    obtain ⟨fs, hr, hrun, hended, hW, hsame⟩ := X126.leave (v := none) (fun _ => rfl)
    have K127 : Keep h0 h126 [a1, b1] := (Keep.wr (Keep.wr (Keep.trans (Keep.refl h0 [a1, b1]) K118 (allS (P := fun x => x ∈ [a1, b1] ∨ h0.size ≤ x) (Or.inl (List.mem_of_getElem? (i := 1) rfl)) all0)) W122 (Or.inl (List.mem_of_getElem? (i := 1) rfl))) W126 (Or.inl (List.mem_of_getElem? (i := 0) rfl)))
    have f128 := (f125.wr W126)
    have f129 := ((f119.other W122 (Or.inl neab)).other W126 (Or.inr (slot_ne (Or.inl (wq hw 11 rfl)) (Or.inl (wq hw 19 rfl)) (by decide) (t := (.array .int)) (t' := .int) (by decide) (by decide))))
    have f130 := (((Fb.keep K118 (ninS neab nin0)).other W122 (Or.inl neab)).other W126 (Or.inr (slot_ne (Or.inl (wq hw 30 rfl)) (Or.inl (wq hw 19 rfl)) (by decide) (t := (.object sB)) (t' := .int) (by decide) (by decide))))
    have f131 := (V122.other W126 (Ne.symm neab))
    refine ⟨_, _, pre103 _ ?_, hrun, hended, _, _, rfl, ?_, ⟨_, rfl⟩, hW, hsame.mono (by decide) (by decide)⟩
    · skip
      show Steps p.tables e below (T102.setTop (mkF m 42 #[vR a1, vI u1, .unset, .unset, .unset] [(.int r102)])) _
      rw [hk104]
      refine XS.istoreN X102.here hx rfl (hb hby dc25_42) rfl (l' := #[vR a1, vI u1, vI (-(j102 + (1 : Int32))), .unset, .unset]) rfl ?_
      refine XS.iloadN X102.here hx rfl (hb hby dc25_43) rfl ?_
      refine XS.ifYes X102.here hx rfl (pc0 := 44) (pc' := 48) rfl (hb hby dc25_44) rfl ((if0 _ _).trans (tlt (own_neg (own_jr1 (own_plj1 hk104a)))).1) (by decide) (by decide) ?_
      refine XS.aloadN X102.here hx rfl (hb hby dc25_48) rfl rfl ?_
      refine st105 _ ?_
      refine XS.ifYes X105.here hx rfl (pc0 := 52) (pc' := 59) rfl (hb hby dc25_52) rfl (by decide) (by decide) (by decide) ?_
      refine XS.iloadN X105.here hx rfl (hb hby dc25_59) rfl ?_
      show Steps p.tables e below (T105.setTop (mkF m 60 #[vR a1, vI u1, vI (-(j102 + (1 : Int32))), .unset, .unset] [(.int u1)])) _
      refine XS.aloadN X105.here hx rfl (hb hby dc25_60) rfl rfl ?_
      refine st106 _ ?_
      refine XS.aloadN X106.here hx rfl (hb hby dc25_64) rfl rfl ?_
      refine st107 _ ?_
      refine XS.iconst X107.here hx rfl (hb hby dc25_68) ?_
      refine XS.isub X107.here hx rfl (hb hby dc25_69) rfl ?_
      refine X107.iaload hx (j := (0 : Int32)) (v := (.int t0)) (by rw [e107]; exact Ar108.1) (State.isArrayOf_alike hZ.alike Ar108.2.1) Ar108.2.2 hin108 hat108 (g := (mkF m 70 #[vR a1, vI u1, vI (-(j102 + (1 : Int32))), .unset, .unset] [(.int (0 : Int32)), (.ref b1), (.int u1)])) rfl rfl (hb hby dc25_70) _ ?_
      refine st109 _ ?_
      refine XS.istoreN X109.here hx rfl (hb hby dc25_74) rfl (l' := #[vR a1, vI u1, vI (-(j102 + (1 : Int32))), vI (own_mx u1 t0), .unset]) rfl ?_
      refine XS.aloadN X109.here hx rfl (hb hby dc25_75) rfl rfl ?_
      refine st110 _ ?_
      refine XS.iconst X110.here hx rfl (hb hby dc25_79) ?_
      show Steps p.tables e below (T110.setTop (mkF m 80 #[vR a1, vI u1, vI (-(j102 + (1 : Int32))), vI (own_mx u1 t0), .unset] [(.int (1 : Int32)), (.int (1 : Int32))])) _
      refine XS.iadd X110.here hx rfl (hb hby dc25_80) rfl ?_
      refine XS.iconst X110.here hx rfl (hb hby dc25_81) ?_
      refine XS.imul X110.here hx rfl (hb hby dc25_82) rfl ?_
      refine XS.i2l X110.here hx rfl (hb hby dc25_83) rfl ?_
      refine XS.iloadN X110.here hx rfl (hb hby dc25_84) rfl ?_
      refine st111 _ ?_
      refine XS.lcmp X111.here hx rfl (hb hby dc25_88) rfl ?_
      refine XS.ifYes X111.here hx rfl (pc0 := 89) (pc' := 102) rfl (hb hby dc25_89) rfl ((if0 _ _).trans (flt (mt (lw_gt _ _).mp (by rw [own_bb_lt (own_mx_r hu hr0)]; have e : (8 : Int64).toInt = 8 := rfl; have := (own_mx_r hu hr0); unfold own_r at this; omega))).2.2.2) (by decide) (by decide) ?_
      refine XS.iloadN X111.here hx rfl (hb hby dc25_102) rfl ?_
      refine XS.ineg X111.here hx rfl (hb hby dc25_103) rfl ?_
      refine XS.iconst X111.here hx rfl (hb hby dc25_104) ?_
      refine XS.isub X111.here hx rfl (hb hby dc25_105) rfl ?_
      show Steps p.tables e below (T111.setTop (mkF m 106 #[vR a1, vI u1, vI (-(j102 + (1 : Int32))), vI (own_mx u1 t0), .unset] [(.int ((-(-(j102 + (1 : Int32)))) - (1 : Int32)))])) _
      rw [(own_idx j102)]
      refine XS.istore X111.here hx rfl (hb hby dc25_106) rfl (l' := #[vR a1, vI u1, vI (-(j102 + (1 : Int32))), vI (own_mx u1 t0), vI j102]) rfl ?_
      refine XS.aloadN X111.here hx rfl (hb hby dc25_108) rfl rfl ?_
      refine st112 _ ?_
      refine XS.aloadN X112.here hx rfl (hb hby dc25_112) rfl rfl ?_
      refine st113 _ ?_
      refine X113.arraylength hx (by rw [e113]; exact Ar114.1) (State.isArrayOf_alike hZ.alike Ar114.2.1) (g := (mkF m 116 #[vR a1, vI u1, vI (-(j102 + (1 : Int32))), vI (own_mx u1 t0), vI j102] [(.ref b1), (.int (1 : Int32))])) rfl rfl (hb hby dc25_116) _ ?_
      rw [len_of S114 N114_]
      refine XS.icmpYes X113.here hx rfl (pc0 := 117) (pc' := 137) rfl (hb hby dc25_117) rfl (by decide) (by decide) (by decide) ?_
      refine XS.aloadN X113.here hx rfl (hb hby dc25_137) rfl rfl ?_
      refine st115 _ ?_
      refine XS.iload X115.here hx rfl (hb hby dc25_141) rfl ?_
      refine XS.aloadN X115.here hx rfl (hb hby dc25_143) rfl rfl ?_
      show Steps p.tables e below (T115.setTop (mkF m 144 #[vR a1, vI u1, vI (-(j102 + (1 : Int32))), vI (own_mx u1 t0), vI j102] [(.ref a1), (.int j102), (.ref b1)])) _
      refine st116 _ ?_
      refine XS.iload X116.here hx rfl (hb hby dc25_147) rfl ?_
      refine XS.iconst X116.here hx rfl (hb hby dc25_149) ?_
      refine XS.iadd X116.here hx rfl (hb hby dc25_150) rfl ?_
      refine XS.aloadN X116.here hx rfl (hb hby dc25_151) rfl rfl ?_
      refine st117 _ ?_
      refine XS.iload X117.here hx rfl (hb hby dc25_155) rfl ?_
      refine XS.isub X117.here hx rfl (hb hby dc25_157) rfl ?_
      refine st118 _ ?_
      refine XS.aloadN X118.here hx rfl (hb hby dc25_161) rfl rfl ?_
      refine st120 _ ?_
      refine XS.iload X120.here hx rfl (hb hby dc25_165) rfl ?_
      show Steps p.tables e below (T120.setTop (mkF m 167 #[vR a1, vI u1, vI (-(j102 + (1 : Int32))), vI (own_mx u1 t0), vI j102] [(.int j102), (.ref b1)])) _
      refine XS.iloadN X120.here hx rfl (hb hby dc25_167) rfl ?_
      refine st122 _ ?_
      refine XS.aloadN X122.here hx rfl (hb hby dc25_169) rfl rfl ?_
      refine XS.dup X122.here hx rfl (hb hby dc25_170) rfl rfl ?_
      refine st124 _ ?_
      refine XS.iconst X124.here hx rfl (hb hby dc25_174) ?_
      refine XS.iadd X124.here hx rfl (hb hby dc25_175) rfl ?_
      refine st126 _ ?_
      exact X126.returnOut hx Bd.returns (hb hby dc25_179) hr
    · show Q_ad Z a1 u1 i1 [t0] [a1, b1] h0 n0 _ T126.heap _
      rw [e126]
      exact ⟨rfl, N126, K127, [(own_pt j102 (0 : Int32) u1 t0 t0), (own_pt j102 (1 : Int32) u1 t1 t0)], _, ⟨f128, ga, Fw126, Nat.succ_le_succ hi, Or.inl ⟨b1, rfl, gb, neab, f129, f130, ⟨_, Or.inr (Or.inr (Or.inr (Or.inr (Or.inl ⟨_, _, rfl, f131⟩))))⟩, (own_ins1 t1 hs hu hk104a).1⟩⟩, (own_ins1 t1 hs hu hk104a).2, own_w2 (Or.inl rfl)⟩
theorem dc25_92 : decode C25 92 = .ok (.aload_n 0, 1) := by decide +kernel
theorem dc25_93 : decode C25 93 = .ok (.invokevirtual 50, 3) := by decide +kernel
theorem dc25_96 : decode C25 96 = .ok (.aload_n 0, 1) := by decide +kernel
theorem dc25_97 : decode C25 97 = .ok (.iload_n 1, 1) := by decide +kernel
theorem dc25_98 : decode C25 98 = .ok (.invokevirtual 53, 3) := by decide +kernel
theorem dc25_101 : decode C25 101 = .ok (.return_, 1) := by decide +kernel
theorem rmAd22 (l : Launch) (Z : State) (a0 : Array Value) (hw : HwT a0 Z) (ws : List Jvm.Cond) (a1 b1 : Addr) (kb : ClassId) (t0 t1 u1 : Int32) (i1 : Nat) (h0 : Heap) (n0 : Nat) (O0 : Old Z n0 h0) (Ea : Exa Z h0 a1 sU) (Fn : Fld Z h0 a1 sU "numbers" "[I" (.ref b1)) (Fb : Fld Z h0 a1 sU "bits" "Ljava/util/BitSet;" .null) (Fc : Fld Z h0 a1 sU "count" "I" (.int (2 : Int32))) (ga : n0 ≤ a1) (Vb : Arv Z h0 b1 kb .int (2 : Int32) [(.int t0), (.int t1)] (.int (0 : Int32))) (neab : a1 ≠ b1) (gb : n0 ≤ b1) (hs : Srt [t0, t1]) (hi : 2 ≤ i1) (hi4 : i1 ≤ 4) (hu : own_r u1) (SB : Sta Z Z.heap sB "$assertionsDisabled" "Z" (.int (1 : Int32))) :
    Mt l Z y_25 prog_25_method_5_code 5 none ws ({ frames := 6, cells := 3, slots := 6, locals := 91 } : Room) #[(.ref a1), (.int u1)] h0 (Q_ad Z a1 u1 i1 [t0, t1] [a1, b1] h0 n0) := by
  refine MetFree.of_bodySF (plainFor_of_name pn_0) hisR ?_
  intro p e s m args below meth c s₁ Bd hml0 hP hK
  obtain ⟨rfl, hZ, hh⟩ := hP
  have hx := Bd.exec
  have hby := Bd.bytes
  have hml : c.maxLocals = 5 := hml0
  have hown : s.vm.findClass sU = some m.cls := findClass_of_methodNamed Bd.named
  have hnm := (name_of_methodNamed Bd.named Bd.method).1
  have X0 : Stand p l e ({ frames := 6, cells := 3, slots := 6, locals := 91 } : Room) s m #[(.ref a1), (.int u1)] below meth c s₁ [] 0 0 := Stand.of_body Bd
  have e0 : s₁.heap = h0 := by rw [← hh, Bd.state]; rfl
  have N0 := Fr.nil n0
  have pre0 := fun t (k : Steps p.tables e below (s₁.setTop _) t) => castTop (ef_11 m a1 u1) k
  have hr0 : own_r t0 := by simp only [Srt, own_r] at hs ⊢; omega
  have hr1 : own_r t1 := by simp only [Srt, own_r] at hs ⊢; omega
  obtain ⟨T101, X101, e101, st101⟩ := gG X0 hx hZ hown (wq hw 29 rfl) e0 Fb (g := (mkF m 1 #[vR a1, vI u1, .unset, .unset, .unset] [(.ref a1)])) rfl rfl (hb hby dc25_1)
  obtain ⟨cq102, q102, q102'⟩ := Exa.cell Ea
  obtain ⟨_, _, ⟨T102, L102, k102, n102⟩, -, X102, ⟨Lc102, hQ102, l102, y102, z102⟩, st102⟩ := X101.privateBack hx (y := y_21) hown (mvT hZ (wq hw 31 rfl)) (mvT hZ (wq hw 32 rfl)) (mvT hZ (own_sel (y := y_21) (wq hw 1 rfl) (wq hw 33 rfl) (wq hw 32 rfl) (by decide))) (Cond.privateMethod_at (mvP hZ (wq hw 33 rfl) (args := #[]))) (mvT hZ (wq hw 34 rfl)) (by decide) (backOf (W := 0) (rmFi l Z a0 hw [] a1 b1 (2 : Int32) u1 2 (own_f2 t0 t1) h0 n0 O0 Fn Fc (Iv.of2 Vb) (by decide) (by decide) (own_mo22 hs) (by decide) (by decide)) hZ (wq hw 34 rfl) (wq hw 2 rfl) (by decide) (by decide)) (g := (mkF m 39 #[vR a1, vI u1, .unset, .unset, .unset] [(.int u1), (.ref a1)])) rfl (by rw [hml]; rfl) (Steps.refl _) (a := a1) (by rw [e101]; exact q102) q102' (argsL := [(.int u1)]) (rest := []) (lenOf pd_0 rfl) rfl (by show 2 * 0 + _ ≤ _; exact Nat.le_of_eq rfl) (hb hby dc25_39) (fun _ _ => ⟨rfl, e101, (by decide : 0 + 0 ≤ _), (by decide : 0 + 0 ≤ _)⟩)
  dsimp only [Pt.U, Pt.locs, Pt.cells, Pt.slots] at X102 l102 y102 z102 st102 hQ102
  subst l102 y102 z102
  obtain ⟨r102, rfl, N102q, hh102, R102⟩ := hQ102
  have N102 := Fr.app N0 N102q
  have pre103 : ∀ t, Steps p.tables e below (T102.setTop (mkF m 42 #[vR a1, vI u1, .unset, .unset, .unset] [(.int r102)])) t → Steps p.tables e below (s₁.setTop (entryFrame m #[(.ref a1), (.int u1)] 5)) t := fun t kt => pre0 t (by
      show Steps p.tables e below (s₁.setTop (mkF m 0 #[vR a1, vI u1, .unset, .unset, .unset] [])) _
      refine XS.aloadN X0.here hx rfl (hb hby dc25_0) rfl rfl ?_
      refine st101 _ ?_
      show Steps p.tables e below (T101.setTop (mkF m 4 #[vR a1, vI u1, .unset, .unset, .unset] [.null])) _
      refine XS.ifnullYes X101.here hx rfl (pc0 := 4) (pc' := 37) rfl (hb hby dc25_4) rfl (by decide) (by decide) ?_
      refine XS.aloadN X101.here hx rfl (hb hby dc25_37) rfl rfl ?_
      refine XS.iloadN X101.here hx rfl (hb hby dc25_38) rfl ?_
      refine st102.trans ?_
      exact kt)
  rcases (own_cv22 R102) with ⟨i102, hk104, hk104a⟩ | ⟨j102, hk104, hk104a⟩
  · skip
    obtain ⟨fs, hr, hrun, hended, hW, hsame⟩ := X102.leave (v := none) (fun _ => rfl)
    refine ⟨_, _, pre103 _ ?_, hrun, hended, _, _, rfl, ?_, ⟨_, rfl⟩, hW, hsame.mono (by decide) (by decide)⟩
    · skip
      show Steps p.tables e below (T102.setTop (mkF m 42 #[vR a1, vI u1, .unset, .unset, .unset] [(.int r102)])) _
      rw [hk104]
      refine XS.istoreN X102.here hx rfl (hb hby dc25_42) rfl (l' := #[vR a1, vI u1, vI i102, .unset, .unset]) rfl ?_
      refine XS.iloadN X102.here hx rfl (hb hby dc25_43) rfl ?_
      refine XS.ifNo X102.here hx rfl (hb hby dc25_44) rfl ((if0 _ _).trans (flt (own_ir2 (own_ati2 hk104a))).1) ?_
      exact X102.returnOut hx Bd.returns (hb hby dc25_47) hr
    · show Q_ad Z a1 u1 i1 [t0, t1] [a1, b1] h0 n0 _ T102.heap _
      rw [hh102]
      exact ⟨rfl, N102, (Keep.refl h0 [a1, b1]), [t0, t1], _, ⟨Ea, ga, Fc, Nat.le_succ_of_le hi, Or.inl ⟨b1, rfl, gb, neab, Fn, Fb, ⟨_, Or.inr (Or.inr (Or.inr (Or.inr (Or.inl ⟨_, _, rfl, Vb⟩))))⟩, hs⟩⟩, fun x => ⟨Or.inr, fun q => q.elim (fun z => z ▸ own_mem2 hk104a) id⟩, own_w2 (Or.inl rfl)⟩
  · skip
    obtain ⟨T105, X105, e105, st105⟩ := gG X102 hx hZ hown (wq hw 18 rfl) hh102 Fc (g := (mkF m 49 #[vR a1, vI u1, vI (-(j102 + (1 : Int32))), .unset, .unset] [(.ref a1)])) rfl rfl (hb hby dc25_49)
    obtain ⟨T106, X106, e106, st106⟩ := gG X105 hx hZ hown (wq hw 10 rfl) e105 Fn (g := (mkF m 61 #[vR a1, vI u1, vI (-(j102 + (1 : Int32))), .unset, .unset] [(.ref a1), (.int u1)])) rfl rfl (hb hby dc25_61)
    obtain ⟨T107, X107, e107, st107⟩ := gG X106 hx hZ hown (wq hw 18 rfl) e106 Fc (g := (mkF m 65 #[vR a1, vI u1, vI (-(j102 + (1 : Int32))), .unset, .unset] [(.ref a1), (.ref b1), (.int u1)])) rfl rfl (hb hby dc25_65)
    obtain ⟨cl108, Ar108, q108, S108, N108_, H108, G108⟩ := id Vb
    have hin108 : ¬ ((1 : Int32) < 0 ∨ cl108.slots.size ≤ ((1 : Int32)).toNatClampNeg) := inb_of S108 ⟨by decide, by decide⟩
    have hat108 : cl108.slots[((1 : Int32)).toNatClampNeg]? = some (.int t1) := H108.at hin108 rfl
    obtain ⟨_, _, ⟨T109, L109, k109, n109⟩, -, X109, ⟨Lc109, hQ109, l109, y109, z109⟩, st109⟩ := Jvm.LawKit.callS X107 hx (y := y_0) hown (mvT hZ (wq hw 54 rfl)) (mvT hZ (wq hw 55 rfl)) (mvT hZ (wq hw 56 rfl)) (mvT hZ (wq hw 57 rfl)) (by decide) (backOf (W := 0) (rmMx l Z a0 hw [] u1 t1 h0 n0 O0) hZ (wq hw 57 rfl) (wq hw 56 rfl) (by decide) (by decide)) (g := (mkF m 71 #[vR a1, vI u1, vI (-(j102 + (1 : Int32))), .unset, .unset] [(.int t1), (.int u1)])) rfl (by rw [hml]; rfl) (argsL := [(.int u1), (.int t1)]) (rest := []) (lenOf pd_1 rfl) rfl (by show 2 * 0 + _ ≤ _; exact Nat.le_of_eq rfl) (hb hby dc25_71) (fun _ _ => ⟨rfl, e107, (by decide : 0 + 0 ≤ _), (by decide : 0 + 0 ≤ _)⟩)
    dsimp only [Pt.U, Pt.locs, Pt.cells, Pt.slots] at X109 l109 y109 z109 st109 hQ109
    subst l109 y109 z109
    obtain ⟨rfl, N109q, hh109⟩ := hQ109
    have N109 := Fr.app N102 N109q
    obtain ⟨T110, X110, e110, st110⟩ := gG X109 hx hZ hown (wq hw 18 rfl) hh109 Fc (g := (mkF m 76 #[vR a1, vI u1, vI (-(j102 + (1 : Int32))), vI (own_mx u1 t1), .unset] [(.ref a1)])) rfl rfl (hb hby dc25_76)
    obtain ⟨_, _, ⟨T111, L111, k111, n111⟩, -, X111, ⟨Lc111, hQ111, l111, y111, z111⟩, st111⟩ := Jvm.LawKit.callS X110 hx (y := y_2) hown (mvT hZ (wq hw 45 rfl)) (mvT hZ (wq hw 46 rfl)) (mvT hZ (wq hw 2 rfl)) (mvT hZ (wq hw 47 rfl)) (by decide) (backOf (W := 2) (rmBb l Z a0 hw [] (own_mx u1 t1) h0 n0 O0) hZ (wq hw 47 rfl) (wq hw 2 rfl) (by decide) (by decide)) (g := (mkF m 85 #[vR a1, vI u1, vI (-(j102 + (1 : Int32))), vI (own_mx u1 t1), .unset] [(.int (own_mx u1 t1)), (.long (12 : Int64))])) rfl (by rw [hml]; rfl) (argsL := [(.int (own_mx u1 t1))]) (rest := [(.long (12 : Int64))]) (lenOf pd_10 rfl) rfl (by show 2 * 0 + _ ≤ _; exact Nat.le_of_eq rfl) (hb hby dc25_85) (fun _ _ => ⟨rfl, e110, (by decide : 0 + 0 ≤ _), (by decide : 0 + 0 ≤ _)⟩)
    dsimp only [Pt.U, Pt.locs, Pt.cells, Pt.slots] at X111 l111 y111 z111 st111 hQ111
    subst l111 y111 z111
    obtain ⟨rfl, N111q, hh111⟩ := hQ111
    have N111 := Fr.app N109 N111q
    have pre112 : ∀ t, Steps p.tables e below (T111.setTop (mkF m 89 #[vR a1, vI u1, vI (-(j102 + (1 : Int32))), vI (own_mx u1 t1), .unset] [(.int (lcmpW (12 : Int64) (own_bb (own_mx u1 t1))))])) t → Steps p.tables e below (s₁.setTop (entryFrame m #[(.ref a1), (.int u1)] 5)) t := fun t kt => pre103 t (by
        show Steps p.tables e below (T102.setTop (mkF m 42 #[vR a1, vI u1, .unset, .unset, .unset] [(.int r102)])) _
        rw [hk104]
        refine XS.istoreN X102.here hx rfl (hb hby dc25_42) rfl (l' := #[vR a1, vI u1, vI (-(j102 + (1 : Int32))), .unset, .unset]) rfl ?_
        refine XS.iloadN X102.here hx rfl (hb hby dc25_43) rfl ?_
        show Steps p.tables e below (T102.setTop (mkF m 44 #[vR a1, vI u1, vI (-(j102 + (1 : Int32))), .unset, .unset] [(.int (-(j102 + (1 : Int32))))])) _
        refine XS.ifYes X102.here hx rfl (pc0 := 44) (pc' := 48) rfl (hb hby dc25_44) rfl ((if0 _ _).trans (tlt (own_neg (own_jr2 (own_plj2 hk104a)))).1) (by decide) (by decide) ?_
        refine XS.aloadN X102.here hx rfl (hb hby dc25_48) rfl rfl ?_
        refine st105 _ ?_
        refine XS.ifYes X105.here hx rfl (pc0 := 52) (pc' := 59) rfl (hb hby dc25_52) rfl (by decide) (by decide) (by decide) ?_
        refine XS.iloadN X105.here hx rfl (hb hby dc25_59) rfl ?_
        refine XS.aloadN X105.here hx rfl (hb hby dc25_60) rfl rfl ?_
        refine st106 _ ?_
        refine XS.aloadN X106.here hx rfl (hb hby dc25_64) rfl rfl ?_
        refine st107 _ ?_
        refine XS.iconst X107.here hx rfl (hb hby dc25_68) ?_
        refine XS.isub X107.here hx rfl (hb hby dc25_69) rfl ?_
        refine X107.iaload hx (j := (1 : Int32)) (v := (.int t1)) (by rw [e107]; exact Ar108.1) (State.isArrayOf_alike hZ.alike Ar108.2.1) Ar108.2.2 hin108 hat108 (g := (mkF m 70 #[vR a1, vI u1, vI (-(j102 + (1 : Int32))), .unset, .unset] [(.int (1 : Int32)), (.ref b1), (.int u1)])) rfl rfl (hb hby dc25_70) _ ?_
        show Steps p.tables e below (T107.setTop (mkF m 71 #[vR a1, vI u1, vI (-(j102 + (1 : Int32))), .unset, .unset] [(.int t1), (.int u1)])) _
        refine st109 _ ?_
        refine XS.istoreN X109.here hx rfl (hb hby dc25_74) rfl (l' := #[vR a1, vI u1, vI (-(j102 + (1 : Int32))), vI (own_mx u1 t1), .unset]) rfl ?_
        refine XS.aloadN X109.here hx rfl (hb hby dc25_75) rfl rfl ?_
        refine st110 _ ?_
        refine XS.iconst X110.here hx rfl (hb hby dc25_79) ?_
        refine XS.iadd X110.here hx rfl (hb hby dc25_80) rfl ?_
        refine XS.iconst X110.here hx rfl (hb hby dc25_81) ?_
        refine XS.imul X110.here hx rfl (hb hby dc25_82) rfl ?_
        refine XS.i2l X110.here hx rfl (hb hby dc25_83) rfl ?_
        refine XS.iloadN X110.here hx rfl (hb hby dc25_84) rfl ?_
        refine st111 _ ?_
        refine XS.lcmp X111.here hx rfl (hb hby dc25_88) rfl ?_
        exact kt)
    by_cases hc113 : (own_bb (own_mx u1 t1)) < (12 : Int64)
    · skip
      obtain ⟨cq114, q114, q114'⟩ := Exa.cell Ea
      obtain ⟨_, _, ⟨T114, L114, k114, n114⟩, -, X114, ⟨Lc114, hQ114, l114, y114, z114⟩, st114⟩ := X111.privateBack hx (y := y_24) hown (mvT hZ (wq hw 65 rfl)) (mvT hZ (wq hw 66 rfl)) (mvT hZ (own_sel (y := y_24) (wq hw 1 rfl) (wq hw 67 rfl) (wq hw 66 rfl) (by decide))) (Cond.privateMethod_at (mvP hZ (wq hw 67 rfl) (args := #[]))) (mvT hZ (wq hw 68 rfl)) (by decide) (backOf (W := 0) (rmTb2 l Z a0 hw [] a1 b1 kb (2 : Int32) [] t0 t1 h0 n0 O0 Ea Fn Fb Fc ga Vb (by decide) neab gb hr0 hr1 (own_l642 hs hu hc113).1 (own_l642 hs hu hc113).2 SB) hZ (wq hw 68 rfl) (wq hw 2 rfl) (by decide) (by decide)) (g := (mkF m 93 #[vR a1, vI u1, vI (-(j102 + (1 : Int32))), vI (own_mx u1 t1), .unset] [(.ref a1)])) rfl (by rw [hml]; rfl) (Steps.refl _) (a := a1) (by rw [hh111]; exact q114) q114' (argsL := []) (rest := []) (lenOf pd_4 rfl) rfl (by show 2 * 0 + _ ≤ _; exact Nat.le_of_eq rfl) (hb hby dc25_93) (fun _ _ => ⟨rfl, hh111, (by decide : 0 + 2 ≤ _), (by decide : 0 + 4 ≤ _)⟩)
      dsimp only [Pt.U, Pt.locs, Pt.cells, Pt.slots] at X114 l114 y114 z114 st114 hQ114
      subst l114 y114 z114
      obtain ⟨c114, d114, rfl, N114q, K114, sc114, sd114, gc114, gd114, Ea114, Fn114, Fb114, Fc114, P114⟩ := hQ114
      have N114 := Fr.app N111 N114q
      have nec114_a1 : a1 ≠ c114 := Nat.ne_of_lt (Nat.lt_of_lt_of_le (Ea).lt sc114)
      have nec114_b1 : b1 ≠ c114 := Nat.ne_of_lt (Nat.lt_of_lt_of_le (Vb).lt sc114)
      have sz0c114 : h0.size ≤ c114 := Nat.le_trans ((Keep.refl h0 [a1, b1])).1 sc114
      have ned114_a1 : a1 ≠ d114 := Nat.ne_of_lt (Nat.lt_of_lt_of_le (Ea).lt sd114)
      have ned114_b1 : b1 ≠ d114 := Nat.ne_of_lt (Nat.lt_of_lt_of_le (Vb).lt sd114)
      have sz0d114 : h0.size ≤ d114 := Nat.le_trans ((Keep.refl h0 [a1, b1])).1 sd114
      have stb := own_tb2 hs hu hk104a
      have K115 : Keep h0 T114.heap [a1, b1] := (Keep.trans (Keep.refl h0 [a1, b1]) K114 (allS (P := fun x => x ∈ [a1, b1] ∨ h0.size ≤ x) (Or.inl (List.mem_of_getElem? (i := 0) rfl)) all0))
      have O116 : Old Z n0 T114.heap := (O0.keep K114 (allS ga all0))
      obtain ⟨cq117, kq117, q117a, q117b, q117c⟩ := isOf hZ rfl Ea114
      obtain ⟨_, _, ⟨T117, L117, k117, n117⟩, -, X117, ⟨Lc117, hQ117, l117, y117, z117⟩, st117⟩ := X114.virtualBack hx (y := y_25) (z := y_25) hown (mvT hZ (wq hw 111 rfl)) (mvT hZ (wq hw 25 rfl)) (notFace_of_selects (args := #[]) (mvT hZ (wq hw 27 rfl))) (mvT hZ (wq hw 27 rfl)) (mvT hZ (wq hw 26 rfl)) (by decide) (backOf (W := 0) (rmAb l Z a0 hw [] a1 c114 d114 (2 : Int32) u1 (own_s0 t1 (own_s0 t0 (0 : Int64))) (own_s1 t1 (own_s1 t0 (0 : Int64))) T114.heap n0 O116 Ea114 Fn114 Fb114 Fc114 ga P114 stb.2.1 gc114 gd114 nec114_a1 ned114_a1 hu SB) hZ (wq hw 28 rfl) (wq hw 2 rfl) (by decide) (by decide)) q117a q117c (g := (mkF m 98 #[vR a1, vI u1, vI (-(j102 + (1 : Int32))), vI (own_mx u1 t1), .unset] [(.int u1), (.ref a1)])) rfl (by rw [hml]; rfl) (Steps.refl _) (argsL := [(.int u1)]) (rest := []) (lenOf pd_3 rfl) rfl (by show 2 * 0 + _ ≤ _; exact Nat.le_of_eq rfl) (hb hby dc25_98) (fun _ _ => ⟨rfl, rfl, (by decide : 2 + 1 ≤ _), (by decide : 4 + 2 ≤ _)⟩)
      dsimp only [Pt.U, Pt.locs, Pt.cells, Pt.slots] at X117 l117 y117 z117 st117 hQ117
      subst l117 y117 z117
      obtain ⟨rfl, N117q, K117, Ea117, Fn117, Fb117, dd117, hd117, gd117, ab117⟩ := hQ117
      have N117 := Fr.app N114 N117q
      obtain ⟨fs, hr, hrun, hended, hW, hsame⟩ := X117.leave (v := none) (fun _ => rfl)
      have K118 : Keep h0 T117.heap [a1, b1] := (Keep.trans K115 K117 (allS (P := fun x => x ∈ [a1, b1] ∨ h0.size ≤ x) (Or.inl (List.mem_of_getElem? (i := 0) rfl)) (allS (P := fun x => x ∈ [a1, b1] ∨ h0.size ≤ x) (Or.inr sz0c114) (allS (P := fun x => x ∈ [a1, b1] ∨ h0.size ≤ x) (Or.inr sz0d114) all0))))
      refine ⟨_, _, pre112 _ ?_, hrun, hended, _, _, rfl, ?_, ⟨_, rfl⟩, hW, hsame.mono (by decide) (by decide)⟩
      · skip
        show Steps p.tables e below (T111.setTop (mkF m 89 #[vR a1, vI u1, vI (-(j102 + (1 : Int32))), vI (own_mx u1 t1), .unset] [(.int (lcmpW (12 : Int64) (own_bb (own_mx u1 t1))))])) _
        refine XS.ifNo X111.here hx rfl (hb hby dc25_89) rfl ((if0 _ _).trans (tlt ((lw_gt _ _).mpr hc113)).2.2.2) ?_
        refine XS.aloadN X111.here hx rfl (hb hby dc25_92) rfl rfl ?_
        refine st114.trans ?_
        refine XS.aloadN X114.here hx rfl (hb hby dc25_96) rfl rfl ?_
        refine XS.iloadN X114.here hx rfl (hb hby dc25_97) rfl ?_
        refine st117.trans ?_
        exact X117.returnOut hx Bd.returns (hb hby dc25_101) hr
      · show Q_ad Z a1 u1 i1 [t0, t1] [a1, b1] h0 n0 _ T117.heap _
        rcases ab117 with ⟨q, -, -⟩ | ⟨-, Fq, Bq⟩
        · exact absurd q stb.2.2.1
        · refine ⟨rfl, N117, K118, (u1 :: [t1, t0]), _, ⟨Ea117, ga, Fq, Nat.succ_le_succ hi, Or.inr ⟨c114, dd117, _, _, rfl, gc114, gd117, nec114_a1, ?_, Fn117, Fb117, Bq.mono (fun q => q.elim), stb.2.2.2.1, stb.2.2.2.2.1, stb.2.2.2.2.2.1, own_lev2 hs hu hi hi4 hc113⟩⟩, stb.2.2.2.2.2.2, allS (Or.inl (by simp)) (allS (Or.inr sz0c114) (allS (Or.inr ?_) all0))⟩
          · rcases hd117 with q | q
            · rw [q]; exact ned114_a1
            · exact Nat.ne_of_lt (Nat.lt_of_lt_of_le Ea114.lt q)
          · rcases hd117 with q | q
            · rw [q]; exact sz0d114
            · exact Nat.le_trans K115.1 q
    · skip
      obtain ⟨T119, X119, e119, st119⟩ := gG X111 hx hZ hown (wq hw 18 rfl) hh111 Fc (g := (mkF m 109 #[vR a1, vI u1, vI (-(j102 + (1 : Int32))), vI (own_mx u1 t1), vI j102] [(.ref a1)])) rfl rfl (hb hby dc25_109)
      obtain ⟨T120, X120, e120, st120⟩ := gG X119 hx hZ hown (wq hw 10 rfl) e119 Fn (g := (mkF m 113 #[vR a1, vI u1, vI (-(j102 + (1 : Int32))), vI (own_mx u1 t1), vI j102] [(.ref a1), (.int (2 : Int32))])) rfl rfl (hb hby dc25_113)
      obtain ⟨cl121, Ar121, q121, S121, N121_, H121, G121⟩ := id Vb
      obtain ⟨T122, X122, e122, st122⟩ := gG X120 hx hZ hown (wq hw 10 rfl) e120 Fn (g := (mkF m 122 #[vR a1, vI u1, vI (-(j102 + (1 : Int32))), vI (own_mx u1 t1), vI j102] [(.ref a1), (.ref a1)])) rfl rfl (hb hby dc25_122)
      obtain ⟨T123, X123, e123, st123⟩ := gG X122 hx hZ hown (wq hw 18 rfl) e122 Fc (g := (mkF m 127 #[vR a1, vI u1, vI (-(j102 + (1 : Int32))), vI (own_mx u1 t1), vI j102] [(.ref a1), (.int (2 : Int32)), (.ref b1), (.ref a1)])) rfl rfl (hb hby dc25_127)
      obtain ⟨_, _, ⟨T124, L124, k124, n124⟩, -, X124, ⟨Lc124, hQ124, l124, y124, z124⟩, st124⟩ := Jvm.LawKit.callS X123 hx (y := y_8) hown (mvT hZ (wq hw 58 rfl)) (mvT hZ (wq hw 59 rfl)) (mvT hZ (wq hw 37 rfl)) (mvT hZ (wq hw 60 rfl)) (by decide) (backOf (W := 1) (rmCi24 l Z a0 hw [] b1 kb t0 t1 h0 n0 O0 Vb) hZ (wq hw 60 rfl) (wq hw 37 rfl) (by decide) (by decide)) (g := (mkF m 131 #[vR a1, vI u1, vI (-(j102 + (1 : Int32))), vI (own_mx u1 t1), vI j102] [(.int (4 : Int32)), (.ref b1), (.ref a1)])) rfl (by rw [hml]; rfl) (argsL := [(.ref b1), (.int (4 : Int32))]) (rest := [(.ref a1)]) (lenOf pd_11 rfl) rfl (by show 2 * 0 + _ ≤ _; exact Nat.le_of_eq rfl) (hb hby dc25_131) (fun _ _ => ⟨rfl, e123, (by decide : 0 + 1 ≤ _), (by decide : 0 + 4 ≤ _)⟩)
      dsimp only [Pt.U, Pt.locs, Pt.cells, Pt.slots] at X124 l124 y124 z124 st124 hQ124
      subst l124 y124 z124
      obtain ⟨b124, kb124, rfl, N124q, gb124, sz124, K124, V124⟩ := hQ124
      have N124 := Fr.app N111 N124q
      have ne124_a1 : a1 ≠ b124 := Nat.ne_of_lt (Nat.lt_of_lt_of_le (Ea).lt sz124)
      have ne124_b1 : b1 ≠ b124 := Nat.ne_of_lt (Nat.lt_of_lt_of_le (Vb).lt sz124)
      have sz0124 : h0.size ≤ b124 := Nat.le_trans ((Keep.refl h0 [a1, b1])).1 sz124
      have f125 := (Ea.keep K124)
      have f126 := (Fn.keep K124 nin0)
      obtain ⟨T127, h127, X127, e127, W127, st127⟩ := putF X124 hx hZ hown (host := "") (Or.inl (wq hw 10 rfl)) Via.refl rfl f126 f125 (Or.inl (wq hw 11 rfl)) (wq hw 1 rfl) (ty := (.array .int)) (by decide) rfl rfl (g := (mkF m 134 #[vR a1, vI u1, vI (-(j102 + (1 : Int32))), vI (own_mx u1 t1), vI j102] [(.ref b124), (.ref a1)])) rfl rfl (hb hby dc25_134)
      have Fw127 : Fld Z h127 a1 sU "numbers" "[I" (.ref b124) := Fld.same W127 f126
      have N127 := Fr.snoc X127 N124 ga
      obtain ⟨T128, X128, e128, st128⟩ := gG X127 hx hZ hown (wq hw 10 rfl) e127 Fw127 (g := (mkF m 138 #[vR a1, vI u1, vI (-(j102 + (1 : Int32))), vI (own_mx u1 t1), vI j102] [(.ref a1)])) rfl rfl (hb hby dc25_138)
      obtain ⟨T129, X129, e129, st129⟩ := gG X128 hx hZ hown (wq hw 10 rfl) e128 Fw127 (g := (mkF m 144 #[vR a1, vI u1, vI (-(j102 + (1 : Int32))), vI (own_mx u1 t1), vI j102] [(.ref a1), (.int j102), (.ref b124)])) rfl rfl (hb hby dc25_144)
      have f130 := ((Fc.keep K124 nin0).other W127 (Or.inr (slot_ne (Or.inl (wq hw 19 rfl)) (Or.inl (wq hw 11 rfl)) (by decide) (t := .int) (t' := (.array .int)) (by decide) (by decide))))
      obtain ⟨T131, X131, e131, st131⟩ := gG X129 hx hZ hown (wq hw 18 rfl) e129 f130 (g := (mkF m 152 #[vR a1, vI u1, vI (-(j102 + (1 : Int32))), vI (own_mx u1 t1), vI j102] [(.ref a1), (.int (j102 + (1 : Int32))), (.ref b124), (.int j102), (.ref b124)])) rfl rfl (hb hby dc25_152)
      have f132 := (V124.other W127 (Ne.symm ne124_a1))
      obtain ⟨T133, h133, L133, X133, e133, N133, K133, V133_, st133⟩ := cpA X131 hx hZ hown (wq hw 50 rfl) (wq hw 53 rfl) (wq hw 51 rfl) (wq hw 52 rfl) e131 f132 f132 (Or.inl ⟨rfl, rfl⟩) (own_cu22 (j1 := j102) (t0 := t0) (t1 := t1) (own_plj2 hk104a)).1 (own_cu22 (j1 := j102) (t0 := t0) (t1 := t1) (own_plj2 hk104a)).2.1 (own_cu22 (j1 := j102) (t0 := t0) (t1 := t1) (own_plj2 hk104a)).2.2.1 (own_cu22 (j1 := j102) (t0 := t0) (t1 := t1) (own_plj2 hk104a)).2.2.2.1 (own_cu22 (j1 := j102) (t0 := t0) (t1 := t1) (own_plj2 hk104a)).2.2.2.2.1 rfl (Nat.le_trans (own_cu22 (j1 := j102) (t0 := t0) (t1 := t1) (own_plj2 hk104a)).2.2.2.2.1 (by decide : (4 : Int32).toNatClampNeg ≤ 4)) N127 gb124 (g := (mkF m 158 #[vR a1, vI u1, vI (-(j102 + (1 : Int32))), vI (own_mx u1 t1), vI j102] [(.int ((2 : Int32) - j102)), (.int (j102 + (1 : Int32))), (.ref b124), (.int j102), (.ref b124)])) rfl (by rw [hml]; rfl) rfl (hb hby dc25_158) (by decide) (W := 0) (by show 2 * 0 + _ ≤ _; exact Nat.le_of_eq rfl) (by decide)
      have V133 : Arv Z h133 b124 kb124 .int (4 : Int32) [(.int t0), (.int (own_up j102 (1 : Int32) t1 t0)), (.int (own_up j102 (2 : Int32) (0 : Int32) t1)), (.int (0 : Int32))] (.int (0 : Int32)) := by have q := V133_; rw [(own_cu22 (j1 := j102) (t0 := t0) (t1 := t1) (own_plj2 hk104a)).2.2.2.2.2] at q; exact q
      have f134 := (Fw127.keep K133 (ninS ne124_a1 nin0))
      obtain ⟨T135, X135, e135, st135⟩ := gG X133 hx hZ hown (wq hw 10 rfl) e133 f134 (g := (mkF m 162 #[vR a1, vI u1, vI (-(j102 + (1 : Int32))), vI (own_mx u1 t1), vI j102] [(.ref a1)])) rfl rfl (hb hby dc25_162)
      obtain ⟨cl136, Ar136, q136, S136, N136_, H136, G136⟩ := id V133
      have hin136 : ¬ (j102 < 0 ∨ cl136.slots.size ≤ (j102).toNatClampNeg) := inb_of S136 (own_su22 (j1 := j102) (u1 := u1) (t0 := t0) (t1 := t1) (own_plj2 hk104a)).1
      obtain ⟨T137, h137, X137, e137, W137, st137⟩ := stI X135 hx hZ e135 Ar136 (j := j102) hin136 (g := (mkF m 168 #[vR a1, vI u1, vI (-(j102 + (1 : Int32))), vI (own_mx u1 t1), vI j102] [(.int u1), (.int j102), (.ref b124)])) rfl rfl (hb hby dc25_168)
      have V137 : Arv Z h137 b124 kb124 .int (4 : Int32) [(.int (own_pt j102 (0 : Int32) u1 t0 t0)), (.int (own_pt j102 (1 : Int32) u1 t1 t0)), (.int (own_pt j102 (2 : Int32) u1 (0 : Int32) t1)), (.int (0 : Int32))] (.int (0 : Int32)) := by have q := Arv.set Ar136 q136 S136 N136_ H136 G136 rfl W137 _ rfl (own_su22 (j1 := j102) (u1 := u1) (t0 := t0) (t1 := t1) (own_plj2 hk104a)).2.1; rw [(own_su22 (j1 := j102) (u1 := u1) (t0 := t0) (t1 := t1) (own_plj2 hk104a)).2.2] at q; exact q
      have N137 := Fr.snoc X137 N133 gb124
      have f138 := ((f130.keep K133 (ninS ne124_a1 nin0)).other W137 (Or.inl ne124_a1))
      obtain ⟨T139, X139, e139, st139⟩ := gG X137 hx hZ hown (wq hw 18 rfl) e137 f138 (g := (mkF m 171 #[vR a1, vI u1, vI (-(j102 + (1 : Int32))), vI (own_mx u1 t1), vI j102] [(.ref a1), (.ref a1)])) rfl rfl (hb hby dc25_171)
      have f140 := (((f125.wr W127).keep K133).wr W137)
      obtain ⟨T141, h141, X141, e141, W141, st141⟩ := putF X139 hx hZ hown (host := "") (Or.inl (wq hw 18 rfl)) Via.refl e139 f138 f140 (Or.inl (wq hw 19 rfl)) (wq hw 1 rfl) (ty := .int) (by decide) rfl rfl (g := (mkF m 176 #[vR a1, vI u1, vI (-(j102 + (1 : Int32))), vI (own_mx u1 t1), vI j102] [(.int (3 : Int32)), (.ref a1)])) rfl rfl (hb hby dc25_176)
      have Fw141 : Fld Z h141 a1 sU "count" "I" (.int (3 : Int32)) := Fld.same W141 f138
      have N141 := Fr.snoc X141 N137 ga
      obtain ⟨fs, hr, hrun, hended, hW, hsame⟩ := X141.leave (v := none) (fun _ => rfl)
      have K142 : Keep h0 h141 [a1, b1] := (Keep.wr (Keep.wr (Keep.trans (Keep.wr (Keep.trans (Keep.refl h0 [a1, b1]) K124 all0) W127 (Or.inl (List.mem_of_getElem? (i := 0) rfl))) K133 (allS (P := fun x => x ∈ [a1, b1] ∨ h0.size ≤ x) (Or.inr sz0124) all0)) W137 (Or.inr sz0124)) W141 (Or.inl (List.mem_of_getElem? (i := 0) rfl)))
      have f143 := (f140.wr W141)
      have f144 := ((f134.other W137 (Or.inl ne124_a1)).other W141 (Or.inr (slot_ne (Or.inl (wq hw 11 rfl)) (Or.inl (wq hw 19 rfl)) (by decide) (t := (.array .int)) (t' := .int) (by decide) (by decide))))
      have f145 := (((((Fb.keep K124 nin0).other W127 (Or.inr (slot_ne (Or.inl (wq hw 30 rfl)) (Or.inl (wq hw 11 rfl)) (by decide) (t := (.object sB)) (t' := (.array .int)) (by decide) (by decide)))).keep K133 (ninS ne124_a1 nin0)).other W137 (Or.inl ne124_a1)).other W141 (Or.inr (slot_ne (Or.inl (wq hw 30 rfl)) (Or.inl (wq hw 19 rfl)) (by decide) (t := (.object sB)) (t' := .int) (by decide) (by decide))))
      have f146 := (V137.other W141 (Ne.symm ne124_a1))
      refine ⟨_, _, pre112 _ ?_, hrun, hended, _, _, rfl, ?_, ⟨_, rfl⟩, hW, hsame.mono (by decide) (by decide)⟩
      · skip
        show Steps p.tables e below (T111.setTop (mkF m 89 #[vR a1, vI u1, vI (-(j102 + (1 : Int32))), vI (own_mx u1 t1), .unset] [(.int (lcmpW (12 : Int64) (own_bb (own_mx u1 t1))))])) _
        refine XS.ifYes X111.here hx rfl (pc0 := 89) (pc' := 102) rfl (hb hby dc25_89) rfl ((if0 _ _).trans (flt (mt (lw_gt _ _).mp hc113)).2.2.2) (by decide) (by decide) ?_
        refine XS.iloadN X111.here hx rfl (hb hby dc25_102) rfl ?_
        refine XS.ineg X111.here hx rfl (hb hby dc25_103) rfl ?_
        refine XS.iconst X111.here hx rfl (hb hby dc25_104) ?_
        show Steps p.tables e below (T111.setTop (mkF m 105 #[vR a1, vI u1, vI (-(j102 + (1 : Int32))), vI (own_mx u1 t1), .unset] [(.int (1 : Int32)), (.int (-(-(j102 + (1 : Int32)))))])) _
        refine XS.isub X111.here hx rfl (hb hby dc25_105) rfl ?_
        show Steps p.tables e below (T111.setTop (mkF m 106 #[vR a1, vI u1, vI (-(j102 + (1 : Int32))), vI (own_mx u1 t1), .unset] [(.int ((-(-(j102 + (1 : Int32)))) - (1 : Int32)))])) _
        rw [(own_idx j102)]
        refine XS.istore X111.here hx rfl (hb hby dc25_106) rfl (l' := #[vR a1, vI u1, vI (-(j102 + (1 : Int32))), vI (own_mx u1 t1), vI j102]) rfl ?_
        refine XS.aloadN X111.here hx rfl (hb hby dc25_108) rfl rfl ?_
        refine st119 _ ?_
        refine XS.aloadN X119.here hx rfl (hb hby dc25_112) rfl rfl ?_
        refine st120 _ ?_
        refine X120.arraylength hx (by rw [e120]; exact Ar121.1) (State.isArrayOf_alike hZ.alike Ar121.2.1) (g := (mkF m 116 #[vR a1, vI u1, vI (-(j102 + (1 : Int32))), vI (own_mx u1 t1), vI j102] [(.ref b1), (.int (2 : Int32))])) rfl rfl (hb hby dc25_116) _ ?_
        rw [len_of S121 N121_]
        refine XS.icmpNo X120.here hx rfl (hb hby dc25_117) rfl (by decide) ?_
        refine XS.aloadN X120.here hx rfl (hb hby dc25_120) rfl rfl ?_
        refine XS.aloadN X120.here hx rfl (hb hby dc25_121) rfl rfl ?_
        refine st122 _ ?_
        show Steps p.tables e below (T122.setTop (mkF m 125 #[vR a1, vI u1, vI (-(j102 + (1 : Int32))), vI (own_mx u1 t1), vI j102] [(.ref b1), (.ref a1)])) _
        refine XS.iconst X122.here hx rfl (hb hby dc25_125) ?_
        refine XS.aloadN X122.here hx rfl (hb hby dc25_126) rfl rfl ?_
        refine st123 _ ?_
        refine XS.imul X123.here hx rfl (hb hby dc25_130) rfl ?_
        refine st124 _ ?_
        refine st127 _ ?_
        refine XS.aloadN X127.here hx rfl (hb hby dc25_137) rfl rfl ?_
        refine st128 _ ?_
        refine XS.iload X128.here hx rfl (hb hby dc25_141) rfl ?_
        refine XS.aloadN X128.here hx rfl (hb hby dc25_143) rfl rfl ?_
        refine st129 _ ?_
        refine XS.iload X129.here hx rfl (hb hby dc25_147) rfl ?_
        show Steps p.tables e below (T129.setTop (mkF m 149 #[vR a1, vI u1, vI (-(j102 + (1 : Int32))), vI (own_mx u1 t1), vI j102] [(.int j102), (.ref b124), (.int j102), (.ref b124)])) _
        refine XS.iconst X129.here hx rfl (hb hby dc25_149) ?_
        refine XS.iadd X129.here hx rfl (hb hby dc25_150) rfl ?_
        refine XS.aloadN X129.here hx rfl (hb hby dc25_151) rfl rfl ?_
        refine st131 _ ?_
        refine XS.iload X131.here hx rfl (hb hby dc25_155) rfl ?_
        refine XS.isub X131.here hx rfl (hb hby dc25_157) rfl ?_
        refine st133 _ ?_
        refine XS.aloadN X133.here hx rfl (hb hby dc25_161) rfl rfl ?_
        refine st135 _ ?_
        refine XS.iload X135.here hx rfl (hb hby dc25_165) rfl ?_
        refine XS.iloadN X135.here hx rfl (hb hby dc25_167) rfl ?_
        refine st137 _ ?_
        show Steps p.tables e below (T137.setTop (mkF m 169 #[vR a1, vI u1, vI (-(j102 + (1 : Int32))), vI (own_mx u1 t1), vI j102] [])) _
        refine XS.aloadN X137.here hx rfl (hb hby dc25_169) rfl rfl ?_
        refine XS.dup X137.here hx rfl (hb hby dc25_170) rfl rfl ?_
        refine st139 _ ?_
        refine XS.iconst X139.here hx rfl (hb hby dc25_174) ?_
        refine XS.iadd X139.here hx rfl (hb hby dc25_175) rfl ?_
        refine st141 _ ?_
        exact X141.returnOut hx Bd.returns (hb hby dc25_179) hr
      · show Q_ad Z a1 u1 i1 [t0, t1] [a1, b1] h0 n0 _ T141.heap _
        rw [e141]
        exact ⟨rfl, N141, K142, [(own_pt j102 (0 : Int32) u1 t0 t0), (own_pt j102 (1 : Int32) u1 t1 t0), (own_pt j102 (2 : Int32) u1 (0 : Int32) t1)], _, ⟨f143, ga, Fw141, Nat.succ_le_succ hi, Or.inl ⟨b124, rfl, gb124, ne124_a1, f144, f145, ⟨_, Or.inr (Or.inr (Or.inr (Or.inr (Or.inr (Or.inr (Or.inl ⟨_, _, _, _, rfl, f146⟩))))))⟩, (own_ins2 (0 : Int32) hs hu hk104a).1⟩⟩, (own_ins2 (0 : Int32) hs hu hk104a).2, own_w2 (Or.inr sz0124)⟩
theorem rmAd24 (l : Launch) (Z : State) (a0 : Array Value) (hw : HwT a0 Z) (ws : List Jvm.Cond) (a1 b1 : Addr) (kb : ClassId) (t0 t1 t2 t3 u1 : Int32) (i1 : Nat) (h0 : Heap) (n0 : Nat) (O0 : Old Z n0 h0) (Ea : Exa Z h0 a1 sU) (Fn : Fld Z h0 a1 sU "numbers" "[I" (.ref b1)) (Fb : Fld Z h0 a1 sU "bits" "Ljava/util/BitSet;" .null) (Fc : Fld Z h0 a1 sU "count" "I" (.int (2 : Int32))) (ga : n0 ≤ a1) (Vb : Arv Z h0 b1 kb .int (4 : Int32) [(.int t0), (.int t1), (.int t2), (.int t3)] (.int (0 : Int32))) (neab : a1 ≠ b1) (gb : n0 ≤ b1) (hs : Srt [t0, t1]) (hi : 2 ≤ i1) (hi4 : i1 ≤ 4) (hu : own_r u1) (SB : Sta Z Z.heap sB "$assertionsDisabled" "Z" (.int (1 : Int32))) :
    Mt l Z y_25 prog_25_method_5_code 5 none ws ({ frames := 6, cells := 3, slots := 6, locals := 91 } : Room) #[(.ref a1), (.int u1)] h0 (Q_ad Z a1 u1 i1 [t0, t1] [a1, b1] h0 n0) := by
  refine MetFree.of_bodySF (plainFor_of_name pn_0) hisR ?_
  intro p e s m args below meth c s₁ Bd hml0 hP hK
  obtain ⟨rfl, hZ, hh⟩ := hP
  have hx := Bd.exec
  have hby := Bd.bytes
  have hml : c.maxLocals = 5 := hml0
  have hown : s.vm.findClass sU = some m.cls := findClass_of_methodNamed Bd.named
  have hnm := (name_of_methodNamed Bd.named Bd.method).1
  have X0 : Stand p l e ({ frames := 6, cells := 3, slots := 6, locals := 91 } : Room) s m #[(.ref a1), (.int u1)] below meth c s₁ [] 0 0 := Stand.of_body Bd
  have e0 : s₁.heap = h0 := by rw [← hh, Bd.state]; rfl
  have N0 := Fr.nil n0
  have pre0 := fun t (k : Steps p.tables e below (s₁.setTop _) t) => castTop (ef_11 m a1 u1) k
  have hr0 : own_r t0 := by simp only [Srt, own_r] at hs ⊢; omega
  have hr1 : own_r t1 := by simp only [Srt, own_r] at hs ⊢; omega
  obtain ⟨T101, X101, e101, st101⟩ := gG X0 hx hZ hown (wq hw 29 rfl) e0 Fb (g := (mkF m 1 #[vR a1, vI u1, .unset, .unset, .unset] [(.ref a1)])) rfl rfl (hb hby dc25_1)
  obtain ⟨cq102, q102, q102'⟩ := Exa.cell Ea
  obtain ⟨_, _, ⟨T102, L102, k102, n102⟩, -, X102, ⟨Lc102, hQ102, l102, y102, z102⟩, st102⟩ := X101.privateBack hx (y := y_21) hown (mvT hZ (wq hw 31 rfl)) (mvT hZ (wq hw 32 rfl)) (mvT hZ (own_sel (y := y_21) (wq hw 1 rfl) (wq hw 33 rfl) (wq hw 32 rfl) (by decide))) (Cond.privateMethod_at (mvP hZ (wq hw 33 rfl) (args := #[]))) (mvT hZ (wq hw 34 rfl)) (by decide) (backOf (W := 0) (rmFi l Z a0 hw [] a1 b1 (2 : Int32) u1 4 (own_f4 t0 t1 t2 t3) h0 n0 O0 Fn Fc (Iv.of4 Vb) (by decide) (by decide) (own_mo24 hs) (by decide) (by decide)) hZ (wq hw 34 rfl) (wq hw 2 rfl) (by decide) (by decide)) (g := (mkF m 39 #[vR a1, vI u1, .unset, .unset, .unset] [(.int u1), (.ref a1)])) rfl (by rw [hml]; rfl) (Steps.refl _) (a := a1) (by rw [e101]; exact q102) q102' (argsL := [(.int u1)]) (rest := []) (lenOf pd_0 rfl) rfl (by show 2 * 0 + _ ≤ _; exact Nat.le_of_eq rfl) (hb hby dc25_39) (fun _ _ => ⟨rfl, e101, (by decide : 0 + 0 ≤ _), (by decide : 0 + 0 ≤ _)⟩)
  dsimp only [Pt.U, Pt.locs, Pt.cells, Pt.slots] at X102 l102 y102 z102 st102 hQ102
  subst l102 y102 z102
  obtain ⟨r102, rfl, N102q, hh102, R102⟩ := hQ102
  have N102 := Fr.app N0 N102q
  have pre103 : ∀ t, Steps p.tables e below (T102.setTop (mkF m 42 #[vR a1, vI u1, .unset, .unset, .unset] [(.int r102)])) t → Steps p.tables e below (s₁.setTop (entryFrame m #[(.ref a1), (.int u1)] 5)) t := fun t kt => pre0 t (by
      show Steps p.tables e below (s₁.setTop (mkF m 0 #[vR a1, vI u1, .unset, .unset, .unset] [])) _
      refine XS.aloadN X0.here hx rfl (hb hby dc25_0) rfl rfl ?_
      refine st101 _ ?_
      refine XS.ifnullYes X101.here hx rfl (pc0 := 4) (pc' := 37) rfl (hb hby dc25_4) rfl (by decide) (by decide) ?_
      refine XS.aloadN X101.here hx rfl (hb hby dc25_37) rfl rfl ?_
      refine XS.iloadN X101.here hx rfl (hb hby dc25_38) rfl ?_
      refine st102.trans ?_
      exact kt)
  rcases (own_cv24 R102) with ⟨i102, hk104, hk104a⟩ | ⟨j102, hk104, hk104a⟩
  · skip
    obtain ⟨fs, hr, hrun, hended, hW, hsame⟩ := X102.leave (v := none) (fun _ => rfl)
    refine ⟨_, _, pre103 _ ?_, hrun, hended, _, _, rfl, ?_, ⟨_, rfl⟩, hW, hsame.mono (by decide) (by decide)⟩
    · skip
      show Steps p.tables e below (T102.setTop (mkF m 42 #[vR a1, vI u1, .unset, .unset, .unset] [(.int r102)])) _
      rw [hk104]
      refine XS.istoreN X102.here hx rfl (hb hby dc25_42) rfl (l' := #[vR a1, vI u1, vI i102, .unset, .unset]) rfl ?_
      refine XS.iloadN X102.here hx rfl (hb hby dc25_43) rfl ?_
      refine XS.ifNo X102.here hx rfl (hb hby dc25_44) rfl ((if0 _ _).trans (flt (own_ir2 (own_ati2 hk104a))).1) ?_
      exact X102.returnOut hx Bd.returns (hb hby dc25_47) hr
    · show Q_ad Z a1 u1 i1 [t0, t1] [a1, b1] h0 n0 _ T102.heap _
      rw [hh102]
      exact ⟨rfl, N102, (Keep.refl h0 [a1, b1]), [t0, t1], _, ⟨Ea, ga, Fc, Nat.le_succ_of_le hi, Or.inl ⟨b1, rfl, gb, neab, Fn, Fb, ⟨_, Or.inr (Or.inr (Or.inr (Or.inr (Or.inr (Or.inl ⟨_, _, _, _, rfl, Vb⟩)))))⟩, hs⟩⟩, fun x => ⟨Or.inr, fun q => q.elim (fun z => z ▸ own_mem2 hk104a) id⟩, own_w2 (Or.inl rfl)⟩
  · skip
    obtain ⟨T105, X105, e105, st105⟩ := gG X102 hx hZ hown (wq hw 18 rfl) hh102 Fc (g := (mkF m 49 #[vR a1, vI u1, vI (-(j102 + (1 : Int32))), .unset, .unset] [(.ref a1)])) rfl rfl (hb hby dc25_49)
    obtain ⟨T106, X106, e106, st106⟩ := gG X105 hx hZ hown (wq hw 10 rfl) e105 Fn (g := (mkF m 61 #[vR a1, vI u1, vI (-(j102 + (1 : Int32))), .unset, .unset] [(.ref a1), (.int u1)])) rfl rfl (hb hby dc25_61)
    obtain ⟨T107, X107, e107, st107⟩ := gG X106 hx hZ hown (wq hw 18 rfl) e106 Fc (g := (mkF m 65 #[vR a1, vI u1, vI (-(j102 + (1 : Int32))), .unset, .unset] [(.ref a1), (.ref b1), (.int u1)])) rfl rfl (hb hby dc25_65)
    obtain ⟨cl108, Ar108, q108, S108, N108_, H108, G108⟩ := id Vb
    have hin108 : ¬ ((1 : Int32) < 0 ∨ cl108.slots.size ≤ ((1 : Int32)).toNatClampNeg) := inb_of S108 ⟨by decide, by decide⟩
    have hat108 : cl108.slots[((1 : Int32)).toNatClampNeg]? = some (.int t1) := H108.at hin108 rfl
    obtain ⟨_, _, ⟨T109, L109, k109, n109⟩, -, X109, ⟨Lc109, hQ109, l109, y109, z109⟩, st109⟩ := Jvm.LawKit.callS X107 hx (y := y_0) hown (mvT hZ (wq hw 54 rfl)) (mvT hZ (wq hw 55 rfl)) (mvT hZ (wq hw 56 rfl)) (mvT hZ (wq hw 57 rfl)) (by decide) (backOf (W := 0) (rmMx l Z a0 hw [] u1 t1 h0 n0 O0) hZ (wq hw 57 rfl) (wq hw 56 rfl) (by decide) (by decide)) (g := (mkF m 71 #[vR a1, vI u1, vI (-(j102 + (1 : Int32))), .unset, .unset] [(.int t1), (.int u1)])) rfl (by rw [hml]; rfl) (argsL := [(.int u1), (.int t1)]) (rest := []) (lenOf pd_1 rfl) rfl (by show 2 * 0 + _ ≤ _; exact Nat.le_of_eq rfl) (hb hby dc25_71) (fun _ _ => ⟨rfl, e107, (by decide : 0 + 0 ≤ _), (by decide : 0 + 0 ≤ _)⟩)
    dsimp only [Pt.U, Pt.locs, Pt.cells, Pt.slots] at X109 l109 y109 z109 st109 hQ109
    subst l109 y109 z109
    obtain ⟨rfl, N109q, hh109⟩ := hQ109
    have N109 := Fr.app N102 N109q
    obtain ⟨T110, X110, e110, st110⟩ := gG X109 hx hZ hown (wq hw 18 rfl) hh109 Fc (g := (mkF m 76 #[vR a1, vI u1, vI (-(j102 + (1 : Int32))), vI (own_mx u1 t1), .unset] [(.ref a1)])) rfl rfl (hb hby dc25_76)
    obtain ⟨_, _, ⟨T111, L111, k111, n111⟩, -, X111, ⟨Lc111, hQ111, l111, y111, z111⟩, st111⟩ := Jvm.LawKit.callS X110 hx (y := y_2) hown (mvT hZ (wq hw 45 rfl)) (mvT hZ (wq hw 46 rfl)) (mvT hZ (wq hw 2 rfl)) (mvT hZ (wq hw 47 rfl)) (by decide) (backOf (W := 2) (rmBb l Z a0 hw [] (own_mx u1 t1) h0 n0 O0) hZ (wq hw 47 rfl) (wq hw 2 rfl) (by decide) (by decide)) (g := (mkF m 85 #[vR a1, vI u1, vI (-(j102 + (1 : Int32))), vI (own_mx u1 t1), .unset] [(.int (own_mx u1 t1)), (.long (12 : Int64))])) rfl (by rw [hml]; rfl) (argsL := [(.int (own_mx u1 t1))]) (rest := [(.long (12 : Int64))]) (lenOf pd_10 rfl) rfl (by show 2 * 0 + _ ≤ _; exact Nat.le_of_eq rfl) (hb hby dc25_85) (fun _ _ => ⟨rfl, e110, (by decide : 0 + 0 ≤ _), (by decide : 0 + 0 ≤ _)⟩)
    dsimp only [Pt.U, Pt.locs, Pt.cells, Pt.slots] at X111 l111 y111 z111 st111 hQ111
    subst l111 y111 z111
    obtain ⟨rfl, N111q, hh111⟩ := hQ111
    have N111 := Fr.app N109 N111q
    have pre112 : ∀ t, Steps p.tables e below (T111.setTop (mkF m 89 #[vR a1, vI u1, vI (-(j102 + (1 : Int32))), vI (own_mx u1 t1), .unset] [(.int (lcmpW (12 : Int64) (own_bb (own_mx u1 t1))))])) t → Steps p.tables e below (s₁.setTop (entryFrame m #[(.ref a1), (.int u1)] 5)) t := fun t kt => pre103 t (by
        show Steps p.tables e below (T102.setTop (mkF m 42 #[vR a1, vI u1, .unset, .unset, .unset] [(.int r102)])) _
        rw [hk104]
        refine XS.istoreN X102.here hx rfl (hb hby dc25_42) rfl (l' := #[vR a1, vI u1, vI (-(j102 + (1 : Int32))), .unset, .unset]) rfl ?_
        refine XS.iloadN X102.here hx rfl (hb hby dc25_43) rfl ?_
        refine XS.ifYes X102.here hx rfl (pc0 := 44) (pc' := 48) rfl (hb hby dc25_44) rfl ((if0 _ _).trans (tlt (own_neg (own_jr2 (own_plj2 hk104a)))).1) (by decide) (by decide) ?_
        refine XS.aloadN X102.here hx rfl (hb hby dc25_48) rfl rfl ?_
        refine st105 _ ?_
        refine XS.ifYes X105.here hx rfl (pc0 := 52) (pc' := 59) rfl (hb hby dc25_52) rfl (by decide) (by decide) (by decide) ?_
        refine XS.iloadN X105.here hx rfl (hb hby dc25_59) rfl ?_
        refine XS.aloadN X105.here hx rfl (hb hby dc25_60) rfl rfl ?_
        refine st106 _ ?_
        refine XS.aloadN X106.here hx rfl (hb hby dc25_64) rfl rfl ?_
        refine st107 _ ?_
        show Steps p.tables e below (T107.setTop (mkF m 68 #[vR a1, vI u1, vI (-(j102 + (1 : Int32))), .unset, .unset] [(.int (2 : Int32)), (.ref b1), (.int u1)])) _
        refine XS.iconst X107.here hx rfl (hb hby dc25_68) ?_
        refine XS.isub X107.here hx rfl (hb hby dc25_69) rfl ?_
        refine X107.iaload hx (j := (1 : Int32)) (v := (.int t1)) (by rw [e107]; exact Ar108.1) (State.isArrayOf_alike hZ.alike Ar108.2.1) Ar108.2.2 hin108 hat108 (g := (mkF m 70 #[vR a1, vI u1, vI (-(j102 + (1 : Int32))), .unset, .unset] [(.int (1 : Int32)), (.ref b1), (.int u1)])) rfl rfl (hb hby dc25_70) _ ?_
        refine st109 _ ?_
        refine XS.istoreN X109.here hx rfl (hb hby dc25_74) rfl (l' := #[vR a1, vI u1, vI (-(j102 + (1 : Int32))), vI (own_mx u1 t1), .unset]) rfl ?_
        refine XS.aloadN X109.here hx rfl (hb hby dc25_75) rfl rfl ?_
        refine st110 _ ?_
        refine XS.iconst X110.here hx rfl (hb hby dc25_79) ?_
        refine XS.iadd X110.here hx rfl (hb hby dc25_80) rfl ?_
        refine XS.iconst X110.here hx rfl (hb hby dc25_81) ?_
        refine XS.imul X110.here hx rfl (hb hby dc25_82) rfl ?_
        refine XS.i2l X110.here hx rfl (hb hby dc25_83) rfl ?_
        show Steps p.tables e below (T110.setTop (mkF m 84 #[vR a1, vI u1, vI (-(j102 + (1 : Int32))), vI (own_mx u1 t1), .unset] [(.long (12 : Int64))])) _
        refine XS.iloadN X110.here hx rfl (hb hby dc25_84) rfl ?_
        refine st111 _ ?_
        refine XS.lcmp X111.here hx rfl (hb hby dc25_88) rfl ?_
        exact kt)
    by_cases hc113 : (own_bb (own_mx u1 t1)) < (12 : Int64)
    · skip
      obtain ⟨cq114, q114, q114'⟩ := Exa.cell Ea
      obtain ⟨_, _, ⟨T114, L114, k114, n114⟩, -, X114, ⟨Lc114, hQ114, l114, y114, z114⟩, st114⟩ := X111.privateBack hx (y := y_24) hown (mvT hZ (wq hw 65 rfl)) (mvT hZ (wq hw 66 rfl)) (mvT hZ (own_sel (y := y_24) (wq hw 1 rfl) (wq hw 67 rfl) (wq hw 66 rfl) (by decide))) (Cond.privateMethod_at (mvP hZ (wq hw 67 rfl) (args := #[]))) (mvT hZ (wq hw 68 rfl)) (by decide) (backOf (W := 0) (rmTb2 l Z a0 hw [] a1 b1 kb (4 : Int32) [(.int t2), (.int t3)] t0 t1 h0 n0 O0 Ea Fn Fb Fc ga Vb (by decide) neab gb hr0 hr1 (own_l642 hs hu hc113).1 (own_l642 hs hu hc113).2 SB) hZ (wq hw 68 rfl) (wq hw 2 rfl) (by decide) (by decide)) (g := (mkF m 93 #[vR a1, vI u1, vI (-(j102 + (1 : Int32))), vI (own_mx u1 t1), .unset] [(.ref a1)])) rfl (by rw [hml]; rfl) (Steps.refl _) (a := a1) (by rw [hh111]; exact q114) q114' (argsL := []) (rest := []) (lenOf pd_4 rfl) rfl (by show 2 * 0 + _ ≤ _; exact Nat.le_of_eq rfl) (hb hby dc25_93) (fun _ _ => ⟨rfl, hh111, (by decide : 0 + 2 ≤ _), (by decide : 0 + 4 ≤ _)⟩)
      dsimp only [Pt.U, Pt.locs, Pt.cells, Pt.slots] at X114 l114 y114 z114 st114 hQ114
      subst l114 y114 z114
      obtain ⟨c114, d114, rfl, N114q, K114, sc114, sd114, gc114, gd114, Ea114, Fn114, Fb114, Fc114, P114⟩ := hQ114
      have N114 := Fr.app N111 N114q
      have nec114_a1 : a1 ≠ c114 := Nat.ne_of_lt (Nat.lt_of_lt_of_le (Ea).lt sc114)
      have nec114_b1 : b1 ≠ c114 := Nat.ne_of_lt (Nat.lt_of_lt_of_le (Vb).lt sc114)
      have sz0c114 : h0.size ≤ c114 := Nat.le_trans ((Keep.refl h0 [a1, b1])).1 sc114
      have ned114_a1 : a1 ≠ d114 := Nat.ne_of_lt (Nat.lt_of_lt_of_le (Ea).lt sd114)
      have ned114_b1 : b1 ≠ d114 := Nat.ne_of_lt (Nat.lt_of_lt_of_le (Vb).lt sd114)
      have sz0d114 : h0.size ≤ d114 := Nat.le_trans ((Keep.refl h0 [a1, b1])).1 sd114
      have stb := own_tb2 hs hu hk104a
      have K115 : Keep h0 T114.heap [a1, b1] := (Keep.trans (Keep.refl h0 [a1, b1]) K114 (allS (P := fun x => x ∈ [a1, b1] ∨ h0.size ≤ x) (Or.inl (List.mem_of_getElem? (i := 0) rfl)) all0))
      have O116 : Old Z n0 T114.heap := (O0.keep K114 (allS ga all0))
      obtain ⟨cq117, kq117, q117a, q117b, q117c⟩ := isOf hZ rfl Ea114
      obtain ⟨_, _, ⟨T117, L117, k117, n117⟩, -, X117, ⟨Lc117, hQ117, l117, y117, z117⟩, st117⟩ := X114.virtualBack hx (y := y_25) (z := y_25) hown (mvT hZ (wq hw 111 rfl)) (mvT hZ (wq hw 25 rfl)) (notFace_of_selects (args := #[]) (mvT hZ (wq hw 27 rfl))) (mvT hZ (wq hw 27 rfl)) (mvT hZ (wq hw 26 rfl)) (by decide) (backOf (W := 0) (rmAb l Z a0 hw [] a1 c114 d114 (2 : Int32) u1 (own_s0 t1 (own_s0 t0 (0 : Int64))) (own_s1 t1 (own_s1 t0 (0 : Int64))) T114.heap n0 O116 Ea114 Fn114 Fb114 Fc114 ga P114 stb.2.1 gc114 gd114 nec114_a1 ned114_a1 hu SB) hZ (wq hw 28 rfl) (wq hw 2 rfl) (by decide) (by decide)) q117a q117c (g := (mkF m 98 #[vR a1, vI u1, vI (-(j102 + (1 : Int32))), vI (own_mx u1 t1), .unset] [(.int u1), (.ref a1)])) rfl (by rw [hml]; rfl) (Steps.refl _) (argsL := [(.int u1)]) (rest := []) (lenOf pd_3 rfl) rfl (by show 2 * 0 + _ ≤ _; exact Nat.le_of_eq rfl) (hb hby dc25_98) (fun _ _ => ⟨rfl, rfl, (by decide : 2 + 1 ≤ _), (by decide : 4 + 2 ≤ _)⟩)
      dsimp only [Pt.U, Pt.locs, Pt.cells, Pt.slots] at X117 l117 y117 z117 st117 hQ117
      subst l117 y117 z117
      obtain ⟨rfl, N117q, K117, Ea117, Fn117, Fb117, dd117, hd117, gd117, ab117⟩ := hQ117
      have N117 := Fr.app N114 N117q
      obtain ⟨fs, hr, hrun, hended, hW, hsame⟩ := X117.leave (v := none) (fun _ => rfl)
      have K118 : Keep h0 T117.heap [a1, b1] := (Keep.trans K115 K117 (allS (P := fun x => x ∈ [a1, b1] ∨ h0.size ≤ x) (Or.inl (List.mem_of_getElem? (i := 0) rfl)) (allS (P := fun x => x ∈ [a1, b1] ∨ h0.size ≤ x) (Or.inr sz0c114) (allS (P := fun x => x ∈ [a1, b1] ∨ h0.size ≤ x) (Or.inr sz0d114) all0))))
      refine ⟨_, _, pre112 _ ?_, hrun, hended, _, _, rfl, ?_, ⟨_, rfl⟩, hW, hsame.mono (by decide) (by decide)⟩
      · skip
        show Steps p.tables e below (T111.setTop (mkF m 89 #[vR a1, vI u1, vI (-(j102 + (1 : Int32))), vI (own_mx u1 t1), .unset] [(.int (lcmpW (12 : Int64) (own_bb (own_mx u1 t1))))])) _
        refine XS.ifNo X111.here hx rfl (hb hby dc25_89) rfl ((if0 _ _).trans (tlt ((lw_gt _ _).mpr hc113)).2.2.2) ?_
        refine XS.aloadN X111.here hx rfl (hb hby dc25_92) rfl rfl ?_
        refine st114.trans ?_
        refine XS.aloadN X114.here hx rfl (hb hby dc25_96) rfl rfl ?_
        refine XS.iloadN X114.here hx rfl (hb hby dc25_97) rfl ?_
        refine st117.trans ?_
        exact X117.returnOut hx Bd.returns (hb hby dc25_101) hr
      · show Q_ad Z a1 u1 i1 [t0, t1] [a1, b1] h0 n0 _ T117.heap _
        rcases ab117 with ⟨q, -, -⟩ | ⟨-, Fq, Bq⟩
        · exact absurd q stb.2.2.1
        · refine ⟨rfl, N117, K118, (u1 :: [t1, t0]), _, ⟨Ea117, ga, Fq, Nat.succ_le_succ hi, Or.inr ⟨c114, dd117, _, _, rfl, gc114, gd117, nec114_a1, ?_, Fn117, Fb117, Bq.mono (fun q => q.elim), stb.2.2.2.1, stb.2.2.2.2.1, stb.2.2.2.2.2.1, own_lev2 hs hu hi hi4 hc113⟩⟩, stb.2.2.2.2.2.2, allS (Or.inl (by simp)) (allS (Or.inr sz0c114) (allS (Or.inr ?_) all0))⟩
          · rcases hd117 with q | q
            · rw [q]; exact ned114_a1
            · exact Nat.ne_of_lt (Nat.lt_of_lt_of_le Ea114.lt q)
          · rcases hd117 with q | q
            · rw [q]; exact sz0d114
            · exact Nat.le_trans K115.1 q
    · skip
      obtain ⟨T119, X119, e119, st119⟩ := gG X111 hx hZ hown (wq hw 18 rfl) hh111 Fc (g := (mkF m 109 #[vR a1, vI u1, vI (-(j102 + (1 : Int32))), vI (own_mx u1 t1), vI j102] [(.ref a1)])) rfl rfl (hb hby dc25_109)
      obtain ⟨T120, X120, e120, st120⟩ := gG X119 hx hZ hown (wq hw 10 rfl) e119 Fn (g := (mkF m 113 #[vR a1, vI u1, vI (-(j102 + (1 : Int32))), vI (own_mx u1 t1), vI j102] [(.ref a1), (.int (2 : Int32))])) rfl rfl (hb hby dc25_113)
      obtain ⟨cl121, Ar121, q121, S121, N121_, H121, G121⟩ := id Vb
      obtain ⟨T122, X122, e122, st122⟩ := gG X120 hx hZ hown (wq hw 10 rfl) e120 Fn (g := (mkF m 138 #[vR a1, vI u1, vI (-(j102 + (1 : Int32))), vI (own_mx u1 t1), vI j102] [(.ref a1)])) rfl rfl (hb hby dc25_138)
      obtain ⟨T123, X123, e123, st123⟩ := gG X122 hx hZ hown (wq hw 10 rfl) e122 Fn (g := (mkF m 144 #[vR a1, vI u1, vI (-(j102 + (1 : Int32))), vI (own_mx u1 t1), vI j102] [(.ref a1), (.int j102), (.ref b1)])) rfl rfl (hb hby dc25_144)
      obtain ⟨T124, X124, e124, st124⟩ := gG X123 hx hZ hown (wq hw 18 rfl) e123 Fc (g := (mkF m 152 #[vR a1, vI u1, vI (-(j102 + (1 : Int32))), vI (own_mx u1 t1), vI j102] [(.ref a1), (.int (j102 + (1 : Int32))), (.ref b1), (.int j102), (.ref b1)])) rfl rfl (hb hby dc25_152)
      obtain ⟨T125, h125, L125, X125, e125, N125, K125, V125_, st125⟩ := cpA X124 hx hZ hown (wq hw 50 rfl) (wq hw 53 rfl) (wq hw 51 rfl) (wq hw 52 rfl) e124 Vb Vb (Or.inl ⟨rfl, rfl⟩) (own_cu24 (j1 := j102) (t0 := t0) (t1 := t1) (t2 := t2) (t3 := t3) (own_plj2 hk104a)).1 (own_cu24 (j1 := j102) (t0 := t0) (t1 := t1) (t2 := t2) (t3 := t3) (own_plj2 hk104a)).2.1 (own_cu24 (j1 := j102) (t0 := t0) (t1 := t1) (t2 := t2) (t3 := t3) (own_plj2 hk104a)).2.2.1 (own_cu24 (j1 := j102) (t0 := t0) (t1 := t1) (t2 := t2) (t3 := t3) (own_plj2 hk104a)).2.2.2.1 (own_cu24 (j1 := j102) (t0 := t0) (t1 := t1) (t2 := t2) (t3 := t3) (own_plj2 hk104a)).2.2.2.2.1 rfl (Nat.le_trans (own_cu24 (j1 := j102) (t0 := t0) (t1 := t1) (t2 := t2) (t3 := t3) (own_plj2 hk104a)).2.2.2.2.1 (by decide : (4 : Int32).toNatClampNeg ≤ 4)) N111 gb (g := (mkF m 158 #[vR a1, vI u1, vI (-(j102 + (1 : Int32))), vI (own_mx u1 t1), vI j102] [(.int ((2 : Int32) - j102)), (.int (j102 + (1 : Int32))), (.ref b1), (.int j102), (.ref b1)])) rfl (by rw [hml]; rfl) rfl (hb hby dc25_158) (by decide) (W := 0) (by show 2 * 0 + _ ≤ _; exact Nat.le_of_eq rfl) (by decide)
      have V125 : Arv Z h125 b1 kb .int (4 : Int32) [(.int t0), (.int (own_up j102 (1 : Int32) t1 t0)), (.int (own_up j102 (2 : Int32) t2 t1)), (.int t3)] (.int (0 : Int32)) := by have q := V125_; rw [(own_cu24 (j1 := j102) (t0 := t0) (t1 := t1) (t2 := t2) (t3 := t3) (own_plj2 hk104a)).2.2.2.2.2] at q; exact q
      have f126 := (Fn.keep K125 (ninS neab nin0))
      obtain ⟨T127, X127, e127, st127⟩ := gG X125 hx hZ hown (wq hw 10 rfl) e125 f126 (g := (mkF m 162 #[vR a1, vI u1, vI (-(j102 + (1 : Int32))), vI (own_mx u1 t1), vI j102] [(.ref a1)])) rfl rfl (hb hby dc25_162)
      obtain ⟨cl128, Ar128, q128, S128, N128_, H128, G128⟩ := id V125
      have hin128 : ¬ (j102 < 0 ∨ cl128.slots.size ≤ (j102).toNatClampNeg) := inb_of S128 (own_su24 (j1 := j102) (u1 := u1) (t0 := t0) (t1 := t1) (t2 := t2) (t3 := t3) (own_plj2 hk104a)).1
      obtain ⟨T129, h129, X129, e129, W129, st129⟩ := stI X127 hx hZ e127 Ar128 (j := j102) hin128 (g := (mkF m 168 #[vR a1, vI u1, vI (-(j102 + (1 : Int32))), vI (own_mx u1 t1), vI j102] [(.int u1), (.int j102), (.ref b1)])) rfl rfl (hb hby dc25_168)
      have V129 : Arv Z h129 b1 kb .int (4 : Int32) [(.int (own_pt j102 (0 : Int32) u1 t0 t0)), (.int (own_pt j102 (1 : Int32) u1 t1 t0)), (.int (own_pt j102 (2 : Int32) u1 t2 t1)), (.int t3)] (.int (0 : Int32)) := by have q := Arv.set Ar128 q128 S128 N128_ H128 G128 rfl W129 _ rfl (own_su24 (j1 := j102) (u1 := u1) (t0 := t0) (t1 := t1) (t2 := t2) (t3 := t3) (own_plj2 hk104a)).2.1; rw [(own_su24 (j1 := j102) (u1 := u1) (t0 := t0) (t1 := t1) (t2 := t2) (t3 := t3) (own_plj2 hk104a)).2.2] at q; exact q
      have N129 := Fr.snoc X129 N125 gb
      have f130 := ((Fc.keep K125 (ninS neab nin0)).other W129 (Or.inl neab))
      obtain ⟨T131, X131, e131, st131⟩ := gG X129 hx hZ hown (wq hw 18 rfl) e129 f130 (g := (mkF m 171 #[vR a1, vI u1, vI (-(j102 + (1 : Int32))), vI (own_mx u1 t1), vI j102] [(.ref a1), (.ref a1)])) rfl rfl (hb hby dc25_171)
      have f132 := ((Ea.keep K125).wr W129)
      obtain ⟨T133, h133, X133, e133, W133, st133⟩ := putF X131 hx hZ hown (host := "") (Or.inl (wq hw 18 rfl)) Via.refl e131 f130 f132 (Or.inl (wq hw 19 rfl)) (wq hw 1 rfl) (ty := .int) (by decide) rfl rfl (g := (mkF m 176 #[vR a1, vI u1, vI (-(j102 + (1 : Int32))), vI (own_mx u1 t1), vI j102] [(.int (3 : Int32)), (.ref a1)])) rfl rfl (hb hby dc25_176)
      have Fw133 : Fld Z h133 a1 sU "count" "I" (.int (3 : Int32)) := Fld.same W133 f130
      have N133 := Fr.snoc X133 N129 ga
      obtain ⟨fs, hr, hrun, hended, hW, hsame⟩ := X133.leave (v := none) (fun _ => rfl)
      have K134 : Keep h0 h133 [a1, b1] := (Keep.wr (Keep.wr (Keep.trans (Keep.refl h0 [a1, b1]) K125 (allS (P := fun x => x ∈ [a1, b1] ∨ h0.size ≤ x) (Or.inl (List.mem_of_getElem? (i := 1) rfl)) all0)) W129 (Or.inl (List.mem_of_getElem? (i := 1) rfl))) W133 (Or.inl (List.mem_of_getElem? (i := 0) rfl)))
      have f135 := (f132.wr W133)
      have f136 := ((f126.other W129 (Or.inl neab)).other W133 (Or.inr (slot_ne (Or.inl (wq hw 11 rfl)) (Or.inl (wq hw 19 rfl)) (by decide) (t := (.array .int)) (t' := .int) (by decide) (by decide))))
      have f137 := (((Fb.keep K125 (ninS neab nin0)).other W129 (Or.inl neab)).other W133 (Or.inr (slot_ne (Or.inl (wq hw 30 rfl)) (Or.inl (wq hw 19 rfl)) (by decide) (t := (.object sB)) (t' := .int) (by decide) (by decide))))
      have f138 := (V129.other W133 (Ne.symm neab))
      refine ⟨_, _, pre112 _ ?_, hrun, hended, _, _, rfl, ?_, ⟨_, rfl⟩, hW, hsame.mono (by decide) (by decide)⟩
      · skip
        show Steps p.tables e below (T111.setTop (mkF m 89 #[vR a1, vI u1, vI (-(j102 + (1 : Int32))), vI (own_mx u1 t1), .unset] [(.int (lcmpW (12 : Int64) (own_bb (own_mx u1 t1))))])) _
        refine XS.ifYes X111.here hx rfl (pc0 := 89) (pc' := 102) rfl (hb hby dc25_89) rfl ((if0 _ _).trans (flt (mt (lw_gt _ _).mp hc113)).2.2.2) (by decide) (by decide) ?_
        show Steps p.tables e below (T111.setTop (mkF m 102 #[vR a1, vI u1, vI (-(j102 + (1 : Int32))), vI (own_mx u1 t1), .unset] [])) _
        refine XS.iloadN X111.here hx rfl (hb hby dc25_102) rfl ?_
        refine XS.ineg X111.here hx rfl (hb hby dc25_103) rfl ?_
        refine XS.iconst X111.here hx rfl (hb hby dc25_104) ?_
        refine XS.isub X111.here hx rfl (hb hby dc25_105) rfl ?_
        show Steps p.tables e below (T111.setTop (mkF m 106 #[vR a1, vI u1, vI (-(j102 + (1 : Int32))), vI (own_mx u1 t1), .unset] [(.int ((-(-(j102 + (1 : Int32)))) - (1 : Int32)))])) _
        rw [(own_idx j102)]
        refine XS.istore X111.here hx rfl (hb hby dc25_106) rfl (l' := #[vR a1, vI u1, vI (-(j102 + (1 : Int32))), vI (own_mx u1 t1), vI j102]) rfl ?_
        refine XS.aloadN X111.here hx rfl (hb hby dc25_108) rfl rfl ?_
        refine st119 _ ?_
        refine XS.aloadN X119.here hx rfl (hb hby dc25_112) rfl rfl ?_
        refine st120 _ ?_
        refine X120.arraylength hx (by rw [e120]; exact Ar121.1) (State.isArrayOf_alike hZ.alike Ar121.2.1) (g := (mkF m 116 #[vR a1, vI u1, vI (-(j102 + (1 : Int32))), vI (own_mx u1 t1), vI j102] [(.ref b1), (.int (2 : Int32))])) rfl rfl (hb hby dc25_116) _ ?_
        rw [len_of S121 N121_]
        refine XS.icmpYes X120.here hx rfl (pc0 := 117) (pc' := 137) rfl (hb hby dc25_117) rfl (by decide) (by decide) (by decide) ?_
        show Steps p.tables e below (T120.setTop (mkF m 137 #[vR a1, vI u1, vI (-(j102 + (1 : Int32))), vI (own_mx u1 t1), vI j102] [])) _
        refine XS.aloadN X120.here hx rfl (hb hby dc25_137) rfl rfl ?_
        refine st122 _ ?_
        refine XS.iload X122.here hx rfl (hb hby dc25_141) rfl ?_
        refine XS.aloadN X122.here hx rfl (hb hby dc25_143) rfl rfl ?_
        refine st123 _ ?_
        refine XS.iload X123.here hx rfl (hb hby dc25_147) rfl ?_
        refine XS.iconst X123.here hx rfl (hb hby dc25_149) ?_
        refine XS.iadd X123.here hx rfl (hb hby dc25_150) rfl ?_
        refine XS.aloadN X123.here hx rfl (hb hby dc25_151) rfl rfl ?_
        refine st124 _ ?_
        refine XS.iload X124.here hx rfl (hb hby dc25_155) rfl ?_
        refine XS.isub X124.here hx rfl (hb hby dc25_157) rfl ?_
        show Steps p.tables e below (T124.setTop (mkF m 158 #[vR a1, vI u1, vI (-(j102 + (1 : Int32))), vI (own_mx u1 t1), vI j102] [(.int ((2 : Int32) - j102)), (.int (j102 + (1 : Int32))), (.ref b1), (.int j102), (.ref b1)])) _
        refine st125 _ ?_
        refine XS.aloadN X125.here hx rfl (hb hby dc25_161) rfl rfl ?_
        refine st127 _ ?_
        refine XS.iload X127.here hx rfl (hb hby dc25_165) rfl ?_
        refine XS.iloadN X127.here hx rfl (hb hby dc25_167) rfl ?_
        refine st129 _ ?_
        refine XS.aloadN X129.here hx rfl (hb hby dc25_169) rfl rfl ?_
        refine XS.dup X129.here hx rfl (hb hby dc25_170) rfl rfl ?_
        refine st131 _ ?_
        refine XS.iconst X131.here hx rfl (hb hby dc25_174) ?_
        refine XS.iadd X131.here hx rfl (hb hby dc25_175) rfl ?_
        refine st133 _ ?_
        show Steps p.tables e below (T133.setTop (mkF m 179 #[vR a1, vI u1, vI (-(j102 + (1 : Int32))), vI (own_mx u1 t1), vI j102] [])) _
        exact X133.returnOut hx Bd.returns (hb hby dc25_179) hr
      · show Q_ad Z a1 u1 i1 [t0, t1] [a1, b1] h0 n0 _ T133.heap _
        rw [e133]
        exact ⟨rfl, N133, K134, [(own_pt j102 (0 : Int32) u1 t0 t0), (own_pt j102 (1 : Int32) u1 t1 t0), (own_pt j102 (2 : Int32) u1 t2 t1)], _, ⟨f135, ga, Fw133, Nat.succ_le_succ hi, Or.inl ⟨b1, rfl, gb, neab, f136, f137, ⟨_, Or.inr (Or.inr (Or.inr (Or.inr (Or.inr (Or.inr (Or.inl ⟨_, _, _, _, rfl, f138⟩))))))⟩, (own_ins2 t2 hs hu hk104a).1⟩⟩, (own_ins2 t2 hs hu hk104a).2, own_w2 (Or.inl rfl)⟩
theorem rmAd34 (l : Launch) (Z : State) (a0 : Array Value) (hw : HwT a0 Z) (ws : List Jvm.Cond) (a1 b1 : Addr) (kb : ClassId) (t0 t1 t2 t3 u1 : Int32) (i1 : Nat) (h0 : Heap) (n0 : Nat) (O0 : Old Z n0 h0) (Ea : Exa Z h0 a1 sU) (Fn : Fld Z h0 a1 sU "numbers" "[I" (.ref b1)) (Fb : Fld Z h0 a1 sU "bits" "Ljava/util/BitSet;" .null) (Fc : Fld Z h0 a1 sU "count" "I" (.int (3 : Int32))) (ga : n0 ≤ a1) (Vb : Arv Z h0 b1 kb .int (4 : Int32) [(.int t0), (.int t1), (.int t2), (.int t3)] (.int (0 : Int32))) (neab : a1 ≠ b1) (gb : n0 ≤ b1) (hs : Srt [t0, t1, t2]) (hi : 3 ≤ i1) (hi4 : i1 ≤ 4) (hu : own_r u1) (SB : Sta Z Z.heap sB "$assertionsDisabled" "Z" (.int (1 : Int32))) :
    Mt l Z y_25 prog_25_method_5_code 5 none ws ({ frames := 6, cells := 3, slots := 6, locals := 91 } : Room) #[(.ref a1), (.int u1)] h0 (Q_ad Z a1 u1 i1 [t0, t1, t2] [a1, b1] h0 n0) := by
  refine MetFree.of_bodySF (plainFor_of_name pn_0) hisR ?_
  intro p e s m args below meth c s₁ Bd hml0 hP hK
  obtain ⟨rfl, hZ, hh⟩ := hP
  have hx := Bd.exec
  have hby := Bd.bytes
  have hml : c.maxLocals = 5 := hml0
  have hown : s.vm.findClass sU = some m.cls := findClass_of_methodNamed Bd.named
  have hnm := (name_of_methodNamed Bd.named Bd.method).1
  have X0 : Stand p l e ({ frames := 6, cells := 3, slots := 6, locals := 91 } : Room) s m #[(.ref a1), (.int u1)] below meth c s₁ [] 0 0 := Stand.of_body Bd
  have e0 : s₁.heap = h0 := by rw [← hh, Bd.state]; rfl
  have N0 := Fr.nil n0
  have pre0 := fun t (k : Steps p.tables e below (s₁.setTop _) t) => castTop (ef_11 m a1 u1) k
  have hr0 : own_r t0 := by simp only [Srt, own_r] at hs ⊢; omega
  have hr1 : own_r t1 := by simp only [Srt, own_r] at hs ⊢; omega
  have hr2 : own_r t2 := by simp only [Srt, own_r] at hs ⊢; omega
  obtain ⟨T101, X101, e101, st101⟩ := gG X0 hx hZ hown (wq hw 29 rfl) e0 Fb (g := (mkF m 1 #[vR a1, vI u1, .unset, .unset, .unset] [(.ref a1)])) rfl rfl (hb hby dc25_1)
  obtain ⟨cq102, q102, q102'⟩ := Exa.cell Ea
  obtain ⟨_, _, ⟨T102, L102, k102, n102⟩, -, X102, ⟨Lc102, hQ102, l102, y102, z102⟩, st102⟩ := X101.privateBack hx (y := y_21) hown (mvT hZ (wq hw 31 rfl)) (mvT hZ (wq hw 32 rfl)) (mvT hZ (own_sel (y := y_21) (wq hw 1 rfl) (wq hw 33 rfl) (wq hw 32 rfl) (by decide))) (Cond.privateMethod_at (mvP hZ (wq hw 33 rfl) (args := #[]))) (mvT hZ (wq hw 34 rfl)) (by decide) (backOf (W := 0) (rmFi l Z a0 hw [] a1 b1 (3 : Int32) u1 4 (own_f4 t0 t1 t2 t3) h0 n0 O0 Fn Fc (Iv.of4 Vb) (by decide) (by decide) (own_mo34 hs) (by decide) (by decide)) hZ (wq hw 34 rfl) (wq hw 2 rfl) (by decide) (by decide)) (g := (mkF m 39 #[vR a1, vI u1, .unset, .unset, .unset] [(.int u1), (.ref a1)])) rfl (by rw [hml]; rfl) (Steps.refl _) (a := a1) (by rw [e101]; exact q102) q102' (argsL := [(.int u1)]) (rest := []) (lenOf pd_0 rfl) rfl (by show 2 * 0 + _ ≤ _; exact Nat.le_of_eq rfl) (hb hby dc25_39) (fun _ _ => ⟨rfl, e101, (by decide : 0 + 0 ≤ _), (by decide : 0 + 0 ≤ _)⟩)
  dsimp only [Pt.U, Pt.locs, Pt.cells, Pt.slots] at X102 l102 y102 z102 st102 hQ102
  subst l102 y102 z102
  obtain ⟨r102, rfl, N102q, hh102, R102⟩ := hQ102
  have N102 := Fr.app N0 N102q
  have pre103 : ∀ t, Steps p.tables e below (T102.setTop (mkF m 42 #[vR a1, vI u1, .unset, .unset, .unset] [(.int r102)])) t → Steps p.tables e below (s₁.setTop (entryFrame m #[(.ref a1), (.int u1)] 5)) t := fun t kt => pre0 t (by
      show Steps p.tables e below (s₁.setTop (mkF m 0 #[vR a1, vI u1, .unset, .unset, .unset] [])) _
      refine XS.aloadN X0.here hx rfl (hb hby dc25_0) rfl rfl ?_
      refine st101 _ ?_
      refine XS.ifnullYes X101.here hx rfl (pc0 := 4) (pc' := 37) rfl (hb hby dc25_4) rfl (by decide) (by decide) ?_
      refine XS.aloadN X101.here hx rfl (hb hby dc25_37) rfl rfl ?_
      refine XS.iloadN X101.here hx rfl (hb hby dc25_38) rfl ?_
      refine st102.trans ?_
      exact kt)
  rcases (own_cv34 R102) with ⟨i102, hk104, hk104a⟩ | ⟨j102, hk104, hk104a⟩
  · skip
    obtain ⟨fs, hr, hrun, hended, hW, hsame⟩ := X102.leave (v := none) (fun _ => rfl)
    refine ⟨_, _, pre103 _ ?_, hrun, hended, _, _, rfl, ?_, ⟨_, rfl⟩, hW, hsame.mono (by decide) (by decide)⟩
    · skip
      show Steps p.tables e below (T102.setTop (mkF m 42 #[vR a1, vI u1, .unset, .unset, .unset] [(.int r102)])) _
      rw [hk104]
      refine XS.istoreN X102.here hx rfl (hb hby dc25_42) rfl (l' := #[vR a1, vI u1, vI i102, .unset, .unset]) rfl ?_
      refine XS.iloadN X102.here hx rfl (hb hby dc25_43) rfl ?_
      refine XS.ifNo X102.here hx rfl (hb hby dc25_44) rfl ((if0 _ _).trans (flt (own_ir3 (own_ati3 hk104a))).1) ?_
      exact X102.returnOut hx Bd.returns (hb hby dc25_47) hr
    · show Q_ad Z a1 u1 i1 [t0, t1, t2] [a1, b1] h0 n0 _ T102.heap _
      rw [hh102]
      exact ⟨rfl, N102, (Keep.refl h0 [a1, b1]), [t0, t1, t2], _, ⟨Ea, ga, Fc, Nat.le_succ_of_le hi, Or.inl ⟨b1, rfl, gb, neab, Fn, Fb, ⟨_, Or.inr (Or.inr (Or.inr (Or.inr (Or.inr (Or.inr (Or.inl ⟨_, _, _, _, rfl, Vb⟩))))))⟩, hs⟩⟩, fun x => ⟨Or.inr, fun q => q.elim (fun z => z ▸ own_mem3 hk104a) id⟩, own_w2 (Or.inl rfl)⟩
  · skip
    obtain ⟨T105, X105, e105, st105⟩ := gG X102 hx hZ hown (wq hw 18 rfl) hh102 Fc (g := (mkF m 49 #[vR a1, vI u1, vI (-(j102 + (1 : Int32))), .unset, .unset] [(.ref a1)])) rfl rfl (hb hby dc25_49)
    obtain ⟨T106, X106, e106, st106⟩ := gG X105 hx hZ hown (wq hw 10 rfl) e105 Fn (g := (mkF m 61 #[vR a1, vI u1, vI (-(j102 + (1 : Int32))), .unset, .unset] [(.ref a1), (.int u1)])) rfl rfl (hb hby dc25_61)
    obtain ⟨T107, X107, e107, st107⟩ := gG X106 hx hZ hown (wq hw 18 rfl) e106 Fc (g := (mkF m 65 #[vR a1, vI u1, vI (-(j102 + (1 : Int32))), .unset, .unset] [(.ref a1), (.ref b1), (.int u1)])) rfl rfl (hb hby dc25_65)
    obtain ⟨cl108, Ar108, q108, S108, N108_, H108, G108⟩ := id Vb
    have hin108 : ¬ ((2 : Int32) < 0 ∨ cl108.slots.size ≤ ((2 : Int32)).toNatClampNeg) := inb_of S108 ⟨by decide, by decide⟩
    have hat108 : cl108.slots[((2 : Int32)).toNatClampNeg]? = some (.int t2) := H108.at hin108 rfl
    obtain ⟨_, _, ⟨T109, L109, k109, n109⟩, -, X109, ⟨Lc109, hQ109, l109, y109, z109⟩, st109⟩ := Jvm.LawKit.callS X107 hx (y := y_0) hown (mvT hZ (wq hw 54 rfl)) (mvT hZ (wq hw 55 rfl)) (mvT hZ (wq hw 56 rfl)) (mvT hZ (wq hw 57 rfl)) (by decide) (backOf (W := 0) (rmMx l Z a0 hw [] u1 t2 h0 n0 O0) hZ (wq hw 57 rfl) (wq hw 56 rfl) (by decide) (by decide)) (g := (mkF m 71 #[vR a1, vI u1, vI (-(j102 + (1 : Int32))), .unset, .unset] [(.int t2), (.int u1)])) rfl (by rw [hml]; rfl) (argsL := [(.int u1), (.int t2)]) (rest := []) (lenOf pd_1 rfl) rfl (by show 2 * 0 + _ ≤ _; exact Nat.le_of_eq rfl) (hb hby dc25_71) (fun _ _ => ⟨rfl, e107, (by decide : 0 + 0 ≤ _), (by decide : 0 + 0 ≤ _)⟩)
    dsimp only [Pt.U, Pt.locs, Pt.cells, Pt.slots] at X109 l109 y109 z109 st109 hQ109
    subst l109 y109 z109
    obtain ⟨rfl, N109q, hh109⟩ := hQ109
    have N109 := Fr.app N102 N109q
    obtain ⟨T110, X110, e110, st110⟩ := gG X109 hx hZ hown (wq hw 18 rfl) hh109 Fc (g := (mkF m 76 #[vR a1, vI u1, vI (-(j102 + (1 : Int32))), vI (own_mx u1 t2), .unset] [(.ref a1)])) rfl rfl (hb hby dc25_76)
    obtain ⟨_, _, ⟨T111, L111, k111, n111⟩, -, X111, ⟨Lc111, hQ111, l111, y111, z111⟩, st111⟩ := Jvm.LawKit.callS X110 hx (y := y_2) hown (mvT hZ (wq hw 45 rfl)) (mvT hZ (wq hw 46 rfl)) (mvT hZ (wq hw 2 rfl)) (mvT hZ (wq hw 47 rfl)) (by decide) (backOf (W := 2) (rmBb l Z a0 hw [] (own_mx u1 t2) h0 n0 O0) hZ (wq hw 47 rfl) (wq hw 2 rfl) (by decide) (by decide)) (g := (mkF m 85 #[vR a1, vI u1, vI (-(j102 + (1 : Int32))), vI (own_mx u1 t2), .unset] [(.int (own_mx u1 t2)), (.long (16 : Int64))])) rfl (by rw [hml]; rfl) (argsL := [(.int (own_mx u1 t2))]) (rest := [(.long (16 : Int64))]) (lenOf pd_10 rfl) rfl (by show 2 * 0 + _ ≤ _; exact Nat.le_of_eq rfl) (hb hby dc25_85) (fun _ _ => ⟨rfl, e110, (by decide : 0 + 0 ≤ _), (by decide : 0 + 0 ≤ _)⟩)
    dsimp only [Pt.U, Pt.locs, Pt.cells, Pt.slots] at X111 l111 y111 z111 st111 hQ111
    subst l111 y111 z111
    obtain ⟨rfl, N111q, hh111⟩ := hQ111
    have N111 := Fr.app N109 N111q
    have pre112 : ∀ t, Steps p.tables e below (T111.setTop (mkF m 89 #[vR a1, vI u1, vI (-(j102 + (1 : Int32))), vI (own_mx u1 t2), .unset] [(.int (lcmpW (16 : Int64) (own_bb (own_mx u1 t2))))])) t → Steps p.tables e below (s₁.setTop (entryFrame m #[(.ref a1), (.int u1)] 5)) t := fun t kt => pre103 t (by
        show Steps p.tables e below (T102.setTop (mkF m 42 #[vR a1, vI u1, .unset, .unset, .unset] [(.int r102)])) _
        rw [hk104]
        refine XS.istoreN X102.here hx rfl (hb hby dc25_42) rfl (l' := #[vR a1, vI u1, vI (-(j102 + (1 : Int32))), .unset, .unset]) rfl ?_
        refine XS.iloadN X102.here hx rfl (hb hby dc25_43) rfl ?_
        refine XS.ifYes X102.here hx rfl (pc0 := 44) (pc' := 48) rfl (hb hby dc25_44) rfl ((if0 _ _).trans (tlt (own_neg (own_jr3 (own_plj3 hk104a)))).1) (by decide) (by decide) ?_
        refine XS.aloadN X102.here hx rfl (hb hby dc25_48) rfl rfl ?_
        refine st105 _ ?_
        refine XS.ifYes X105.here hx rfl (pc0 := 52) (pc' := 59) rfl (hb hby dc25_52) rfl (by decide) (by decide) (by decide) ?_
        refine XS.iloadN X105.here hx rfl (hb hby dc25_59) rfl ?_
        refine XS.aloadN X105.here hx rfl (hb hby dc25_60) rfl rfl ?_
        refine st106 _ ?_
        refine XS.aloadN X106.here hx rfl (hb hby dc25_64) rfl rfl ?_
        refine st107 _ ?_
        show Steps p.tables e below (T107.setTop (mkF m 68 #[vR a1, vI u1, vI (-(j102 + (1 : Int32))), .unset, .unset] [(.int (3 : Int32)), (.ref b1), (.int u1)])) _
        refine XS.iconst X107.here hx rfl (hb hby dc25_68) ?_
        refine XS.isub X107.here hx rfl (hb hby dc25_69) rfl ?_
        refine X107.iaload hx (j := (2 : Int32)) (v := (.int t2)) (by rw [e107]; exact Ar108.1) (State.isArrayOf_alike hZ.alike Ar108.2.1) Ar108.2.2 hin108 hat108 (g := (mkF m 70 #[vR a1, vI u1, vI (-(j102 + (1 : Int32))), .unset, .unset] [(.int (2 : Int32)), (.ref b1), (.int u1)])) rfl rfl (hb hby dc25_70) _ ?_
        refine st109 _ ?_
        refine XS.istoreN X109.here hx rfl (hb hby dc25_74) rfl (l' := #[vR a1, vI u1, vI (-(j102 + (1 : Int32))), vI (own_mx u1 t2), .unset]) rfl ?_
        refine XS.aloadN X109.here hx rfl (hb hby dc25_75) rfl rfl ?_
        refine st110 _ ?_
        refine XS.iconst X110.here hx rfl (hb hby dc25_79) ?_
        refine XS.iadd X110.here hx rfl (hb hby dc25_80) rfl ?_
        refine XS.iconst X110.here hx rfl (hb hby dc25_81) ?_
        refine XS.imul X110.here hx rfl (hb hby dc25_82) rfl ?_
        refine XS.i2l X110.here hx rfl (hb hby dc25_83) rfl ?_
        show Steps p.tables e below (T110.setTop (mkF m 84 #[vR a1, vI u1, vI (-(j102 + (1 : Int32))), vI (own_mx u1 t2), .unset] [(.long (16 : Int64))])) _
        refine XS.iloadN X110.here hx rfl (hb hby dc25_84) rfl ?_
        refine st111 _ ?_
        refine XS.lcmp X111.here hx rfl (hb hby dc25_88) rfl ?_
        exact kt)
    by_cases hc113 : (own_bb (own_mx u1 t2)) < (16 : Int64)
    · skip
      obtain ⟨cq114, q114, q114'⟩ := Exa.cell Ea
      obtain ⟨_, _, ⟨T114, L114, k114, n114⟩, -, X114, ⟨Lc114, hQ114, l114, y114, z114⟩, st114⟩ := X111.privateBack hx (y := y_24) hown (mvT hZ (wq hw 65 rfl)) (mvT hZ (wq hw 66 rfl)) (mvT hZ (own_sel (y := y_24) (wq hw 1 rfl) (wq hw 67 rfl) (wq hw 66 rfl) (by decide))) (Cond.privateMethod_at (mvP hZ (wq hw 67 rfl) (args := #[]))) (mvT hZ (wq hw 68 rfl)) (by decide) (backOf (W := 0) (rmTb3 l Z a0 hw [] a1 b1 kb (4 : Int32) [(.int t3)] t0 t1 t2 h0 n0 O0 Ea Fn Fb Fc ga Vb (by decide) neab gb hr0 hr1 hr2 (own_l643 hs hu hc113).1 (own_l643 hs hu hc113).2.1 (own_l643 hs hu hc113).2.2 SB) hZ (wq hw 68 rfl) (wq hw 2 rfl) (by decide) (by decide)) (g := (mkF m 93 #[vR a1, vI u1, vI (-(j102 + (1 : Int32))), vI (own_mx u1 t2), .unset] [(.ref a1)])) rfl (by rw [hml]; rfl) (Steps.refl _) (a := a1) (by rw [hh111]; exact q114) q114' (argsL := []) (rest := []) (lenOf pd_4 rfl) rfl (by show 2 * 0 + _ ≤ _; exact Nat.le_of_eq rfl) (hb hby dc25_93) (fun _ _ => ⟨rfl, hh111, (by decide : 0 + 2 ≤ _), (by decide : 0 + 4 ≤ _)⟩)
      dsimp only [Pt.U, Pt.locs, Pt.cells, Pt.slots] at X114 l114 y114 z114 st114 hQ114
      subst l114 y114 z114
      obtain ⟨c114, d114, rfl, N114q, K114, sc114, sd114, gc114, gd114, Ea114, Fn114, Fb114, Fc114, P114⟩ := hQ114
      have N114 := Fr.app N111 N114q
      have nec114_a1 : a1 ≠ c114 := Nat.ne_of_lt (Nat.lt_of_lt_of_le (Ea).lt sc114)
      have nec114_b1 : b1 ≠ c114 := Nat.ne_of_lt (Nat.lt_of_lt_of_le (Vb).lt sc114)
      have sz0c114 : h0.size ≤ c114 := Nat.le_trans ((Keep.refl h0 [a1, b1])).1 sc114
      have ned114_a1 : a1 ≠ d114 := Nat.ne_of_lt (Nat.lt_of_lt_of_le (Ea).lt sd114)
      have ned114_b1 : b1 ≠ d114 := Nat.ne_of_lt (Nat.lt_of_lt_of_le (Vb).lt sd114)
      have sz0d114 : h0.size ≤ d114 := Nat.le_trans ((Keep.refl h0 [a1, b1])).1 sd114
      have stb := own_tb3 hs hu hk104a
      have K115 : Keep h0 T114.heap [a1, b1] := (Keep.trans (Keep.refl h0 [a1, b1]) K114 (allS (P := fun x => x ∈ [a1, b1] ∨ h0.size ≤ x) (Or.inl (List.mem_of_getElem? (i := 0) rfl)) all0))
      have O116 : Old Z n0 T114.heap := (O0.keep K114 (allS ga all0))
      obtain ⟨cq117, kq117, q117a, q117b, q117c⟩ := isOf hZ rfl Ea114
      obtain ⟨_, _, ⟨T117, L117, k117, n117⟩, -, X117, ⟨Lc117, hQ117, l117, y117, z117⟩, st117⟩ := X114.virtualBack hx (y := y_25) (z := y_25) hown (mvT hZ (wq hw 111 rfl)) (mvT hZ (wq hw 25 rfl)) (notFace_of_selects (args := #[]) (mvT hZ (wq hw 27 rfl))) (mvT hZ (wq hw 27 rfl)) (mvT hZ (wq hw 26 rfl)) (by decide) (backOf (W := 0) (rmAb l Z a0 hw [] a1 c114 d114 (3 : Int32) u1 (own_s0 t2 (own_s0 t1 (own_s0 t0 (0 : Int64)))) (own_s1 t2 (own_s1 t1 (own_s1 t0 (0 : Int64)))) T114.heap n0 O116 Ea114 Fn114 Fb114 Fc114 ga P114 stb.2.1 gc114 gd114 nec114_a1 ned114_a1 hu SB) hZ (wq hw 28 rfl) (wq hw 2 rfl) (by decide) (by decide)) q117a q117c (g := (mkF m 98 #[vR a1, vI u1, vI (-(j102 + (1 : Int32))), vI (own_mx u1 t2), .unset] [(.int u1), (.ref a1)])) rfl (by rw [hml]; rfl) (Steps.refl _) (argsL := [(.int u1)]) (rest := []) (lenOf pd_3 rfl) rfl (by show 2 * 0 + _ ≤ _; exact Nat.le_of_eq rfl) (hb hby dc25_98) (fun _ _ => ⟨rfl, rfl, (by decide : 2 + 1 ≤ _), (by decide : 4 + 2 ≤ _)⟩)
      dsimp only [Pt.U, Pt.locs, Pt.cells, Pt.slots] at X117 l117 y117 z117 st117 hQ117
      subst l117 y117 z117
      obtain ⟨rfl, N117q, K117, Ea117, Fn117, Fb117, dd117, hd117, gd117, ab117⟩ := hQ117
      have N117 := Fr.app N114 N117q
      obtain ⟨fs, hr, hrun, hended, hW, hsame⟩ := X117.leave (v := none) (fun _ => rfl)
      have K118 : Keep h0 T117.heap [a1, b1] := (Keep.trans K115 K117 (allS (P := fun x => x ∈ [a1, b1] ∨ h0.size ≤ x) (Or.inl (List.mem_of_getElem? (i := 0) rfl)) (allS (P := fun x => x ∈ [a1, b1] ∨ h0.size ≤ x) (Or.inr sz0c114) (allS (P := fun x => x ∈ [a1, b1] ∨ h0.size ≤ x) (Or.inr sz0d114) all0))))
      refine ⟨_, _, pre112 _ ?_, hrun, hended, _, _, rfl, ?_, ⟨_, rfl⟩, hW, hsame.mono (by decide) (by decide)⟩
      · skip
        show Steps p.tables e below (T111.setTop (mkF m 89 #[vR a1, vI u1, vI (-(j102 + (1 : Int32))), vI (own_mx u1 t2), .unset] [(.int (lcmpW (16 : Int64) (own_bb (own_mx u1 t2))))])) _
        refine XS.ifNo X111.here hx rfl (hb hby dc25_89) rfl ((if0 _ _).trans (tlt ((lw_gt _ _).mpr hc113)).2.2.2) ?_
        refine XS.aloadN X111.here hx rfl (hb hby dc25_92) rfl rfl ?_
        refine st114.trans ?_
        refine XS.aloadN X114.here hx rfl (hb hby dc25_96) rfl rfl ?_
        refine XS.iloadN X114.here hx rfl (hb hby dc25_97) rfl ?_
        refine st117.trans ?_
        exact X117.returnOut hx Bd.returns (hb hby dc25_101) hr
      · show Q_ad Z a1 u1 i1 [t0, t1, t2] [a1, b1] h0 n0 _ T117.heap _
        rcases ab117 with ⟨q, -, -⟩ | ⟨-, Fq, Bq⟩
        · exact absurd q stb.2.2.1
        · refine ⟨rfl, N117, K118, (u1 :: [t2, t1, t0]), _, ⟨Ea117, ga, Fq, Nat.succ_le_succ hi, Or.inr ⟨c114, dd117, _, _, rfl, gc114, gd117, nec114_a1, ?_, Fn117, Fb117, Bq.mono (fun q => q.elim), stb.2.2.2.1, stb.2.2.2.2.1, stb.2.2.2.2.2.1, own_lev3 (by simp) (by omega) hi4⟩⟩, stb.2.2.2.2.2.2, allS (Or.inl (by simp)) (allS (Or.inr sz0c114) (allS (Or.inr ?_) all0))⟩
          · rcases hd117 with q | q
            · rw [q]; exact ned114_a1
            · exact Nat.ne_of_lt (Nat.lt_of_lt_of_le Ea114.lt q)
          · rcases hd117 with q | q
            · rw [q]; exact sz0d114
            · exact Nat.le_trans K115.1 q
    · skip
      obtain ⟨T119, X119, e119, st119⟩ := gG X111 hx hZ hown (wq hw 18 rfl) hh111 Fc (g := (mkF m 109 #[vR a1, vI u1, vI (-(j102 + (1 : Int32))), vI (own_mx u1 t2), vI j102] [(.ref a1)])) rfl rfl (hb hby dc25_109)
      obtain ⟨T120, X120, e120, st120⟩ := gG X119 hx hZ hown (wq hw 10 rfl) e119 Fn (g := (mkF m 113 #[vR a1, vI u1, vI (-(j102 + (1 : Int32))), vI (own_mx u1 t2), vI j102] [(.ref a1), (.int (3 : Int32))])) rfl rfl (hb hby dc25_113)
      obtain ⟨cl121, Ar121, q121, S121, N121_, H121, G121⟩ := id Vb
      obtain ⟨T122, X122, e122, st122⟩ := gG X120 hx hZ hown (wq hw 10 rfl) e120 Fn (g := (mkF m 138 #[vR a1, vI u1, vI (-(j102 + (1 : Int32))), vI (own_mx u1 t2), vI j102] [(.ref a1)])) rfl rfl (hb hby dc25_138)
      obtain ⟨T123, X123, e123, st123⟩ := gG X122 hx hZ hown (wq hw 10 rfl) e122 Fn (g := (mkF m 144 #[vR a1, vI u1, vI (-(j102 + (1 : Int32))), vI (own_mx u1 t2), vI j102] [(.ref a1), (.int j102), (.ref b1)])) rfl rfl (hb hby dc25_144)
      obtain ⟨T124, X124, e124, st124⟩ := gG X123 hx hZ hown (wq hw 18 rfl) e123 Fc (g := (mkF m 152 #[vR a1, vI u1, vI (-(j102 + (1 : Int32))), vI (own_mx u1 t2), vI j102] [(.ref a1), (.int (j102 + (1 : Int32))), (.ref b1), (.int j102), (.ref b1)])) rfl rfl (hb hby dc25_152)
      obtain ⟨T125, h125, L125, X125, e125, N125, K125, V125_, st125⟩ := cpA X124 hx hZ hown (wq hw 50 rfl) (wq hw 53 rfl) (wq hw 51 rfl) (wq hw 52 rfl) e124 Vb Vb (Or.inl ⟨rfl, rfl⟩) (own_cu34 (j1 := j102) (t0 := t0) (t1 := t1) (t2 := t2) (t3 := t3) (own_plj3 hk104a)).1 (own_cu34 (j1 := j102) (t0 := t0) (t1 := t1) (t2 := t2) (t3 := t3) (own_plj3 hk104a)).2.1 (own_cu34 (j1 := j102) (t0 := t0) (t1 := t1) (t2 := t2) (t3 := t3) (own_plj3 hk104a)).2.2.1 (own_cu34 (j1 := j102) (t0 := t0) (t1 := t1) (t2 := t2) (t3 := t3) (own_plj3 hk104a)).2.2.2.1 (own_cu34 (j1 := j102) (t0 := t0) (t1 := t1) (t2 := t2) (t3 := t3) (own_plj3 hk104a)).2.2.2.2.1 rfl (Nat.le_trans (own_cu34 (j1 := j102) (t0 := t0) (t1 := t1) (t2 := t2) (t3 := t3) (own_plj3 hk104a)).2.2.2.2.1 (by decide : (4 : Int32).toNatClampNeg ≤ 4)) N111 gb (g := (mkF m 158 #[vR a1, vI u1, vI (-(j102 + (1 : Int32))), vI (own_mx u1 t2), vI j102] [(.int ((3 : Int32) - j102)), (.int (j102 + (1 : Int32))), (.ref b1), (.int j102), (.ref b1)])) rfl (by rw [hml]; rfl) rfl (hb hby dc25_158) (by decide) (W := 0) (by show 2 * 0 + _ ≤ _; exact Nat.le_of_eq rfl) (by decide)
      have V125 : Arv Z h125 b1 kb .int (4 : Int32) [(.int t0), (.int (own_up j102 (1 : Int32) t1 t0)), (.int (own_up j102 (2 : Int32) t2 t1)), (.int (own_up j102 (3 : Int32) t3 t2))] (.int (0 : Int32)) := by have q := V125_; rw [(own_cu34 (j1 := j102) (t0 := t0) (t1 := t1) (t2 := t2) (t3 := t3) (own_plj3 hk104a)).2.2.2.2.2] at q; exact q
      have f126 := (Fn.keep K125 (ninS neab nin0))
      obtain ⟨T127, X127, e127, st127⟩ := gG X125 hx hZ hown (wq hw 10 rfl) e125 f126 (g := (mkF m 162 #[vR a1, vI u1, vI (-(j102 + (1 : Int32))), vI (own_mx u1 t2), vI j102] [(.ref a1)])) rfl rfl (hb hby dc25_162)
      obtain ⟨cl128, Ar128, q128, S128, N128_, H128, G128⟩ := id V125
      have hin128 : ¬ (j102 < 0 ∨ cl128.slots.size ≤ (j102).toNatClampNeg) := inb_of S128 (own_su34 (j1 := j102) (u1 := u1) (t0 := t0) (t1 := t1) (t2 := t2) (t3 := t3) (own_plj3 hk104a)).1
      obtain ⟨T129, h129, X129, e129, W129, st129⟩ := stI X127 hx hZ e127 Ar128 (j := j102) hin128 (g := (mkF m 168 #[vR a1, vI u1, vI (-(j102 + (1 : Int32))), vI (own_mx u1 t2), vI j102] [(.int u1), (.int j102), (.ref b1)])) rfl rfl (hb hby dc25_168)
      have V129 : Arv Z h129 b1 kb .int (4 : Int32) [(.int (own_pt j102 (0 : Int32) u1 t0 t0)), (.int (own_pt j102 (1 : Int32) u1 t1 t0)), (.int (own_pt j102 (2 : Int32) u1 t2 t1)), (.int (own_pt j102 (3 : Int32) u1 t3 t2))] (.int (0 : Int32)) := by have q := Arv.set Ar128 q128 S128 N128_ H128 G128 rfl W129 _ rfl (own_su34 (j1 := j102) (u1 := u1) (t0 := t0) (t1 := t1) (t2 := t2) (t3 := t3) (own_plj3 hk104a)).2.1; rw [(own_su34 (j1 := j102) (u1 := u1) (t0 := t0) (t1 := t1) (t2 := t2) (t3 := t3) (own_plj3 hk104a)).2.2] at q; exact q
      have N129 := Fr.snoc X129 N125 gb
      have f130 := ((Fc.keep K125 (ninS neab nin0)).other W129 (Or.inl neab))
      obtain ⟨T131, X131, e131, st131⟩ := gG X129 hx hZ hown (wq hw 18 rfl) e129 f130 (g := (mkF m 171 #[vR a1, vI u1, vI (-(j102 + (1 : Int32))), vI (own_mx u1 t2), vI j102] [(.ref a1), (.ref a1)])) rfl rfl (hb hby dc25_171)
      have f132 := ((Ea.keep K125).wr W129)
      obtain ⟨T133, h133, X133, e133, W133, st133⟩ := putF X131 hx hZ hown (host := "") (Or.inl (wq hw 18 rfl)) Via.refl e131 f130 f132 (Or.inl (wq hw 19 rfl)) (wq hw 1 rfl) (ty := .int) (by decide) rfl rfl (g := (mkF m 176 #[vR a1, vI u1, vI (-(j102 + (1 : Int32))), vI (own_mx u1 t2), vI j102] [(.int (4 : Int32)), (.ref a1)])) rfl rfl (hb hby dc25_176)
      have Fw133 : Fld Z h133 a1 sU "count" "I" (.int (4 : Int32)) := Fld.same W133 f130
      have N133 := Fr.snoc X133 N129 ga
      obtain ⟨fs, hr, hrun, hended, hW, hsame⟩ := X133.leave (v := none) (fun _ => rfl)
      have K134 : Keep h0 h133 [a1, b1] := (Keep.wr (Keep.wr (Keep.trans (Keep.refl h0 [a1, b1]) K125 (allS (P := fun x => x ∈ [a1, b1] ∨ h0.size ≤ x) (Or.inl (List.mem_of_getElem? (i := 1) rfl)) all0)) W129 (Or.inl (List.mem_of_getElem? (i := 1) rfl))) W133 (Or.inl (List.mem_of_getElem? (i := 0) rfl)))
      have f135 := (f132.wr W133)
      have f136 := ((f126.other W129 (Or.inl neab)).other W133 (Or.inr (slot_ne (Or.inl (wq hw 11 rfl)) (Or.inl (wq hw 19 rfl)) (by decide) (t := (.array .int)) (t' := .int) (by decide) (by decide))))
      have f137 := (((Fb.keep K125 (ninS neab nin0)).other W129 (Or.inl neab)).other W133 (Or.inr (slot_ne (Or.inl (wq hw 30 rfl)) (Or.inl (wq hw 19 rfl)) (by decide) (t := (.object sB)) (t' := .int) (by decide) (by decide))))
      have f138 := (V129.other W133 (Ne.symm neab))
      refine ⟨_, _, pre112 _ ?_, hrun, hended, _, _, rfl, ?_, ⟨_, rfl⟩, hW, hsame.mono (by decide) (by decide)⟩
      · skip
        show Steps p.tables e below (T111.setTop (mkF m 89 #[vR a1, vI u1, vI (-(j102 + (1 : Int32))), vI (own_mx u1 t2), .unset] [(.int (lcmpW (16 : Int64) (own_bb (own_mx u1 t2))))])) _
        refine XS.ifYes X111.here hx rfl (pc0 := 89) (pc' := 102) rfl (hb hby dc25_89) rfl ((if0 _ _).trans (flt (mt (lw_gt _ _).mp hc113)).2.2.2) (by decide) (by decide) ?_
        show Steps p.tables e below (T111.setTop (mkF m 102 #[vR a1, vI u1, vI (-(j102 + (1 : Int32))), vI (own_mx u1 t2), .unset] [])) _
        refine XS.iloadN X111.here hx rfl (hb hby dc25_102) rfl ?_
        refine XS.ineg X111.here hx rfl (hb hby dc25_103) rfl ?_
        refine XS.iconst X111.here hx rfl (hb hby dc25_104) ?_
        refine XS.isub X111.here hx rfl (hb hby dc25_105) rfl ?_
        show Steps p.tables e below (T111.setTop (mkF m 106 #[vR a1, vI u1, vI (-(j102 + (1 : Int32))), vI (own_mx u1 t2), .unset] [(.int ((-(-(j102 + (1 : Int32)))) - (1 : Int32)))])) _
        rw [(own_idx j102)]
        refine XS.istore X111.here hx rfl (hb hby dc25_106) rfl (l' := #[vR a1, vI u1, vI (-(j102 + (1 : Int32))), vI (own_mx u1 t2), vI j102]) rfl ?_
        refine XS.aloadN X111.here hx rfl (hb hby dc25_108) rfl rfl ?_
        refine st119 _ ?_
        refine XS.aloadN X119.here hx rfl (hb hby dc25_112) rfl rfl ?_
        refine st120 _ ?_
        refine X120.arraylength hx (by rw [e120]; exact Ar121.1) (State.isArrayOf_alike hZ.alike Ar121.2.1) (g := (mkF m 116 #[vR a1, vI u1, vI (-(j102 + (1 : Int32))), vI (own_mx u1 t2), vI j102] [(.ref b1), (.int (3 : Int32))])) rfl rfl (hb hby dc25_116) _ ?_
        rw [len_of S121 N121_]
        refine XS.icmpYes X120.here hx rfl (pc0 := 117) (pc' := 137) rfl (hb hby dc25_117) rfl (by decide) (by decide) (by decide) ?_
        show Steps p.tables e below (T120.setTop (mkF m 137 #[vR a1, vI u1, vI (-(j102 + (1 : Int32))), vI (own_mx u1 t2), vI j102] [])) _
        refine XS.aloadN X120.here hx rfl (hb hby dc25_137) rfl rfl ?_
        refine st122 _ ?_
        refine XS.iload X122.here hx rfl (hb hby dc25_141) rfl ?_
        refine XS.aloadN X122.here hx rfl (hb hby dc25_143) rfl rfl ?_
        refine st123 _ ?_
        refine XS.iload X123.here hx rfl (hb hby dc25_147) rfl ?_
        refine XS.iconst X123.here hx rfl (hb hby dc25_149) ?_
        refine XS.iadd X123.here hx rfl (hb hby dc25_150) rfl ?_
        refine XS.aloadN X123.here hx rfl (hb hby dc25_151) rfl rfl ?_
        refine st124 _ ?_
        refine XS.iload X124.here hx rfl (hb hby dc25_155) rfl ?_
        refine XS.isub X124.here hx rfl (hb hby dc25_157) rfl ?_
        show Steps p.tables e below (T124.setTop (mkF m 158 #[vR a1, vI u1, vI (-(j102 + (1 : Int32))), vI (own_mx u1 t2), vI j102] [(.int ((3 : Int32) - j102)), (.int (j102 + (1 : Int32))), (.ref b1), (.int j102), (.ref b1)])) _
        refine st125 _ ?_
        refine XS.aloadN X125.here hx rfl (hb hby dc25_161) rfl rfl ?_
        refine st127 _ ?_
        refine XS.iload X127.here hx rfl (hb hby dc25_165) rfl ?_
        refine XS.iloadN X127.here hx rfl (hb hby dc25_167) rfl ?_
        refine st129 _ ?_
        refine XS.aloadN X129.here hx rfl (hb hby dc25_169) rfl rfl ?_
        refine XS.dup X129.here hx rfl (hb hby dc25_170) rfl rfl ?_
        refine st131 _ ?_
        refine XS.iconst X131.here hx rfl (hb hby dc25_174) ?_
        refine XS.iadd X131.here hx rfl (hb hby dc25_175) rfl ?_
        refine st133 _ ?_
        show Steps p.tables e below (T133.setTop (mkF m 179 #[vR a1, vI u1, vI (-(j102 + (1 : Int32))), vI (own_mx u1 t2), vI j102] [])) _
        exact X133.returnOut hx Bd.returns (hb hby dc25_179) hr
      · show Q_ad Z a1 u1 i1 [t0, t1, t2] [a1, b1] h0 n0 _ T133.heap _
        rw [e133]
        exact ⟨rfl, N133, K134, [(own_pt j102 (0 : Int32) u1 t0 t0), (own_pt j102 (1 : Int32) u1 t1 t0), (own_pt j102 (2 : Int32) u1 t2 t1), (own_pt j102 (3 : Int32) u1 t3 t2)], _, ⟨f135, ga, Fw133, Nat.succ_le_succ hi, Or.inl ⟨b1, rfl, gb, neab, f136, f137, ⟨_, Or.inr (Or.inr (Or.inr (Or.inr (Or.inr (Or.inr (Or.inr (⟨_, _, _, _, rfl, f138⟩)))))))⟩, (own_ins3 t3 hs hu hk104a).1⟩⟩, (own_ins3 t3 hs hu hk104a).2, own_w2 (Or.inl rfl)⟩
theorem rmAd44 (l : Launch) (Z : State) (a0 : Array Value) (hw : HwT a0 Z) (ws : List Jvm.Cond) (a1 b1 : Addr) (kb : ClassId) (t0 t1 t2 t3 u1 : Int32) (i1 : Nat) (h0 : Heap) (n0 : Nat) (O0 : Old Z n0 h0) (Ea : Exa Z h0 a1 sU) (Fn : Fld Z h0 a1 sU "numbers" "[I" (.ref b1)) (Fb : Fld Z h0 a1 sU "bits" "Ljava/util/BitSet;" .null) (Fc : Fld Z h0 a1 sU "count" "I" (.int (4 : Int32))) (ga : n0 ≤ a1) (Vb : Arv Z h0 b1 kb .int (4 : Int32) [(.int t0), (.int t1), (.int t2), (.int t3)] (.int (0 : Int32))) (neab : a1 ≠ b1) (gb : n0 ≤ b1) (hs : Srt [t0, t1, t2, t3]) (hi : 4 ≤ i1) (hi4 : i1 ≤ 4) (hu : own_r u1) (SB : Sta Z Z.heap sB "$assertionsDisabled" "Z" (.int (1 : Int32))) :
    Mt l Z y_25 prog_25_method_5_code 5 none ws ({ frames := 6, cells := 7, slots := 14, locals := 91 } : Room) #[(.ref a1), (.int u1)] h0 (Q_ad Z a1 u1 i1 [t0, t1, t2, t3] [a1, b1] h0 n0) := by
  refine MetFree.of_bodySF (plainFor_of_name pn_0) hisR ?_
  intro p e s m args below meth c s₁ Bd hml0 hP hK
  obtain ⟨rfl, hZ, hh⟩ := hP
  have hx := Bd.exec
  have hby := Bd.bytes
  have hml : c.maxLocals = 5 := hml0
  have hown : s.vm.findClass sU = some m.cls := findClass_of_methodNamed Bd.named
  have hnm := (name_of_methodNamed Bd.named Bd.method).1
  have X0 : Stand p l e ({ frames := 6, cells := 7, slots := 14, locals := 91 } : Room) s m #[(.ref a1), (.int u1)] below meth c s₁ [] 0 0 := Stand.of_body Bd
  have e0 : s₁.heap = h0 := by rw [← hh, Bd.state]; rfl
  have N0 := Fr.nil n0
  have pre0 := fun t (k : Steps p.tables e below (s₁.setTop _) t) => castTop (ef_11 m a1 u1) k
  have hr0 : own_r t0 := by simp only [Srt, own_r] at hs ⊢; omega
  have hr1 : own_r t1 := by simp only [Srt, own_r] at hs ⊢; omega
  have hr2 : own_r t2 := by simp only [Srt, own_r] at hs ⊢; omega
  have hr3 : own_r t3 := by simp only [Srt, own_r] at hs ⊢; omega
  obtain ⟨T101, X101, e101, st101⟩ := gG X0 hx hZ hown (wq hw 29 rfl) e0 Fb (g := (mkF m 1 #[vR a1, vI u1, .unset, .unset, .unset] [(.ref a1)])) rfl rfl (hb hby dc25_1)
  obtain ⟨cq102, q102, q102'⟩ := Exa.cell Ea
  obtain ⟨_, _, ⟨T102, L102, k102, n102⟩, -, X102, ⟨Lc102, hQ102, l102, y102, z102⟩, st102⟩ := X101.privateBack hx (y := y_21) hown (mvT hZ (wq hw 31 rfl)) (mvT hZ (wq hw 32 rfl)) (mvT hZ (own_sel (y := y_21) (wq hw 1 rfl) (wq hw 33 rfl) (wq hw 32 rfl) (by decide))) (Cond.privateMethod_at (mvP hZ (wq hw 33 rfl) (args := #[]))) (mvT hZ (wq hw 34 rfl)) (by decide) (backOf (W := 0) (rmFi l Z a0 hw [] a1 b1 (4 : Int32) u1 4 (own_f4 t0 t1 t2 t3) h0 n0 O0 Fn Fc (Iv.of4 Vb) (by decide) (by decide) (own_mo44 hs) (by decide) (by decide)) hZ (wq hw 34 rfl) (wq hw 2 rfl) (by decide) (by decide)) (g := (mkF m 39 #[vR a1, vI u1, .unset, .unset, .unset] [(.int u1), (.ref a1)])) rfl (by rw [hml]; rfl) (Steps.refl _) (a := a1) (by rw [e101]; exact q102) q102' (argsL := [(.int u1)]) (rest := []) (lenOf pd_0 rfl) rfl (by show 2 * 0 + _ ≤ _; exact Nat.le_of_eq rfl) (hb hby dc25_39) (fun _ _ => ⟨rfl, e101, (by decide : 0 + 0 ≤ _), (by decide : 0 + 0 ≤ _)⟩)
  dsimp only [Pt.U, Pt.locs, Pt.cells, Pt.slots] at X102 l102 y102 z102 st102 hQ102
  subst l102 y102 z102
  obtain ⟨r102, rfl, N102q, hh102, R102⟩ := hQ102
  have N102 := Fr.app N0 N102q
  have pre103 : ∀ t, Steps p.tables e below (T102.setTop (mkF m 42 #[vR a1, vI u1, .unset, .unset, .unset] [(.int r102)])) t → Steps p.tables e below (s₁.setTop (entryFrame m #[(.ref a1), (.int u1)] 5)) t := fun t kt => pre0 t (by
      show Steps p.tables e below (s₁.setTop (mkF m 0 #[vR a1, vI u1, .unset, .unset, .unset] [])) _
      refine XS.aloadN X0.here hx rfl (hb hby dc25_0) rfl rfl ?_
      refine st101 _ ?_
      show Steps p.tables e below (T101.setTop (mkF m 4 #[vR a1, vI u1, .unset, .unset, .unset] [.null])) _
      refine XS.ifnullYes X101.here hx rfl (pc0 := 4) (pc' := 37) rfl (hb hby dc25_4) rfl (by decide) (by decide) ?_
      refine XS.aloadN X101.here hx rfl (hb hby dc25_37) rfl rfl ?_
      refine XS.iloadN X101.here hx rfl (hb hby dc25_38) rfl ?_
      refine st102.trans ?_
      exact kt)
  rcases (own_cv44 R102) with ⟨i102, hk104, hk104a⟩ | ⟨j102, hk104, hk104a⟩
  · skip
    obtain ⟨fs, hr, hrun, hended, hW, hsame⟩ := X102.leave (v := none) (fun _ => rfl)
    refine ⟨_, _, pre103 _ ?_, hrun, hended, _, _, rfl, ?_, ⟨_, rfl⟩, hW, hsame.mono (by decide) (by decide)⟩
    · skip
      show Steps p.tables e below (T102.setTop (mkF m 42 #[vR a1, vI u1, .unset, .unset, .unset] [(.int r102)])) _
      rw [hk104]
      refine XS.istoreN X102.here hx rfl (hb hby dc25_42) rfl (l' := #[vR a1, vI u1, vI i102, .unset, .unset]) rfl ?_
      refine XS.iloadN X102.here hx rfl (hb hby dc25_43) rfl ?_
      refine XS.ifNo X102.here hx rfl (hb hby dc25_44) rfl ((if0 _ _).trans (flt (own_ir4 (own_ati4 hk104a))).1) ?_
      exact X102.returnOut hx Bd.returns (hb hby dc25_47) hr
    · show Q_ad Z a1 u1 i1 [t0, t1, t2, t3] [a1, b1] h0 n0 _ T102.heap _
      rw [hh102]
      exact ⟨rfl, N102, (Keep.refl h0 [a1, b1]), [t0, t1, t2, t3], _, ⟨Ea, ga, Fc, Nat.le_succ_of_le hi, Or.inl ⟨b1, rfl, gb, neab, Fn, Fb, ⟨_, Or.inr (Or.inr (Or.inr (Or.inr (Or.inr (Or.inr (Or.inr (⟨_, _, _, _, rfl, Vb⟩)))))))⟩, hs⟩⟩, fun x => ⟨Or.inr, fun q => q.elim (fun z => z ▸ own_mem4 hk104a) id⟩, own_w2 (Or.inl rfl)⟩
  · skip
    obtain ⟨T105, X105, e105, st105⟩ := gG X102 hx hZ hown (wq hw 18 rfl) hh102 Fc (g := (mkF m 49 #[vR a1, vI u1, vI (-(j102 + (1 : Int32))), .unset, .unset] [(.ref a1)])) rfl rfl (hb hby dc25_49)
    obtain ⟨T106, X106, e106, st106⟩ := gG X105 hx hZ hown (wq hw 10 rfl) e105 Fn (g := (mkF m 61 #[vR a1, vI u1, vI (-(j102 + (1 : Int32))), .unset, .unset] [(.ref a1), (.int u1)])) rfl rfl (hb hby dc25_61)
    obtain ⟨T107, X107, e107, st107⟩ := gG X106 hx hZ hown (wq hw 18 rfl) e106 Fc (g := (mkF m 65 #[vR a1, vI u1, vI (-(j102 + (1 : Int32))), .unset, .unset] [(.ref a1), (.ref b1), (.int u1)])) rfl rfl (hb hby dc25_65)
    obtain ⟨cl108, Ar108, q108, S108, N108_, H108, G108⟩ := id Vb
    have hin108 : ¬ ((3 : Int32) < 0 ∨ cl108.slots.size ≤ ((3 : Int32)).toNatClampNeg) := inb_of S108 ⟨by decide, by decide⟩
    have hat108 : cl108.slots[((3 : Int32)).toNatClampNeg]? = some (.int t3) := H108.at hin108 rfl
    obtain ⟨_, _, ⟨T109, L109, k109, n109⟩, -, X109, ⟨Lc109, hQ109, l109, y109, z109⟩, st109⟩ := Jvm.LawKit.callS X107 hx (y := y_0) hown (mvT hZ (wq hw 54 rfl)) (mvT hZ (wq hw 55 rfl)) (mvT hZ (wq hw 56 rfl)) (mvT hZ (wq hw 57 rfl)) (by decide) (backOf (W := 0) (rmMx l Z a0 hw [] u1 t3 h0 n0 O0) hZ (wq hw 57 rfl) (wq hw 56 rfl) (by decide) (by decide)) (g := (mkF m 71 #[vR a1, vI u1, vI (-(j102 + (1 : Int32))), .unset, .unset] [(.int t3), (.int u1)])) rfl (by rw [hml]; rfl) (argsL := [(.int u1), (.int t3)]) (rest := []) (lenOf pd_1 rfl) rfl (by show 2 * 0 + _ ≤ _; exact Nat.le_of_eq rfl) (hb hby dc25_71) (fun _ _ => ⟨rfl, e107, (by decide : 0 + 0 ≤ _), (by decide : 0 + 0 ≤ _)⟩)
    dsimp only [Pt.U, Pt.locs, Pt.cells, Pt.slots] at X109 l109 y109 z109 st109 hQ109
    subst l109 y109 z109
    obtain ⟨rfl, N109q, hh109⟩ := hQ109
    have N109 := Fr.app N102 N109q
    obtain ⟨T110, X110, e110, st110⟩ := gG X109 hx hZ hown (wq hw 18 rfl) hh109 Fc (g := (mkF m 76 #[vR a1, vI u1, vI (-(j102 + (1 : Int32))), vI (own_mx u1 t3), .unset] [(.ref a1)])) rfl rfl (hb hby dc25_76)
    obtain ⟨_, _, ⟨T111, L111, k111, n111⟩, -, X111, ⟨Lc111, hQ111, l111, y111, z111⟩, st111⟩ := Jvm.LawKit.callS X110 hx (y := y_2) hown (mvT hZ (wq hw 45 rfl)) (mvT hZ (wq hw 46 rfl)) (mvT hZ (wq hw 2 rfl)) (mvT hZ (wq hw 47 rfl)) (by decide) (backOf (W := 2) (rmBb l Z a0 hw [] (own_mx u1 t3) h0 n0 O0) hZ (wq hw 47 rfl) (wq hw 2 rfl) (by decide) (by decide)) (g := (mkF m 85 #[vR a1, vI u1, vI (-(j102 + (1 : Int32))), vI (own_mx u1 t3), .unset] [(.int (own_mx u1 t3)), (.long (20 : Int64))])) rfl (by rw [hml]; rfl) (argsL := [(.int (own_mx u1 t3))]) (rest := [(.long (20 : Int64))]) (lenOf pd_10 rfl) rfl (by show 2 * 0 + _ ≤ _; exact Nat.le_of_eq rfl) (hb hby dc25_85) (fun _ _ => ⟨rfl, e110, (by decide : 0 + 0 ≤ _), (by decide : 0 + 0 ≤ _)⟩)
    dsimp only [Pt.U, Pt.locs, Pt.cells, Pt.slots] at X111 l111 y111 z111 st111 hQ111
    subst l111 y111 z111
    obtain ⟨rfl, N111q, hh111⟩ := hQ111
    have N111 := Fr.app N109 N111q
    obtain ⟨cq112, q112, q112'⟩ := Exa.cell Ea
    obtain ⟨_, _, ⟨T112, L112, k112, n112⟩, -, X112, ⟨Lc112, hQ112, l112, y112, z112⟩, st112⟩ := X111.privateBack hx (y := y_24) hown (mvT hZ (wq hw 65 rfl)) (mvT hZ (wq hw 66 rfl)) (mvT hZ (own_sel (y := y_24) (wq hw 1 rfl) (wq hw 67 rfl) (wq hw 66 rfl) (by decide))) (Cond.privateMethod_at (mvP hZ (wq hw 67 rfl) (args := #[]))) (mvT hZ (wq hw 68 rfl)) (by decide) (backOf (W := 0) (rmTb4 l Z a0 hw [] a1 b1 kb (4 : Int32) [] t0 t1 t2 t3 h0 n0 O0 Ea Fn Fb Fc ga Vb (by decide) neab gb hr0 hr1 hr2 hr3 SB) hZ (wq hw 68 rfl) (wq hw 2 rfl) (by decide) (by decide)) (g := (mkF m 93 #[vR a1, vI u1, vI (-(j102 + (1 : Int32))), vI (own_mx u1 t3), .unset] [(.ref a1)])) rfl (by rw [hml]; rfl) (Steps.refl _) (a := a1) (by rw [hh111]; exact q112) q112' (argsL := []) (rest := []) (lenOf pd_4 rfl) rfl (by show 2 * 0 + _ ≤ _; exact Nat.le_of_eq rfl) (hb hby dc25_93) (fun _ _ => ⟨rfl, hh111, (by decide : 0 + 6 ≤ _), (by decide : 0 + 12 ≤ _)⟩)
    dsimp only [Pt.U, Pt.locs, Pt.cells, Pt.slots] at X112 l112 y112 z112 st112 hQ112
    subst l112 y112 z112
    obtain ⟨c112, d112, rfl, N112q, K112, sc112, sd112, gc112, gd112, Ea112, Fn112, Fb112, Fc112, P112⟩ := hQ112
    have N112 := Fr.app N111 N112q
    have nec112_a1 : a1 ≠ c112 := Nat.ne_of_lt (Nat.lt_of_lt_of_le (Ea).lt sc112)
    have nec112_b1 : b1 ≠ c112 := Nat.ne_of_lt (Nat.lt_of_lt_of_le (Vb).lt sc112)
    have sz0c112 : h0.size ≤ c112 := Nat.le_trans ((Keep.refl h0 [a1, b1])).1 sc112
    have ned112_a1 : a1 ≠ d112 := Nat.ne_of_lt (Nat.lt_of_lt_of_le (Ea).lt sd112)
    have ned112_b1 : b1 ≠ d112 := Nat.ne_of_lt (Nat.lt_of_lt_of_le (Vb).lt sd112)
    have sz0d112 : h0.size ≤ d112 := Nat.le_trans ((Keep.refl h0 [a1, b1])).1 sd112
    have stb := own_tb4 hs hu hk104a
    have K113 : Keep h0 T112.heap [a1, b1] := (Keep.trans (Keep.refl h0 [a1, b1]) K112 (allS (P := fun x => x ∈ [a1, b1] ∨ h0.size ≤ x) (Or.inl (List.mem_of_getElem? (i := 0) rfl)) all0))
    have O114 : Old Z n0 T112.heap := (O0.keep K112 (allS ga all0))
    obtain ⟨cq115, kq115, q115a, q115b, q115c⟩ := isOf hZ rfl Ea112
    obtain ⟨_, _, ⟨T115, L115, k115, n115⟩, -, X115, ⟨Lc115, hQ115, l115, y115, z115⟩, st115⟩ := X112.virtualBack hx (y := y_25) (z := y_25) hown (mvT hZ (wq hw 111 rfl)) (mvT hZ (wq hw 25 rfl)) (notFace_of_selects (args := #[]) (mvT hZ (wq hw 27 rfl))) (mvT hZ (wq hw 27 rfl)) (mvT hZ (wq hw 26 rfl)) (by decide) (backOf (W := 0) (rmAb l Z a0 hw [] a1 c112 d112 (4 : Int32) u1 (own_s0 t3 (own_s0 t2 (own_s0 t1 (own_s0 t0 (0 : Int64))))) (own_s1 t3 (own_s1 t2 (own_s1 t1 (own_s1 t0 (0 : Int64))))) T112.heap n0 O114 Ea112 Fn112 Fb112 Fc112 ga P112 stb.2.1 gc112 gd112 nec112_a1 ned112_a1 hu SB) hZ (wq hw 28 rfl) (wq hw 2 rfl) (by decide) (by decide)) q115a q115c (g := (mkF m 98 #[vR a1, vI u1, vI (-(j102 + (1 : Int32))), vI (own_mx u1 t3), .unset] [(.int u1), (.ref a1)])) rfl (by rw [hml]; rfl) (Steps.refl _) (argsL := [(.int u1)]) (rest := []) (lenOf pd_3 rfl) rfl (by show 2 * 0 + _ ≤ _; exact Nat.le_of_eq rfl) (hb hby dc25_98) (fun _ _ => ⟨rfl, rfl, (by decide : 6 + 1 ≤ _), (by decide : 12 + 2 ≤ _)⟩)
    dsimp only [Pt.U, Pt.locs, Pt.cells, Pt.slots] at X115 l115 y115 z115 st115 hQ115
    subst l115 y115 z115
    obtain ⟨rfl, N115q, K115, Ea115, Fn115, Fb115, dd115, hd115, gd115, ab115⟩ := hQ115
    have N115 := Fr.app N112 N115q
    obtain ⟨fs, hr, hrun, hended, hW, hsame⟩ := X115.leave (v := none) (fun _ => rfl)
    have K116 : Keep h0 T115.heap [a1, b1] := (Keep.trans K113 K115 (allS (P := fun x => x ∈ [a1, b1] ∨ h0.size ≤ x) (Or.inl (List.mem_of_getElem? (i := 0) rfl)) (allS (P := fun x => x ∈ [a1, b1] ∨ h0.size ≤ x) (Or.inr sz0c112) (allS (P := fun x => x ∈ [a1, b1] ∨ h0.size ≤ x) (Or.inr sz0d112) all0))))
    refine ⟨_, _, pre103 _ ?_, hrun, hended, _, _, rfl, ?_, ⟨_, rfl⟩, hW, hsame.mono (by decide) (by decide)⟩
    · skip
      show Steps p.tables e below (T102.setTop (mkF m 42 #[vR a1, vI u1, .unset, .unset, .unset] [(.int r102)])) _
      rw [hk104]
      refine XS.istoreN X102.here hx rfl (hb hby dc25_42) rfl (l' := #[vR a1, vI u1, vI (-(j102 + (1 : Int32))), .unset, .unset]) rfl ?_
      refine XS.iloadN X102.here hx rfl (hb hby dc25_43) rfl ?_
      show Steps p.tables e below (T102.setTop (mkF m 44 #[vR a1, vI u1, vI (-(j102 + (1 : Int32))), .unset, .unset] [(.int (-(j102 + (1 : Int32))))])) _
      refine XS.ifYes X102.here hx rfl (pc0 := 44) (pc' := 48) rfl (hb hby dc25_44) rfl ((if0 _ _).trans (tlt (own_neg (own_jr4 (own_plj4 hk104a)))).1) (by decide) (by decide) ?_
      refine XS.aloadN X102.here hx rfl (hb hby dc25_48) rfl rfl ?_
      refine st105 _ ?_
      refine XS.ifYes X105.here hx rfl (pc0 := 52) (pc' := 59) rfl (hb hby dc25_52) rfl (by decide) (by decide) (by decide) ?_
      refine XS.iloadN X105.here hx rfl (hb hby dc25_59) rfl ?_
      refine XS.aloadN X105.here hx rfl (hb hby dc25_60) rfl rfl ?_
      refine st106 _ ?_
      refine XS.aloadN X106.here hx rfl (hb hby dc25_64) rfl rfl ?_
      refine st107 _ ?_
      refine XS.iconst X107.here hx rfl (hb hby dc25_68) ?_
      refine XS.isub X107.here hx rfl (hb hby dc25_69) rfl ?_
      refine X107.iaload hx (j := (3 : Int32)) (v := (.int t3)) (by rw [e107]; exact Ar108.1) (State.isArrayOf_alike hZ.alike Ar108.2.1) Ar108.2.2 hin108 hat108 (g := (mkF m 70 #[vR a1, vI u1, vI (-(j102 + (1 : Int32))), .unset, .unset] [(.int (3 : Int32)), (.ref b1), (.int u1)])) rfl rfl (hb hby dc25_70) _ ?_
      show Steps p.tables e below (T107.setTop (mkF m 71 #[vR a1, vI u1, vI (-(j102 + (1 : Int32))), .unset, .unset] [(.int t3), (.int u1)])) _
      refine st109 _ ?_
      refine XS.istoreN X109.here hx rfl (hb hby dc25_74) rfl (l' := #[vR a1, vI u1, vI (-(j102 + (1 : Int32))), vI (own_mx u1 t3), .unset]) rfl ?_
      refine XS.aloadN X109.here hx rfl (hb hby dc25_75) rfl rfl ?_
      refine st110 _ ?_
      refine XS.iconst X110.here hx rfl (hb hby dc25_79) ?_
      refine XS.iadd X110.here hx rfl (hb hby dc25_80) rfl ?_
      refine XS.iconst X110.here hx rfl (hb hby dc25_81) ?_
      refine XS.imul X110.here hx rfl (hb hby dc25_82) rfl ?_
      refine XS.i2l X110.here hx rfl (hb hby dc25_83) rfl ?_
      refine XS.iloadN X110.here hx rfl (hb hby dc25_84) rfl ?_
      refine st111 _ ?_
      refine XS.lcmp X111.here hx rfl (hb hby dc25_88) rfl ?_
      show Steps p.tables e below (T111.setTop (mkF m 89 #[vR a1, vI u1, vI (-(j102 + (1 : Int32))), vI (own_mx u1 t3), .unset] [(.int (lcmpW (20 : Int64) (own_bb (own_mx u1 t3))))])) _
      refine XS.ifNo X111.here hx rfl (hb hby dc25_89) rfl ((if0 _ _).trans (tlt ((lw_gt _ _).mpr (by rw [own_bb_lt (own_mx_r hu hr3)]; have e : (20 : Int64).toInt = 20 := rfl; have := (own_mx_r hu hr3); unfold own_r at this; omega))).2.2.2) ?_
      refine XS.aloadN X111.here hx rfl (hb hby dc25_92) rfl rfl ?_
      refine st112.trans ?_
      refine XS.aloadN X112.here hx rfl (hb hby dc25_96) rfl rfl ?_
      refine XS.iloadN X112.here hx rfl (hb hby dc25_97) rfl ?_
      refine st115.trans ?_
      exact X115.returnOut hx Bd.returns (hb hby dc25_101) hr
    · show Q_ad Z a1 u1 i1 [t0, t1, t2, t3] [a1, b1] h0 n0 _ T115.heap _
      rcases ab115 with ⟨q, -, -⟩ | ⟨-, Fq, Bq⟩
      · exact absurd q stb.2.2.1
      · refine ⟨rfl, N115, K116, (u1 :: [t3, t2, t1, t0]), _, ⟨Ea115, ga, Fq, Nat.succ_le_succ hi, Or.inr ⟨c112, dd115, _, _, rfl, gc112, gd115, nec112_a1, ?_, Fn115, Fb115, Bq.mono (fun q => q.elim), stb.2.2.2.1, stb.2.2.2.2.1, stb.2.2.2.2.2.1, own_lev3 (by simp) (by omega) hi4⟩⟩, stb.2.2.2.2.2.2, allS (Or.inl (by simp)) (allS (Or.inr sz0c112) (allS (Or.inr ?_) all0))⟩
        · rcases hd115 with q | q
          · rw [q]; exact ned112_a1
          · exact Nat.ne_of_lt (Nat.lt_of_lt_of_le Ea112.lt q)
        · rcases hd115 with q | q
          · rw [q]; exact sz0d112
          · exact Nat.le_trans K113.1 q
theorem own_cd11 {t0 : Int32} {i1 : Int32} (h : i1 = (0 : Int32)) : ¬ (i1 + (1 : Int32)) < 0 ∧ ¬ i1 < 0 ∧ ¬ (((1 : Int32) - i1) - (1 : Int32)) < 0 ∧ (i1 + (1 : Int32)).toNatClampNeg + (((1 : Int32) - i1) - (1 : Int32)).toNatClampNeg ≤ ((1 : Int32)).toNatClampNeg ∧ i1.toNatClampNeg + (((1 : Int32) - i1) - (1 : Int32)).toNatClampNeg ≤ ((1 : Int32)).toNatClampNeg ∧ (([(.int t0)] : List Value).take i1.toNatClampNeg ++ (List.range (((1 : Int32) - i1) - (1 : Int32)).toNatClampNeg).map (fun i => ([(.int t0)] : List Value).getD ((i1 + (1 : Int32)).toNatClampNeg + i) (.int (0 : Int32))) ++ ([(.int t0)] : List Value).drop (i1.toNatClampNeg + (((1 : Int32) - i1) - (1 : Int32)).toNatClampNeg)) = [(.int t0)] := by
  rcases h with rfl
  · exact ⟨by decide, by decide, by decide, by decide, by decide, rfl⟩
theorem own_cd12 {t0 t1 : Int32} {i1 : Int32} (h : i1 = (0 : Int32)) : ¬ (i1 + (1 : Int32)) < 0 ∧ ¬ i1 < 0 ∧ ¬ (((1 : Int32) - i1) - (1 : Int32)) < 0 ∧ (i1 + (1 : Int32)).toNatClampNeg + (((1 : Int32) - i1) - (1 : Int32)).toNatClampNeg ≤ ((2 : Int32)).toNatClampNeg ∧ i1.toNatClampNeg + (((1 : Int32) - i1) - (1 : Int32)).toNatClampNeg ≤ ((2 : Int32)).toNatClampNeg ∧ (([(.int t0), (.int t1)] : List Value).take i1.toNatClampNeg ++ (List.range (((1 : Int32) - i1) - (1 : Int32)).toNatClampNeg).map (fun i => ([(.int t0), (.int t1)] : List Value).getD ((i1 + (1 : Int32)).toNatClampNeg + i) (.int (0 : Int32))) ++ ([(.int t0), (.int t1)] : List Value).drop (i1.toNatClampNeg + (((1 : Int32) - i1) - (1 : Int32)).toNatClampNeg)) = [(.int t0), (.int t1)] := by
  rcases h with rfl
  · exact ⟨by decide, by decide, by decide, by decide, by decide, rfl⟩
theorem own_cd22 {t0 t1 : Int32} {i1 : Int32} (h : i1 = (0 : Int32) ∨ i1 = (1 : Int32)) : ¬ (i1 + (1 : Int32)) < 0 ∧ ¬ i1 < 0 ∧ ¬ (((2 : Int32) - i1) - (1 : Int32)) < 0 ∧ (i1 + (1 : Int32)).toNatClampNeg + (((2 : Int32) - i1) - (1 : Int32)).toNatClampNeg ≤ ((2 : Int32)).toNatClampNeg ∧ i1.toNatClampNeg + (((2 : Int32) - i1) - (1 : Int32)).toNatClampNeg ≤ ((2 : Int32)).toNatClampNeg ∧ (([(.int t0), (.int t1)] : List Value).take i1.toNatClampNeg ++ (List.range (((2 : Int32) - i1) - (1 : Int32)).toNatClampNeg).map (fun i => ([(.int t0), (.int t1)] : List Value).getD ((i1 + (1 : Int32)).toNatClampNeg + i) (.int (0 : Int32))) ++ ([(.int t0), (.int t1)] : List Value).drop (i1.toNatClampNeg + (((2 : Int32) - i1) - (1 : Int32)).toNatClampNeg)) = [(.int (own_dn i1 (0 : Int32) t0 t1)), (.int t1)] := by
  rcases h with rfl | rfl
  · exact ⟨by decide, by decide, by decide, by decide, by decide, rfl⟩
  · exact ⟨by decide, by decide, by decide, by decide, by decide, rfl⟩
theorem own_cd24 {t0 t1 t2 t3 : Int32} {i1 : Int32} (h : i1 = (0 : Int32) ∨ i1 = (1 : Int32)) : ¬ (i1 + (1 : Int32)) < 0 ∧ ¬ i1 < 0 ∧ ¬ (((2 : Int32) - i1) - (1 : Int32)) < 0 ∧ (i1 + (1 : Int32)).toNatClampNeg + (((2 : Int32) - i1) - (1 : Int32)).toNatClampNeg ≤ ((4 : Int32)).toNatClampNeg ∧ i1.toNatClampNeg + (((2 : Int32) - i1) - (1 : Int32)).toNatClampNeg ≤ ((4 : Int32)).toNatClampNeg ∧ (([(.int t0), (.int t1), (.int t2), (.int t3)] : List Value).take i1.toNatClampNeg ++ (List.range (((2 : Int32) - i1) - (1 : Int32)).toNatClampNeg).map (fun i => ([(.int t0), (.int t1), (.int t2), (.int t3)] : List Value).getD ((i1 + (1 : Int32)).toNatClampNeg + i) (.int (0 : Int32))) ++ ([(.int t0), (.int t1), (.int t2), (.int t3)] : List Value).drop (i1.toNatClampNeg + (((2 : Int32) - i1) - (1 : Int32)).toNatClampNeg)) = [(.int (own_dn i1 (0 : Int32) t0 t1)), (.int t1), (.int t2), (.int t3)] := by
  rcases h with rfl | rfl
  · exact ⟨by decide, by decide, by decide, by decide, by decide, rfl⟩
  · exact ⟨by decide, by decide, by decide, by decide, by decide, rfl⟩
theorem own_cd34 {t0 t1 t2 t3 : Int32} {i1 : Int32} (h : i1 = (0 : Int32) ∨ i1 = (1 : Int32) ∨ i1 = (2 : Int32)) : ¬ (i1 + (1 : Int32)) < 0 ∧ ¬ i1 < 0 ∧ ¬ (((3 : Int32) - i1) - (1 : Int32)) < 0 ∧ (i1 + (1 : Int32)).toNatClampNeg + (((3 : Int32) - i1) - (1 : Int32)).toNatClampNeg ≤ ((4 : Int32)).toNatClampNeg ∧ i1.toNatClampNeg + (((3 : Int32) - i1) - (1 : Int32)).toNatClampNeg ≤ ((4 : Int32)).toNatClampNeg ∧ (([(.int t0), (.int t1), (.int t2), (.int t3)] : List Value).take i1.toNatClampNeg ++ (List.range (((3 : Int32) - i1) - (1 : Int32)).toNatClampNeg).map (fun i => ([(.int t0), (.int t1), (.int t2), (.int t3)] : List Value).getD ((i1 + (1 : Int32)).toNatClampNeg + i) (.int (0 : Int32))) ++ ([(.int t0), (.int t1), (.int t2), (.int t3)] : List Value).drop (i1.toNatClampNeg + (((3 : Int32) - i1) - (1 : Int32)).toNatClampNeg)) = [(.int (own_dn i1 (0 : Int32) t0 t1)), (.int (own_dn i1 (1 : Int32) t1 t2)), (.int t2), (.int t3)] := by
  rcases h with rfl | rfl | rfl
  · exact ⟨by decide, by decide, by decide, by decide, by decide, rfl⟩
  · exact ⟨by decide, by decide, by decide, by decide, by decide, rfl⟩
  · exact ⟨by decide, by decide, by decide, by decide, by decide, rfl⟩
theorem own_cd44 {t0 t1 t2 t3 : Int32} {i1 : Int32} (h : i1 = (0 : Int32) ∨ i1 = (1 : Int32) ∨ i1 = (2 : Int32) ∨ i1 = (3 : Int32)) : ¬ (i1 + (1 : Int32)) < 0 ∧ ¬ i1 < 0 ∧ ¬ (((4 : Int32) - i1) - (1 : Int32)) < 0 ∧ (i1 + (1 : Int32)).toNatClampNeg + (((4 : Int32) - i1) - (1 : Int32)).toNatClampNeg ≤ ((4 : Int32)).toNatClampNeg ∧ i1.toNatClampNeg + (((4 : Int32) - i1) - (1 : Int32)).toNatClampNeg ≤ ((4 : Int32)).toNatClampNeg ∧ (([(.int t0), (.int t1), (.int t2), (.int t3)] : List Value).take i1.toNatClampNeg ++ (List.range (((4 : Int32) - i1) - (1 : Int32)).toNatClampNeg).map (fun i => ([(.int t0), (.int t1), (.int t2), (.int t3)] : List Value).getD ((i1 + (1 : Int32)).toNatClampNeg + i) (.int (0 : Int32))) ++ ([(.int t0), (.int t1), (.int t2), (.int t3)] : List Value).drop (i1.toNatClampNeg + (((4 : Int32) - i1) - (1 : Int32)).toNatClampNeg)) = [(.int (own_dn i1 (0 : Int32) t0 t1)), (.int (own_dn i1 (1 : Int32) t1 t2)), (.int (own_dn i1 (2 : Int32) t2 t3)), (.int t3)] := by
  rcases h with rfl | rfl | rfl | rfl
  · exact ⟨by decide, by decide, by decide, by decide, by decide, rfl⟩
  · exact ⟨by decide, by decide, by decide, by decide, by decide, rfl⟩
  · exact ⟨by decide, by decide, by decide, by decide, by decide, rfl⟩
  · exact ⟨by decide, by decide, by decide, by decide, by decide, rfl⟩
theorem dc26_64 : decode C26 64 = .ok (.aload_n 0, 1) := by decide +kernel
theorem dc26_65 : decode C26 65 = .ok (.iload_n 1, 1) := by decide +kernel
theorem dc26_66 : decode C26 66 = .ok (.invokevirtual 29, 3) := by decide +kernel
theorem dc26_69 : decode C26 69 = .ok (.istore_n 2, 1) := by decide +kernel
theorem dc26_70 : decode C26 70 = .ok (.iload_n 2, 1) := by decide +kernel
theorem dc26_71 : decode C26 71 = .ok (.ifCond .ge 4, 3) := by decide +kernel
theorem dc26_74 : decode C26 74 = .ok (.return_, 1) := by decide +kernel
theorem rmRe01 (l : Launch) (Z : State) (a0 : Array Value) (hw : HwT a0 Z) (ws : List Jvm.Cond) (a1 b1 : Addr) (kb : ClassId) (t0 u1 : Int32) (i1 : Nat) (h0 : Heap) (n0 : Nat) (O0 : Old Z n0 h0) (Ea : Exa Z h0 a1 sU) (Fn : Fld Z h0 a1 sU "numbers" "[I" (.ref b1)) (Fb : Fld Z h0 a1 sU "bits" "Ljava/util/BitSet;" .null) (Fc : Fld Z h0 a1 sU "count" "I" (.int (0 : Int32))) (ga : n0 ≤ a1) (Vb : Arv Z h0 b1 kb .int (1 : Int32) [(.int t0)] (.int (0 : Int32))) (neab : a1 ≠ b1) (gb : n0 ≤ b1) (hs : Srt []) (hi : 0 ≤ i1) (hi4 : i1 ≤ 4) (hu : own_r u1) (SB : Sta Z Z.heap sB "$assertionsDisabled" "Z" (.int (1 : Int32))) :
    Mt l Z y_26 prog_25_method_6_code 3 none ws ({ frames := 3, cells := 0, slots := 0, locals := 47 } : Room) #[(.ref a1), (.int u1)] h0 (Q_re Z a1 u1 i1 [] [a1, b1] h0 n0) := by
  refine MetFree.of_bodySF (plainFor_of_name pn_0) hisR ?_
  intro p e s m args below meth c s₁ Bd hml0 hP hK
  obtain ⟨rfl, hZ, hh⟩ := hP
  have hx := Bd.exec
  have hby := Bd.bytes
  have hml : c.maxLocals = 3 := hml0
  have hown : s.vm.findClass sU = some m.cls := findClass_of_methodNamed Bd.named
  have hnm := (name_of_methodNamed Bd.named Bd.method).1
  have X0 : Stand p l e ({ frames := 3, cells := 0, slots := 0, locals := 47 } : Room) s m #[(.ref a1), (.int u1)] below meth c s₁ [] 0 0 := Stand.of_body Bd
  have e0 : s₁.heap = h0 := by rw [← hh, Bd.state]; rfl
  have N0 := Fr.nil n0
  have pre0 := fun t (k : Steps p.tables e below (s₁.setTop _) t) => castTop (ef_5 m a1 u1) k
  obtain ⟨T101, X101, e101, st101⟩ := gG X0 hx hZ hown (wq hw 29 rfl) e0 Fb (g := (mkF m 1 #[vR a1, vI u1, .unset] [(.ref a1)])) rfl rfl (hb hby dc26_1)
  obtain ⟨cq102, q102, q102'⟩ := Exa.cell Ea
  obtain ⟨_, _, ⟨T102, L102, k102, n102⟩, -, X102, ⟨Lc102, hQ102, l102, y102, z102⟩, st102⟩ := X101.privateBack hx (y := y_21) hown (mvT hZ (wq hw 31 rfl)) (mvT hZ (wq hw 32 rfl)) (mvT hZ (own_sel (y := y_21) (wq hw 1 rfl) (wq hw 33 rfl) (wq hw 32 rfl) (by decide))) (Cond.privateMethod_at (mvP hZ (wq hw 33 rfl) (args := #[]))) (mvT hZ (wq hw 34 rfl)) (by decide) (backOf (W := 0) (rmFi l Z a0 hw [] a1 b1 (0 : Int32) u1 1 (own_f1 t0) h0 n0 O0 Fn Fc (Iv.of1 Vb) (by decide) (by decide) (own_mo01) (by decide) (by decide)) hZ (wq hw 34 rfl) (wq hw 2 rfl) (by decide) (by decide)) (g := (mkF m 66 #[vR a1, vI u1, .unset] [(.int u1), (.ref a1)])) rfl (by rw [hml]; rfl) (Steps.refl _) (a := a1) (by rw [e101]; exact q102) q102' (argsL := [(.int u1)]) (rest := []) (lenOf pd_0 rfl) rfl (by show 2 * 0 + _ ≤ _; exact Nat.le_of_eq rfl) (hb hby dc26_66) (fun _ _ => ⟨rfl, e101, (by decide : 0 + 0 ≤ _), (by decide : 0 + 0 ≤ _)⟩)
  dsimp only [Pt.U, Pt.locs, Pt.cells, Pt.slots] at X102 l102 y102 z102 st102 hQ102
  subst l102 y102 z102
  obtain ⟨r102, rfl, N102q, hh102, R102⟩ := hQ102
  have N102 := Fr.app N0 N102q
  have pre103 : ∀ t, Steps p.tables e below (T102.setTop (mkF m 69 #[vR a1, vI u1, .unset] [(.int r102)])) t → Steps p.tables e below (s₁.setTop (entryFrame m #[(.ref a1), (.int u1)] 3)) t := fun t kt => pre0 t (by
      show Steps p.tables e below (s₁.setTop (mkF m 0 #[vR a1, vI u1, .unset] [])) _
      refine XS.aloadN X0.here hx rfl (hb hby dc26_0) rfl rfl ?_
      refine st101 _ ?_
      refine XS.ifnullYes X101.here hx rfl (pc0 := 4) (pc' := 64) rfl (hb hby dc26_4) rfl (by decide) (by decide) ?_
      refine XS.aloadN X101.here hx rfl (hb hby dc26_64) rfl rfl ?_
      refine XS.iloadN X101.here hx rfl (hb hby dc26_65) rfl ?_
      refine st102.trans ?_
      exact kt)
  rcases ((or_iff_right (fun q => by obtain ⟨_, _, z⟩ := q; exact z)).mp (own_cv01 R102)) with ⟨j102, hk104, hk104a⟩
  · skip
    obtain ⟨fs, hr, hrun, hended, hW, hsame⟩ := X102.leave (v := none) (fun _ => rfl)
    refine ⟨_, _, pre103 _ ?_, hrun, hended, _, _, rfl, ?_, ⟨_, rfl⟩, hW, hsame.mono (by decide) (by decide)⟩
    · skip
      show Steps p.tables e below (T102.setTop (mkF m 69 #[vR a1, vI u1, .unset] [(.int r102)])) _
      rw [hk104]
      refine XS.istoreN X102.here hx rfl (hb hby dc26_69) rfl (l' := #[vR a1, vI u1, vI (-(j102 + (1 : Int32)))]) rfl ?_
      refine XS.iloadN X102.here hx rfl (hb hby dc26_70) rfl ?_
      refine XS.ifNo X102.here hx rfl (hb hby dc26_71) rfl ((if0 _ _).trans (tlt (own_neg (own_jr0 (own_plj0 hk104a)))).2.1) ?_
      exact X102.returnOut hx Bd.returns (hb hby dc26_74) hr
    · show Q_re Z a1 u1 i1 [] [a1, b1] h0 n0 _ T102.heap _
      rw [hh102]
      exact ⟨rfl, N102, (Keep.refl h0 [a1, b1]), [], _, ⟨Ea, ga, Fc, Nat.le_succ_of_le hi, Or.inl ⟨b1, rfl, gb, neab, Fn, Fb, ⟨_, Or.inl ⟨_, rfl, Vb⟩⟩, hs⟩⟩, fun x => ⟨fun q => ⟨fun z => own_not0 hs hk104a (z ▸ q), q⟩, And.right⟩, own_w2 (Or.inl rfl)⟩
theorem rmRe02 (l : Launch) (Z : State) (a0 : Array Value) (hw : HwT a0 Z) (ws : List Jvm.Cond) (a1 b1 : Addr) (kb : ClassId) (t0 t1 u1 : Int32) (i1 : Nat) (h0 : Heap) (n0 : Nat) (O0 : Old Z n0 h0) (Ea : Exa Z h0 a1 sU) (Fn : Fld Z h0 a1 sU "numbers" "[I" (.ref b1)) (Fb : Fld Z h0 a1 sU "bits" "Ljava/util/BitSet;" .null) (Fc : Fld Z h0 a1 sU "count" "I" (.int (0 : Int32))) (ga : n0 ≤ a1) (Vb : Arv Z h0 b1 kb .int (2 : Int32) [(.int t0), (.int t1)] (.int (0 : Int32))) (neab : a1 ≠ b1) (gb : n0 ≤ b1) (hs : Srt []) (hi : 0 ≤ i1) (hi4 : i1 ≤ 4) (hu : own_r u1) (SB : Sta Z Z.heap sB "$assertionsDisabled" "Z" (.int (1 : Int32))) :
    Mt l Z y_26 prog_25_method_6_code 3 none ws ({ frames := 3, cells := 0, slots := 0, locals := 47 } : Room) #[(.ref a1), (.int u1)] h0 (Q_re Z a1 u1 i1 [] [a1, b1] h0 n0) := by
  refine MetFree.of_bodySF (plainFor_of_name pn_0) hisR ?_
  intro p e s m args below meth c s₁ Bd hml0 hP hK
  obtain ⟨rfl, hZ, hh⟩ := hP
  have hx := Bd.exec
  have hby := Bd.bytes
  have hml : c.maxLocals = 3 := hml0
  have hown : s.vm.findClass sU = some m.cls := findClass_of_methodNamed Bd.named
  have hnm := (name_of_methodNamed Bd.named Bd.method).1
  have X0 : Stand p l e ({ frames := 3, cells := 0, slots := 0, locals := 47 } : Room) s m #[(.ref a1), (.int u1)] below meth c s₁ [] 0 0 := Stand.of_body Bd
  have e0 : s₁.heap = h0 := by rw [← hh, Bd.state]; rfl
  have N0 := Fr.nil n0
  have pre0 := fun t (k : Steps p.tables e below (s₁.setTop _) t) => castTop (ef_5 m a1 u1) k
  obtain ⟨T101, X101, e101, st101⟩ := gG X0 hx hZ hown (wq hw 29 rfl) e0 Fb (g := (mkF m 1 #[vR a1, vI u1, .unset] [(.ref a1)])) rfl rfl (hb hby dc26_1)
  obtain ⟨cq102, q102, q102'⟩ := Exa.cell Ea
  obtain ⟨_, _, ⟨T102, L102, k102, n102⟩, -, X102, ⟨Lc102, hQ102, l102, y102, z102⟩, st102⟩ := X101.privateBack hx (y := y_21) hown (mvT hZ (wq hw 31 rfl)) (mvT hZ (wq hw 32 rfl)) (mvT hZ (own_sel (y := y_21) (wq hw 1 rfl) (wq hw 33 rfl) (wq hw 32 rfl) (by decide))) (Cond.privateMethod_at (mvP hZ (wq hw 33 rfl) (args := #[]))) (mvT hZ (wq hw 34 rfl)) (by decide) (backOf (W := 0) (rmFi l Z a0 hw [] a1 b1 (0 : Int32) u1 2 (own_f2 t0 t1) h0 n0 O0 Fn Fc (Iv.of2 Vb) (by decide) (by decide) (own_mo02) (by decide) (by decide)) hZ (wq hw 34 rfl) (wq hw 2 rfl) (by decide) (by decide)) (g := (mkF m 66 #[vR a1, vI u1, .unset] [(.int u1), (.ref a1)])) rfl (by rw [hml]; rfl) (Steps.refl _) (a := a1) (by rw [e101]; exact q102) q102' (argsL := [(.int u1)]) (rest := []) (lenOf pd_0 rfl) rfl (by show 2 * 0 + _ ≤ _; exact Nat.le_of_eq rfl) (hb hby dc26_66) (fun _ _ => ⟨rfl, e101, (by decide : 0 + 0 ≤ _), (by decide : 0 + 0 ≤ _)⟩)
  dsimp only [Pt.U, Pt.locs, Pt.cells, Pt.slots] at X102 l102 y102 z102 st102 hQ102
  subst l102 y102 z102
  obtain ⟨r102, rfl, N102q, hh102, R102⟩ := hQ102
  have N102 := Fr.app N0 N102q
  have pre103 : ∀ t, Steps p.tables e below (T102.setTop (mkF m 69 #[vR a1, vI u1, .unset] [(.int r102)])) t → Steps p.tables e below (s₁.setTop (entryFrame m #[(.ref a1), (.int u1)] 3)) t := fun t kt => pre0 t (by
      show Steps p.tables e below (s₁.setTop (mkF m 0 #[vR a1, vI u1, .unset] [])) _
      refine XS.aloadN X0.here hx rfl (hb hby dc26_0) rfl rfl ?_
      refine st101 _ ?_
      refine XS.ifnullYes X101.here hx rfl (pc0 := 4) (pc' := 64) rfl (hb hby dc26_4) rfl (by decide) (by decide) ?_
      refine XS.aloadN X101.here hx rfl (hb hby dc26_64) rfl rfl ?_
      refine XS.iloadN X101.here hx rfl (hb hby dc26_65) rfl ?_
      refine st102.trans ?_
      exact kt)
  rcases ((or_iff_right (fun q => by obtain ⟨_, _, z⟩ := q; exact z)).mp (own_cv02 R102)) with ⟨j102, hk104, hk104a⟩
  · skip
    obtain ⟨fs, hr, hrun, hended, hW, hsame⟩ := X102.leave (v := none) (fun _ => rfl)
    refine ⟨_, _, pre103 _ ?_, hrun, hended, _, _, rfl, ?_, ⟨_, rfl⟩, hW, hsame.mono (by decide) (by decide)⟩
    · skip
      show Steps p.tables e below (T102.setTop (mkF m 69 #[vR a1, vI u1, .unset] [(.int r102)])) _
      rw [hk104]
      refine XS.istoreN X102.here hx rfl (hb hby dc26_69) rfl (l' := #[vR a1, vI u1, vI (-(j102 + (1 : Int32)))]) rfl ?_
      refine XS.iloadN X102.here hx rfl (hb hby dc26_70) rfl ?_
      refine XS.ifNo X102.here hx rfl (hb hby dc26_71) rfl ((if0 _ _).trans (tlt (own_neg (own_jr0 (own_plj0 hk104a)))).2.1) ?_
      exact X102.returnOut hx Bd.returns (hb hby dc26_74) hr
    · show Q_re Z a1 u1 i1 [] [a1, b1] h0 n0 _ T102.heap _
      rw [hh102]
      exact ⟨rfl, N102, (Keep.refl h0 [a1, b1]), [], _, ⟨Ea, ga, Fc, Nat.le_succ_of_le hi, Or.inl ⟨b1, rfl, gb, neab, Fn, Fb, ⟨_, Or.inr (Or.inl ⟨_, _, rfl, Vb⟩)⟩, hs⟩⟩, fun x => ⟨fun q => ⟨fun z => own_not0 hs hk104a (z ▸ q), q⟩, And.right⟩, own_w2 (Or.inl rfl)⟩
theorem dc26_75 : decode C26 75 = .ok (.aload_n 0, 1) := by decide +kernel
theorem dc26_76 : decode C26 76 = .ok (.getfield 9, 3) := by decide +kernel
theorem dc26_79 : decode C26 79 = .ok (.iload_n 2, 1) := by decide +kernel
theorem dc26_80 : decode C26 80 = .ok (.iconst 1, 1) := by decide +kernel
theorem dc26_81 : decode C26 81 = .ok (.iadd, 1) := by decide +kernel
theorem dc26_82 : decode C26 82 = .ok (.aload_n 0, 1) := by decide +kernel
theorem dc26_83 : decode C26 83 = .ok (.getfield 9, 3) := by decide +kernel
theorem dc26_86 : decode C26 86 = .ok (.iload_n 2, 1) := by decide +kernel
theorem dc26_87 : decode C26 87 = .ok (.aload_n 0, 1) := by decide +kernel
theorem dc26_88 : decode C26 88 = .ok (.getfield 15, 3) := by decide +kernel
theorem dc26_91 : decode C26 91 = .ok (.iload_n 2, 1) := by decide +kernel
theorem dc26_92 : decode C26 92 = .ok (.isub, 1) := by decide +kernel
theorem dc26_93 : decode C26 93 = .ok (.iconst 1, 1) := by decide +kernel
theorem dc26_94 : decode C26 94 = .ok (.isub, 1) := by decide +kernel
theorem dc26_95 : decode C26 95 = .ok (.invokestatic 62, 3) := by decide +kernel
theorem dc26_98 : decode C26 98 = .ok (.aload_n 0, 1) := by decide +kernel
theorem dc26_99 : decode C26 99 = .ok (.dup, 1) := by decide +kernel
theorem dc26_100 : decode C26 100 = .ok (.getfield 15, 3) := by decide +kernel
theorem dc26_103 : decode C26 103 = .ok (.iconst 1, 1) := by decide +kernel
theorem dc26_104 : decode C26 104 = .ok (.isub, 1) := by decide +kernel
theorem dc26_105 : decode C26 105 = .ok (.putfield 15, 3) := by decide +kernel
theorem dc26_108 : decode C26 108 = .ok (.aload_n 0, 1) := by decide +kernel
theorem dc26_109 : decode C26 109 = .ok (.getfield 15, 3) := by decide +kernel
theorem dc26_112 : decode C26 112 = .ok (.ifCond .le 35, 3) := by decide +kernel
theorem dc26_147 : decode C26 147 = .ok (.return_, 1) := by decide +kernel
theorem rmRe11 (l : Launch) (Z : State) (a0 : Array Value) (hw : HwT a0 Z) (ws : List Jvm.Cond) (a1 b1 : Addr) (kb : ClassId) (t0 u1 : Int32) (i1 : Nat) (h0 : Heap) (n0 : Nat) (O0 : Old Z n0 h0) (Ea : Exa Z h0 a1 sU) (Fn : Fld Z h0 a1 sU "numbers" "[I" (.ref b1)) (Fb : Fld Z h0 a1 sU "bits" "Ljava/util/BitSet;" .null) (Fc : Fld Z h0 a1 sU "count" "I" (.int (1 : Int32))) (ga : n0 ≤ a1) (Vb : Arv Z h0 b1 kb .int (1 : Int32) [(.int t0)] (.int (0 : Int32))) (neab : a1 ≠ b1) (gb : n0 ≤ b1) (hs : Srt [t0]) (hi : 1 ≤ i1) (hi4 : i1 ≤ 4) (hu : own_r u1) (SB : Sta Z Z.heap sB "$assertionsDisabled" "Z" (.int (1 : Int32))) :
    Mt l Z y_26 prog_25_method_6_code 3 none ws ({ frames := 3, cells := 0, slots := 0, locals := 47 } : Room) #[(.ref a1), (.int u1)] h0 (Q_re Z a1 u1 i1 [t0] [a1, b1] h0 n0) := by
  refine MetFree.of_bodySF (plainFor_of_name pn_0) hisR ?_
  intro p e s m args below meth c s₁ Bd hml0 hP hK
  obtain ⟨rfl, hZ, hh⟩ := hP
  have hx := Bd.exec
  have hby := Bd.bytes
  have hml : c.maxLocals = 3 := hml0
  have hown : s.vm.findClass sU = some m.cls := findClass_of_methodNamed Bd.named
  have hnm := (name_of_methodNamed Bd.named Bd.method).1
  have X0 : Stand p l e ({ frames := 3, cells := 0, slots := 0, locals := 47 } : Room) s m #[(.ref a1), (.int u1)] below meth c s₁ [] 0 0 := Stand.of_body Bd
  have e0 : s₁.heap = h0 := by rw [← hh, Bd.state]; rfl
  have N0 := Fr.nil n0
  have pre0 := fun t (k : Steps p.tables e below (s₁.setTop _) t) => castTop (ef_5 m a1 u1) k
  obtain ⟨T101, X101, e101, st101⟩ := gG X0 hx hZ hown (wq hw 29 rfl) e0 Fb (g := (mkF m 1 #[vR a1, vI u1, .unset] [(.ref a1)])) rfl rfl (hb hby dc26_1)
  obtain ⟨cq102, q102, q102'⟩ := Exa.cell Ea
  obtain ⟨_, _, ⟨T102, L102, k102, n102⟩, -, X102, ⟨Lc102, hQ102, l102, y102, z102⟩, st102⟩ := X101.privateBack hx (y := y_21) hown (mvT hZ (wq hw 31 rfl)) (mvT hZ (wq hw 32 rfl)) (mvT hZ (own_sel (y := y_21) (wq hw 1 rfl) (wq hw 33 rfl) (wq hw 32 rfl) (by decide))) (Cond.privateMethod_at (mvP hZ (wq hw 33 rfl) (args := #[]))) (mvT hZ (wq hw 34 rfl)) (by decide) (backOf (W := 0) (rmFi l Z a0 hw [] a1 b1 (1 : Int32) u1 1 (own_f1 t0) h0 n0 O0 Fn Fc (Iv.of1 Vb) (by decide) (by decide) (own_mo11) (by decide) (by decide)) hZ (wq hw 34 rfl) (wq hw 2 rfl) (by decide) (by decide)) (g := (mkF m 66 #[vR a1, vI u1, .unset] [(.int u1), (.ref a1)])) rfl (by rw [hml]; rfl) (Steps.refl _) (a := a1) (by rw [e101]; exact q102) q102' (argsL := [(.int u1)]) (rest := []) (lenOf pd_0 rfl) rfl (by show 2 * 0 + _ ≤ _; exact Nat.le_of_eq rfl) (hb hby dc26_66) (fun _ _ => ⟨rfl, e101, (by decide : 0 + 0 ≤ _), (by decide : 0 + 0 ≤ _)⟩)
  dsimp only [Pt.U, Pt.locs, Pt.cells, Pt.slots] at X102 l102 y102 z102 st102 hQ102
  subst l102 y102 z102
  obtain ⟨r102, rfl, N102q, hh102, R102⟩ := hQ102
  have N102 := Fr.app N0 N102q
  have pre103 : ∀ t, Steps p.tables e below (T102.setTop (mkF m 69 #[vR a1, vI u1, .unset] [(.int r102)])) t → Steps p.tables e below (s₁.setTop (entryFrame m #[(.ref a1), (.int u1)] 3)) t := fun t kt => pre0 t (by
      show Steps p.tables e below (s₁.setTop (mkF m 0 #[vR a1, vI u1, .unset] [])) _
      refine XS.aloadN X0.here hx rfl (hb hby dc26_0) rfl rfl ?_
      refine st101 _ ?_
      refine XS.ifnullYes X101.here hx rfl (pc0 := 4) (pc' := 64) rfl (hb hby dc26_4) rfl (by decide) (by decide) ?_
      refine XS.aloadN X101.here hx rfl (hb hby dc26_64) rfl rfl ?_
      refine XS.iloadN X101.here hx rfl (hb hby dc26_65) rfl ?_
      refine st102.trans ?_
      exact kt)
  rcases (own_cv11 R102) with ⟨i102, hk104, hk104a⟩ | ⟨j102, hk104, hk104a⟩
  · skip
    obtain ⟨T105, X105, e105, st105⟩ := gG X102 hx hZ hown (wq hw 10 rfl) hh102 Fn (g := (mkF m 76 #[vR a1, vI u1, vI i102] [(.ref a1)])) rfl rfl (hb hby dc26_76)
    obtain ⟨T106, X106, e106, st106⟩ := gG X105 hx hZ hown (wq hw 10 rfl) e105 Fn (g := (mkF m 83 #[vR a1, vI u1, vI i102] [(.ref a1), (.int (i102 + (1 : Int32))), (.ref b1)])) rfl rfl (hb hby dc26_83)
    obtain ⟨T107, X107, e107, st107⟩ := gG X106 hx hZ hown (wq hw 18 rfl) e106 Fc (g := (mkF m 88 #[vR a1, vI u1, vI i102] [(.ref a1), (.int i102), (.ref b1), (.int (i102 + (1 : Int32))), (.ref b1)])) rfl rfl (hb hby dc26_88)
    obtain ⟨T108, h108, L108, X108, e108, N108, K108, V108_, st108⟩ := cpA X107 hx hZ hown (wq hw 50 rfl) (wq hw 53 rfl) (wq hw 51 rfl) (wq hw 52 rfl) e107 Vb Vb (Or.inl ⟨rfl, rfl⟩) (own_cd11 (i1 := i102) (t0 := t0) (own_ati1 hk104a)).1 (own_cd11 (i1 := i102) (t0 := t0) (own_ati1 hk104a)).2.1 (own_cd11 (i1 := i102) (t0 := t0) (own_ati1 hk104a)).2.2.1 (own_cd11 (i1 := i102) (t0 := t0) (own_ati1 hk104a)).2.2.2.1 (own_cd11 (i1 := i102) (t0 := t0) (own_ati1 hk104a)).2.2.2.2.1 rfl (Nat.le_trans (own_cd11 (i1 := i102) (t0 := t0) (own_ati1 hk104a)).2.2.2.2.1 (by decide : (1 : Int32).toNatClampNeg ≤ 1)) N102 gb (g := (mkF m 95 #[vR a1, vI u1, vI i102] [(.int (((1 : Int32) - i102) - (1 : Int32))), (.int i102), (.ref b1), (.int (i102 + (1 : Int32))), (.ref b1)])) rfl (by rw [hml]; rfl) rfl (hb hby dc26_95) (by decide) (W := 0) (by show 2 * 0 + _ ≤ _; exact Nat.le_of_eq rfl) (by decide)
    have V108 : Arv Z h108 b1 kb .int (1 : Int32) [(.int t0)] (.int (0 : Int32)) := by have q := V108_; rw [(own_cd11 (i1 := i102) (t0 := t0) (own_ati1 hk104a)).2.2.2.2.2] at q; exact q
    have f109 := (Fc.keep K108 (ninS neab nin0))
    obtain ⟨T110, X110, e110, st110⟩ := gG X108 hx hZ hown (wq hw 18 rfl) e108 f109 (g := (mkF m 100 #[vR a1, vI u1, vI i102] [(.ref a1), (.ref a1)])) rfl rfl (hb hby dc26_100)
    have f111 := (Ea.keep K108)
    obtain ⟨T112, h112, X112, e112, W112, st112⟩ := putF X110 hx hZ hown (host := "") (Or.inl (wq hw 18 rfl)) Via.refl e110 f109 f111 (Or.inl (wq hw 19 rfl)) (wq hw 1 rfl) (ty := .int) (by decide) rfl rfl (g := (mkF m 105 #[vR a1, vI u1, vI i102] [(.int (0 : Int32)), (.ref a1)])) rfl rfl (hb hby dc26_105)
    have Fw112 : Fld Z h112 a1 sU "count" "I" (.int (0 : Int32)) := Fld.same W112 f109
    have N112 := Fr.snoc X112 N108 ga
    obtain ⟨T113, X113, e113, st113⟩ := gG X112 hx hZ hown (wq hw 18 rfl) e112 Fw112 (g := (mkF m 109 #[vR a1, vI u1, vI i102] [(.ref a1)])) rfl rfl (hb hby dc26_109)
    obtain ⟨fs, hr, hrun, hended, hW, hsame⟩ := X113.leave (v := none) (fun _ => rfl)
    have K114 : Keep h0 h112 [a1, b1] := (Keep.wr (Keep.trans (Keep.refl h0 [a1, b1]) K108 (allS (P := fun x => x ∈ [a1, b1] ∨ h0.size ≤ x) (Or.inl (List.mem_of_getElem? (i := 1) rfl)) all0)) W112 (Or.inl (List.mem_of_getElem? (i := 0) rfl)))
    have f115 := (f111.wr W112)
    have f116 := ((Fn.keep K108 (ninS neab nin0)).other W112 (Or.inr (slot_ne (Or.inl (wq hw 11 rfl)) (Or.inl (wq hw 19 rfl)) (by decide) (t := (.array .int)) (t' := .int) (by decide) (by decide))))
    have f117 := ((Fb.keep K108 (ninS neab nin0)).other W112 (Or.inr (slot_ne (Or.inl (wq hw 30 rfl)) (Or.inl (wq hw 19 rfl)) (by decide) (t := (.object sB)) (t' := .int) (by decide) (by decide))))
    have f118 := (V108.other W112 (Ne.symm neab))
    refine ⟨_, _, pre103 _ ?_, hrun, hended, _, _, rfl, ?_, ⟨_, rfl⟩, hW, hsame.mono (by decide) (by decide)⟩
    · skip
      show Steps p.tables e below (T102.setTop (mkF m 69 #[vR a1, vI u1, .unset] [(.int r102)])) _
      rw [hk104]
      show Steps p.tables e below (T102.setTop (mkF m 69 #[vR a1, vI u1, .unset] [(.int i102)])) _
      refine XS.istoreN X102.here hx rfl (hb hby dc26_69) rfl (l' := #[vR a1, vI u1, vI i102]) rfl ?_
      refine XS.iloadN X102.here hx rfl (hb hby dc26_70) rfl ?_
      refine XS.ifYes X102.here hx rfl (pc0 := 71) (pc' := 75) rfl (hb hby dc26_71) rfl ((if0 _ _).trans (flt (own_ir1 (own_ati1 hk104a))).2.1) (by decide) (by decide) ?_
      refine XS.aloadN X102.here hx rfl (hb hby dc26_75) rfl rfl ?_
      refine st105 _ ?_
      refine XS.iloadN X105.here hx rfl (hb hby dc26_79) rfl ?_
      refine XS.iconst X105.here hx rfl (hb hby dc26_80) ?_
      refine XS.iadd X105.here hx rfl (hb hby dc26_81) rfl ?_
      refine XS.aloadN X105.here hx rfl (hb hby dc26_82) rfl rfl ?_
      refine st106 _ ?_
      refine XS.iloadN X106.here hx rfl (hb hby dc26_86) rfl ?_
      refine XS.aloadN X106.here hx rfl (hb hby dc26_87) rfl rfl ?_
      show Steps p.tables e below (T106.setTop (mkF m 88 #[vR a1, vI u1, vI i102] [(.ref a1), (.int i102), (.ref b1), (.int (i102 + (1 : Int32))), (.ref b1)])) _
      refine st107 _ ?_
      refine XS.iloadN X107.here hx rfl (hb hby dc26_91) rfl ?_
      refine XS.isub X107.here hx rfl (hb hby dc26_92) rfl ?_
      refine XS.iconst X107.here hx rfl (hb hby dc26_93) ?_
      refine XS.isub X107.here hx rfl (hb hby dc26_94) rfl ?_
      refine st108 _ ?_
      refine XS.aloadN X108.here hx rfl (hb hby dc26_98) rfl rfl ?_
      refine XS.dup X108.here hx rfl (hb hby dc26_99) rfl rfl ?_
      refine st110 _ ?_
      refine XS.iconst X110.here hx rfl (hb hby dc26_103) ?_
      refine XS.isub X110.here hx rfl (hb hby dc26_104) rfl ?_
      refine st112 _ ?_
      show Steps p.tables e below (T112.setTop (mkF m 108 #[vR a1, vI u1, vI i102] [])) _
      refine XS.aloadN X112.here hx rfl (hb hby dc26_108) rfl rfl ?_
      refine st113 _ ?_
      refine XS.ifYes X113.here hx rfl (pc0 := 112) (pc' := 147) rfl (hb hby dc26_112) rfl (by decide) (by decide) (by decide) ?_
      exact X113.returnOut hx Bd.returns (hb hby dc26_147) hr
    · show Q_re Z a1 u1 i1 [t0] [a1, b1] h0 n0 _ T113.heap _
      rw [e113]
      exact ⟨rfl, N112, K114, [], _, ⟨f115, ga, Fw112, (by have := hi; simp only [List.length_cons, List.length_nil]; omega), Or.inl ⟨b1, rfl, gb, neab, f116, f117, ⟨_, Or.inl ⟨_, rfl, f118⟩⟩, (own_del1 hs hk104a).1⟩⟩, (own_del1 hs hk104a).2, own_w2 (Or.inl rfl)⟩
  · skip
    obtain ⟨fs, hr, hrun, hended, hW, hsame⟩ := X102.leave (v := none) (fun _ => rfl)
    refine ⟨_, _, pre103 _ ?_, hrun, hended, _, _, rfl, ?_, ⟨_, rfl⟩, hW, hsame.mono (by decide) (by decide)⟩
    · skip
      show Steps p.tables e below (T102.setTop (mkF m 69 #[vR a1, vI u1, .unset] [(.int r102)])) _
      rw [hk104]
      refine XS.istoreN X102.here hx rfl (hb hby dc26_69) rfl (l' := #[vR a1, vI u1, vI (-(j102 + (1 : Int32)))]) rfl ?_
      refine XS.iloadN X102.here hx rfl (hb hby dc26_70) rfl ?_
      refine XS.ifNo X102.here hx rfl (hb hby dc26_71) rfl ((if0 _ _).trans (tlt (own_neg (own_jr1 (own_plj1 hk104a)))).2.1) ?_
      exact X102.returnOut hx Bd.returns (hb hby dc26_74) hr
    · show Q_re Z a1 u1 i1 [t0] [a1, b1] h0 n0 _ T102.heap _
      rw [hh102]
      exact ⟨rfl, N102, (Keep.refl h0 [a1, b1]), [t0], _, ⟨Ea, ga, Fc, Nat.le_succ_of_le hi, Or.inl ⟨b1, rfl, gb, neab, Fn, Fb, ⟨_, Or.inr (Or.inr (Or.inl ⟨_, rfl, Vb⟩))⟩, hs⟩⟩, fun x => ⟨fun q => ⟨fun z => own_not1 hs hk104a (z ▸ q), q⟩, And.right⟩, own_w2 (Or.inl rfl)⟩
theorem rmRe12 (l : Launch) (Z : State) (a0 : Array Value) (hw : HwT a0 Z) (ws : List Jvm.Cond) (a1 b1 : Addr) (kb : ClassId) (t0 t1 u1 : Int32) (i1 : Nat) (h0 : Heap) (n0 : Nat) (O0 : Old Z n0 h0) (Ea : Exa Z h0 a1 sU) (Fn : Fld Z h0 a1 sU "numbers" "[I" (.ref b1)) (Fb : Fld Z h0 a1 sU "bits" "Ljava/util/BitSet;" .null) (Fc : Fld Z h0 a1 sU "count" "I" (.int (1 : Int32))) (ga : n0 ≤ a1) (Vb : Arv Z h0 b1 kb .int (2 : Int32) [(.int t0), (.int t1)] (.int (0 : Int32))) (neab : a1 ≠ b1) (gb : n0 ≤ b1) (hs : Srt [t0]) (hi : 1 ≤ i1) (hi4 : i1 ≤ 4) (hu : own_r u1) (SB : Sta Z Z.heap sB "$assertionsDisabled" "Z" (.int (1 : Int32))) :
    Mt l Z y_26 prog_25_method_6_code 3 none ws ({ frames := 3, cells := 0, slots := 0, locals := 47 } : Room) #[(.ref a1), (.int u1)] h0 (Q_re Z a1 u1 i1 [t0] [a1, b1] h0 n0) := by
  refine MetFree.of_bodySF (plainFor_of_name pn_0) hisR ?_
  intro p e s m args below meth c s₁ Bd hml0 hP hK
  obtain ⟨rfl, hZ, hh⟩ := hP
  have hx := Bd.exec
  have hby := Bd.bytes
  have hml : c.maxLocals = 3 := hml0
  have hown : s.vm.findClass sU = some m.cls := findClass_of_methodNamed Bd.named
  have hnm := (name_of_methodNamed Bd.named Bd.method).1
  have X0 : Stand p l e ({ frames := 3, cells := 0, slots := 0, locals := 47 } : Room) s m #[(.ref a1), (.int u1)] below meth c s₁ [] 0 0 := Stand.of_body Bd
  have e0 : s₁.heap = h0 := by rw [← hh, Bd.state]; rfl
  have N0 := Fr.nil n0
  have pre0 := fun t (k : Steps p.tables e below (s₁.setTop _) t) => castTop (ef_5 m a1 u1) k
  obtain ⟨T101, X101, e101, st101⟩ := gG X0 hx hZ hown (wq hw 29 rfl) e0 Fb (g := (mkF m 1 #[vR a1, vI u1, .unset] [(.ref a1)])) rfl rfl (hb hby dc26_1)
  obtain ⟨cq102, q102, q102'⟩ := Exa.cell Ea
  obtain ⟨_, _, ⟨T102, L102, k102, n102⟩, -, X102, ⟨Lc102, hQ102, l102, y102, z102⟩, st102⟩ := X101.privateBack hx (y := y_21) hown (mvT hZ (wq hw 31 rfl)) (mvT hZ (wq hw 32 rfl)) (mvT hZ (own_sel (y := y_21) (wq hw 1 rfl) (wq hw 33 rfl) (wq hw 32 rfl) (by decide))) (Cond.privateMethod_at (mvP hZ (wq hw 33 rfl) (args := #[]))) (mvT hZ (wq hw 34 rfl)) (by decide) (backOf (W := 0) (rmFi l Z a0 hw [] a1 b1 (1 : Int32) u1 2 (own_f2 t0 t1) h0 n0 O0 Fn Fc (Iv.of2 Vb) (by decide) (by decide) (own_mo12) (by decide) (by decide)) hZ (wq hw 34 rfl) (wq hw 2 rfl) (by decide) (by decide)) (g := (mkF m 66 #[vR a1, vI u1, .unset] [(.int u1), (.ref a1)])) rfl (by rw [hml]; rfl) (Steps.refl _) (a := a1) (by rw [e101]; exact q102) q102' (argsL := [(.int u1)]) (rest := []) (lenOf pd_0 rfl) rfl (by show 2 * 0 + _ ≤ _; exact Nat.le_of_eq rfl) (hb hby dc26_66) (fun _ _ => ⟨rfl, e101, (by decide : 0 + 0 ≤ _), (by decide : 0 + 0 ≤ _)⟩)
  dsimp only [Pt.U, Pt.locs, Pt.cells, Pt.slots] at X102 l102 y102 z102 st102 hQ102
  subst l102 y102 z102
  obtain ⟨r102, rfl, N102q, hh102, R102⟩ := hQ102
  have N102 := Fr.app N0 N102q
  have pre103 : ∀ t, Steps p.tables e below (T102.setTop (mkF m 69 #[vR a1, vI u1, .unset] [(.int r102)])) t → Steps p.tables e below (s₁.setTop (entryFrame m #[(.ref a1), (.int u1)] 3)) t := fun t kt => pre0 t (by
      show Steps p.tables e below (s₁.setTop (mkF m 0 #[vR a1, vI u1, .unset] [])) _
      refine XS.aloadN X0.here hx rfl (hb hby dc26_0) rfl rfl ?_
      refine st101 _ ?_
      refine XS.ifnullYes X101.here hx rfl (pc0 := 4) (pc' := 64) rfl (hb hby dc26_4) rfl (by decide) (by decide) ?_
      refine XS.aloadN X101.here hx rfl (hb hby dc26_64) rfl rfl ?_
      refine XS.iloadN X101.here hx rfl (hb hby dc26_65) rfl ?_
      refine st102.trans ?_
      exact kt)
  rcases (own_cv12 R102) with ⟨i102, hk104, hk104a⟩ | ⟨j102, hk104, hk104a⟩
  · skip
    obtain ⟨T105, X105, e105, st105⟩ := gG X102 hx hZ hown (wq hw 10 rfl) hh102 Fn (g := (mkF m 76 #[vR a1, vI u1, vI i102] [(.ref a1)])) rfl rfl (hb hby dc26_76)
    obtain ⟨T106, X106, e106, st106⟩ := gG X105 hx hZ hown (wq hw 10 rfl) e105 Fn (g := (mkF m 83 #[vR a1, vI u1, vI i102] [(.ref a1), (.int (i102 + (1 : Int32))), (.ref b1)])) rfl rfl (hb hby dc26_83)
    obtain ⟨T107, X107, e107, st107⟩ := gG X106 hx hZ hown (wq hw 18 rfl) e106 Fc (g := (mkF m 88 #[vR a1, vI u1, vI i102] [(.ref a1), (.int i102), (.ref b1), (.int (i102 + (1 : Int32))), (.ref b1)])) rfl rfl (hb hby dc26_88)
    obtain ⟨T108, h108, L108, X108, e108, N108, K108, V108_, st108⟩ := cpA X107 hx hZ hown (wq hw 50 rfl) (wq hw 53 rfl) (wq hw 51 rfl) (wq hw 52 rfl) e107 Vb Vb (Or.inl ⟨rfl, rfl⟩) (own_cd12 (i1 := i102) (t0 := t0) (t1 := t1) (own_ati1 hk104a)).1 (own_cd12 (i1 := i102) (t0 := t0) (t1 := t1) (own_ati1 hk104a)).2.1 (own_cd12 (i1 := i102) (t0 := t0) (t1 := t1) (own_ati1 hk104a)).2.2.1 (own_cd12 (i1 := i102) (t0 := t0) (t1 := t1) (own_ati1 hk104a)).2.2.2.1 (own_cd12 (i1 := i102) (t0 := t0) (t1 := t1) (own_ati1 hk104a)).2.2.2.2.1 rfl (Nat.le_trans (own_cd12 (i1 := i102) (t0 := t0) (t1 := t1) (own_ati1 hk104a)).2.2.2.2.1 (by decide : (2 : Int32).toNatClampNeg ≤ 2)) N102 gb (g := (mkF m 95 #[vR a1, vI u1, vI i102] [(.int (((1 : Int32) - i102) - (1 : Int32))), (.int i102), (.ref b1), (.int (i102 + (1 : Int32))), (.ref b1)])) rfl (by rw [hml]; rfl) rfl (hb hby dc26_95) (by decide) (W := 0) (by show 2 * 0 + _ ≤ _; exact Nat.le_of_eq rfl) (by decide)
    have V108 : Arv Z h108 b1 kb .int (2 : Int32) [(.int t0), (.int t1)] (.int (0 : Int32)) := by have q := V108_; rw [(own_cd12 (i1 := i102) (t0 := t0) (t1 := t1) (own_ati1 hk104a)).2.2.2.2.2] at q; exact q
    have f109 := (Fc.keep K108 (ninS neab nin0))
    obtain ⟨T110, X110, e110, st110⟩ := gG X108 hx hZ hown (wq hw 18 rfl) e108 f109 (g := (mkF m 100 #[vR a1, vI u1, vI i102] [(.ref a1), (.ref a1)])) rfl rfl (hb hby dc26_100)
    have f111 := (Ea.keep K108)
    obtain ⟨T112, h112, X112, e112, W112, st112⟩ := putF X110 hx hZ hown (host := "") (Or.inl (wq hw 18 rfl)) Via.refl e110 f109 f111 (Or.inl (wq hw 19 rfl)) (wq hw 1 rfl) (ty := .int) (by decide) rfl rfl (g := (mkF m 105 #[vR a1, vI u1, vI i102] [(.int (0 : Int32)), (.ref a1)])) rfl rfl (hb hby dc26_105)
    have Fw112 : Fld Z h112 a1 sU "count" "I" (.int (0 : Int32)) := Fld.same W112 f109
    have N112 := Fr.snoc X112 N108 ga
    obtain ⟨T113, X113, e113, st113⟩ := gG X112 hx hZ hown (wq hw 18 rfl) e112 Fw112 (g := (mkF m 109 #[vR a1, vI u1, vI i102] [(.ref a1)])) rfl rfl (hb hby dc26_109)
    obtain ⟨fs, hr, hrun, hended, hW, hsame⟩ := X113.leave (v := none) (fun _ => rfl)
    have K114 : Keep h0 h112 [a1, b1] := (Keep.wr (Keep.trans (Keep.refl h0 [a1, b1]) K108 (allS (P := fun x => x ∈ [a1, b1] ∨ h0.size ≤ x) (Or.inl (List.mem_of_getElem? (i := 1) rfl)) all0)) W112 (Or.inl (List.mem_of_getElem? (i := 0) rfl)))
    have f115 := (f111.wr W112)
    have f116 := ((Fn.keep K108 (ninS neab nin0)).other W112 (Or.inr (slot_ne (Or.inl (wq hw 11 rfl)) (Or.inl (wq hw 19 rfl)) (by decide) (t := (.array .int)) (t' := .int) (by decide) (by decide))))
    have f117 := ((Fb.keep K108 (ninS neab nin0)).other W112 (Or.inr (slot_ne (Or.inl (wq hw 30 rfl)) (Or.inl (wq hw 19 rfl)) (by decide) (t := (.object sB)) (t' := .int) (by decide) (by decide))))
    have f118 := (V108.other W112 (Ne.symm neab))
    refine ⟨_, _, pre103 _ ?_, hrun, hended, _, _, rfl, ?_, ⟨_, rfl⟩, hW, hsame.mono (by decide) (by decide)⟩
    · skip
      show Steps p.tables e below (T102.setTop (mkF m 69 #[vR a1, vI u1, .unset] [(.int r102)])) _
      rw [hk104]
      show Steps p.tables e below (T102.setTop (mkF m 69 #[vR a1, vI u1, .unset] [(.int i102)])) _
      refine XS.istoreN X102.here hx rfl (hb hby dc26_69) rfl (l' := #[vR a1, vI u1, vI i102]) rfl ?_
      refine XS.iloadN X102.here hx rfl (hb hby dc26_70) rfl ?_
      refine XS.ifYes X102.here hx rfl (pc0 := 71) (pc' := 75) rfl (hb hby dc26_71) rfl ((if0 _ _).trans (flt (own_ir1 (own_ati1 hk104a))).2.1) (by decide) (by decide) ?_
      refine XS.aloadN X102.here hx rfl (hb hby dc26_75) rfl rfl ?_
      refine st105 _ ?_
      refine XS.iloadN X105.here hx rfl (hb hby dc26_79) rfl ?_
      refine XS.iconst X105.here hx rfl (hb hby dc26_80) ?_
      refine XS.iadd X105.here hx rfl (hb hby dc26_81) rfl ?_
      refine XS.aloadN X105.here hx rfl (hb hby dc26_82) rfl rfl ?_
      refine st106 _ ?_
      refine XS.iloadN X106.here hx rfl (hb hby dc26_86) rfl ?_
      refine XS.aloadN X106.here hx rfl (hb hby dc26_87) rfl rfl ?_
      show Steps p.tables e below (T106.setTop (mkF m 88 #[vR a1, vI u1, vI i102] [(.ref a1), (.int i102), (.ref b1), (.int (i102 + (1 : Int32))), (.ref b1)])) _
      refine st107 _ ?_
      refine XS.iloadN X107.here hx rfl (hb hby dc26_91) rfl ?_
      refine XS.isub X107.here hx rfl (hb hby dc26_92) rfl ?_
      refine XS.iconst X107.here hx rfl (hb hby dc26_93) ?_
      refine XS.isub X107.here hx rfl (hb hby dc26_94) rfl ?_
      refine st108 _ ?_
      refine XS.aloadN X108.here hx rfl (hb hby dc26_98) rfl rfl ?_
      refine XS.dup X108.here hx rfl (hb hby dc26_99) rfl rfl ?_
      refine st110 _ ?_
      refine XS.iconst X110.here hx rfl (hb hby dc26_103) ?_
      refine XS.isub X110.here hx rfl (hb hby dc26_104) rfl ?_
      refine st112 _ ?_
      show Steps p.tables e below (T112.setTop (mkF m 108 #[vR a1, vI u1, vI i102] [])) _
      refine XS.aloadN X112.here hx rfl (hb hby dc26_108) rfl rfl ?_
      refine st113 _ ?_
      refine XS.ifYes X113.here hx rfl (pc0 := 112) (pc' := 147) rfl (hb hby dc26_112) rfl (by decide) (by decide) (by decide) ?_
      exact X113.returnOut hx Bd.returns (hb hby dc26_147) hr
    · show Q_re Z a1 u1 i1 [t0] [a1, b1] h0 n0 _ T113.heap _
      rw [e113]
      exact ⟨rfl, N112, K114, [], _, ⟨f115, ga, Fw112, (by have := hi; simp only [List.length_cons, List.length_nil]; omega), Or.inl ⟨b1, rfl, gb, neab, f116, f117, ⟨_, Or.inr (Or.inl ⟨_, _, rfl, f118⟩)⟩, (own_del1 hs hk104a).1⟩⟩, (own_del1 hs hk104a).2, own_w2 (Or.inl rfl)⟩
  · skip
    obtain ⟨fs, hr, hrun, hended, hW, hsame⟩ := X102.leave (v := none) (fun _ => rfl)
    refine ⟨_, _, pre103 _ ?_, hrun, hended, _, _, rfl, ?_, ⟨_, rfl⟩, hW, hsame.mono (by decide) (by decide)⟩
    · skip
      show Steps p.tables e below (T102.setTop (mkF m 69 #[vR a1, vI u1, .unset] [(.int r102)])) _
      rw [hk104]
      refine XS.istoreN X102.here hx rfl (hb hby dc26_69) rfl (l' := #[vR a1, vI u1, vI (-(j102 + (1 : Int32)))]) rfl ?_
      refine XS.iloadN X102.here hx rfl (hb hby dc26_70) rfl ?_
      refine XS.ifNo X102.here hx rfl (hb hby dc26_71) rfl ((if0 _ _).trans (tlt (own_neg (own_jr1 (own_plj1 hk104a)))).2.1) ?_
      exact X102.returnOut hx Bd.returns (hb hby dc26_74) hr
    · show Q_re Z a1 u1 i1 [t0] [a1, b1] h0 n0 _ T102.heap _
      rw [hh102]
      exact ⟨rfl, N102, (Keep.refl h0 [a1, b1]), [t0], _, ⟨Ea, ga, Fc, Nat.le_succ_of_le hi, Or.inl ⟨b1, rfl, gb, neab, Fn, Fb, ⟨_, Or.inr (Or.inr (Or.inr (Or.inl ⟨_, _, rfl, Vb⟩)))⟩, hs⟩⟩, fun x => ⟨fun q => ⟨fun z => own_not1 hs hk104a (z ▸ q), q⟩, And.right⟩, own_w2 (Or.inl rfl)⟩
theorem dc26_115 : decode C26 115 = .ok (.iconst 4, 1) := by decide +kernel
theorem dc26_116 : decode C26 116 = .ok (.aload_n 0, 1) := by decide +kernel
theorem dc26_117 : decode C26 117 = .ok (.getfield 15, 3) := by decide +kernel
theorem dc26_120 : decode C26 120 = .ok (.imul, 1) := by decide +kernel
theorem dc26_121 : decode C26 121 = .ok (.aload_n 0, 1) := by decide +kernel
theorem dc26_122 : decode C26 122 = .ok (.getfield 9, 3) := by decide +kernel
theorem dc26_125 : decode C26 125 = .ok (.arraylength, 1) := by decide +kernel
theorem dc26_126 : decode C26 126 = .ok (.if_icmp .gt 21, 3) := by decide +kernel
theorem rmRe22 (l : Launch) (Z : State) (a0 : Array Value) (hw : HwT a0 Z) (ws : List Jvm.Cond) (a1 b1 : Addr) (kb : ClassId) (t0 t1 u1 : Int32) (i1 : Nat) (h0 : Heap) (n0 : Nat) (O0 : Old Z n0 h0) (Ea : Exa Z h0 a1 sU) (Fn : Fld Z h0 a1 sU "numbers" "[I" (.ref b1)) (Fb : Fld Z h0 a1 sU "bits" "Ljava/util/BitSet;" .null) (Fc : Fld Z h0 a1 sU "count" "I" (.int (2 : Int32))) (ga : n0 ≤ a1) (Vb : Arv Z h0 b1 kb .int (2 : Int32) [(.int t0), (.int t1)] (.int (0 : Int32))) (neab : a1 ≠ b1) (gb : n0 ≤ b1) (hs : Srt [t0, t1]) (hi : 2 ≤ i1) (hi4 : i1 ≤ 4) (hu : own_r u1) (SB : Sta Z Z.heap sB "$assertionsDisabled" "Z" (.int (1 : Int32))) :
    Mt l Z y_26 prog_25_method_6_code 3 none ws ({ frames := 3, cells := 0, slots := 0, locals := 47 } : Room) #[(.ref a1), (.int u1)] h0 (Q_re Z a1 u1 i1 [t0, t1] [a1, b1] h0 n0) := by
  refine MetFree.of_bodySF (plainFor_of_name pn_0) hisR ?_
  intro p e s m args below meth c s₁ Bd hml0 hP hK
  obtain ⟨rfl, hZ, hh⟩ := hP
  have hx := Bd.exec
  have hby := Bd.bytes
  have hml : c.maxLocals = 3 := hml0
  have hown : s.vm.findClass sU = some m.cls := findClass_of_methodNamed Bd.named
  have hnm := (name_of_methodNamed Bd.named Bd.method).1
  have X0 : Stand p l e ({ frames := 3, cells := 0, slots := 0, locals := 47 } : Room) s m #[(.ref a1), (.int u1)] below meth c s₁ [] 0 0 := Stand.of_body Bd
  have e0 : s₁.heap = h0 := by rw [← hh, Bd.state]; rfl
  have N0 := Fr.nil n0
  have pre0 := fun t (k : Steps p.tables e below (s₁.setTop _) t) => castTop (ef_5 m a1 u1) k
  obtain ⟨T101, X101, e101, st101⟩ := gG X0 hx hZ hown (wq hw 29 rfl) e0 Fb (g := (mkF m 1 #[vR a1, vI u1, .unset] [(.ref a1)])) rfl rfl (hb hby dc26_1)
  obtain ⟨cq102, q102, q102'⟩ := Exa.cell Ea
  obtain ⟨_, _, ⟨T102, L102, k102, n102⟩, -, X102, ⟨Lc102, hQ102, l102, y102, z102⟩, st102⟩ := X101.privateBack hx (y := y_21) hown (mvT hZ (wq hw 31 rfl)) (mvT hZ (wq hw 32 rfl)) (mvT hZ (own_sel (y := y_21) (wq hw 1 rfl) (wq hw 33 rfl) (wq hw 32 rfl) (by decide))) (Cond.privateMethod_at (mvP hZ (wq hw 33 rfl) (args := #[]))) (mvT hZ (wq hw 34 rfl)) (by decide) (backOf (W := 0) (rmFi l Z a0 hw [] a1 b1 (2 : Int32) u1 2 (own_f2 t0 t1) h0 n0 O0 Fn Fc (Iv.of2 Vb) (by decide) (by decide) (own_mo22 hs) (by decide) (by decide)) hZ (wq hw 34 rfl) (wq hw 2 rfl) (by decide) (by decide)) (g := (mkF m 66 #[vR a1, vI u1, .unset] [(.int u1), (.ref a1)])) rfl (by rw [hml]; rfl) (Steps.refl _) (a := a1) (by rw [e101]; exact q102) q102' (argsL := [(.int u1)]) (rest := []) (lenOf pd_0 rfl) rfl (by show 2 * 0 + _ ≤ _; exact Nat.le_of_eq rfl) (hb hby dc26_66) (fun _ _ => ⟨rfl, e101, (by decide : 0 + 0 ≤ _), (by decide : 0 + 0 ≤ _)⟩)
  dsimp only [Pt.U, Pt.locs, Pt.cells, Pt.slots] at X102 l102 y102 z102 st102 hQ102
  subst l102 y102 z102
  obtain ⟨r102, rfl, N102q, hh102, R102⟩ := hQ102
  have N102 := Fr.app N0 N102q
  have pre103 : ∀ t, Steps p.tables e below (T102.setTop (mkF m 69 #[vR a1, vI u1, .unset] [(.int r102)])) t → Steps p.tables e below (s₁.setTop (entryFrame m #[(.ref a1), (.int u1)] 3)) t := fun t kt => pre0 t (by
      show Steps p.tables e below (s₁.setTop (mkF m 0 #[vR a1, vI u1, .unset] [])) _
      refine XS.aloadN X0.here hx rfl (hb hby dc26_0) rfl rfl ?_
      refine st101 _ ?_
      refine XS.ifnullYes X101.here hx rfl (pc0 := 4) (pc' := 64) rfl (hb hby dc26_4) rfl (by decide) (by decide) ?_
      refine XS.aloadN X101.here hx rfl (hb hby dc26_64) rfl rfl ?_
      refine XS.iloadN X101.here hx rfl (hb hby dc26_65) rfl ?_
      refine st102.trans ?_
      exact kt)
  rcases (own_cv22 R102) with ⟨i102, hk104, hk104a⟩ | ⟨j102, hk104, hk104a⟩
  · skip
    obtain ⟨T105, X105, e105, st105⟩ := gG X102 hx hZ hown (wq hw 10 rfl) hh102 Fn (g := (mkF m 76 #[vR a1, vI u1, vI i102] [(.ref a1)])) rfl rfl (hb hby dc26_76)
    obtain ⟨T106, X106, e106, st106⟩ := gG X105 hx hZ hown (wq hw 10 rfl) e105 Fn (g := (mkF m 83 #[vR a1, vI u1, vI i102] [(.ref a1), (.int (i102 + (1 : Int32))), (.ref b1)])) rfl rfl (hb hby dc26_83)
    obtain ⟨T107, X107, e107, st107⟩ := gG X106 hx hZ hown (wq hw 18 rfl) e106 Fc (g := (mkF m 88 #[vR a1, vI u1, vI i102] [(.ref a1), (.int i102), (.ref b1), (.int (i102 + (1 : Int32))), (.ref b1)])) rfl rfl (hb hby dc26_88)
    obtain ⟨T108, h108, L108, X108, e108, N108, K108, V108_, st108⟩ := cpA X107 hx hZ hown (wq hw 50 rfl) (wq hw 53 rfl) (wq hw 51 rfl) (wq hw 52 rfl) e107 Vb Vb (Or.inl ⟨rfl, rfl⟩) (own_cd22 (i1 := i102) (t0 := t0) (t1 := t1) (own_ati2 hk104a)).1 (own_cd22 (i1 := i102) (t0 := t0) (t1 := t1) (own_ati2 hk104a)).2.1 (own_cd22 (i1 := i102) (t0 := t0) (t1 := t1) (own_ati2 hk104a)).2.2.1 (own_cd22 (i1 := i102) (t0 := t0) (t1 := t1) (own_ati2 hk104a)).2.2.2.1 (own_cd22 (i1 := i102) (t0 := t0) (t1 := t1) (own_ati2 hk104a)).2.2.2.2.1 rfl (Nat.le_trans (own_cd22 (i1 := i102) (t0 := t0) (t1 := t1) (own_ati2 hk104a)).2.2.2.2.1 (by decide : (2 : Int32).toNatClampNeg ≤ 2)) N102 gb (g := (mkF m 95 #[vR a1, vI u1, vI i102] [(.int (((2 : Int32) - i102) - (1 : Int32))), (.int i102), (.ref b1), (.int (i102 + (1 : Int32))), (.ref b1)])) rfl (by rw [hml]; rfl) rfl (hb hby dc26_95) (by decide) (W := 0) (by show 2 * 0 + _ ≤ _; exact Nat.le_of_eq rfl) (by decide)
    have V108 : Arv Z h108 b1 kb .int (2 : Int32) [(.int (own_dn i102 (0 : Int32) t0 t1)), (.int t1)] (.int (0 : Int32)) := by have q := V108_; rw [(own_cd22 (i1 := i102) (t0 := t0) (t1 := t1) (own_ati2 hk104a)).2.2.2.2.2] at q; exact q
    have f109 := (Fc.keep K108 (ninS neab nin0))
    obtain ⟨T110, X110, e110, st110⟩ := gG X108 hx hZ hown (wq hw 18 rfl) e108 f109 (g := (mkF m 100 #[vR a1, vI u1, vI i102] [(.ref a1), (.ref a1)])) rfl rfl (hb hby dc26_100)
    have f111 := (Ea.keep K108)
    obtain ⟨T112, h112, X112, e112, W112, st112⟩ := putF X110 hx hZ hown (host := "") (Or.inl (wq hw 18 rfl)) Via.refl e110 f109 f111 (Or.inl (wq hw 19 rfl)) (wq hw 1 rfl) (ty := .int) (by decide) rfl rfl (g := (mkF m 105 #[vR a1, vI u1, vI i102] [(.int (1 : Int32)), (.ref a1)])) rfl rfl (hb hby dc26_105)
    have Fw112 : Fld Z h112 a1 sU "count" "I" (.int (1 : Int32)) := Fld.same W112 f109
    have N112 := Fr.snoc X112 N108 ga
    obtain ⟨T113, X113, e113, st113⟩ := gG X112 hx hZ hown (wq hw 18 rfl) e112 Fw112 (g := (mkF m 109 #[vR a1, vI u1, vI i102] [(.ref a1)])) rfl rfl (hb hby dc26_109)
    obtain ⟨T114, X114, e114, st114⟩ := gG X113 hx hZ hown (wq hw 18 rfl) e113 Fw112 (g := (mkF m 117 #[vR a1, vI u1, vI i102] [(.ref a1), (.int (4 : Int32))])) rfl rfl (hb hby dc26_117)
    have f115 := ((Fn.keep K108 (ninS neab nin0)).other W112 (Or.inr (slot_ne (Or.inl (wq hw 11 rfl)) (Or.inl (wq hw 19 rfl)) (by decide) (t := (.array .int)) (t' := .int) (by decide) (by decide))))
    obtain ⟨T116, X116, e116, st116⟩ := gG X114 hx hZ hown (wq hw 10 rfl) e114 f115 (g := (mkF m 122 #[vR a1, vI u1, vI i102] [(.ref a1), (.int (4 : Int32))])) rfl rfl (hb hby dc26_122)
    have f117 := (V108.other W112 (Ne.symm neab))
    obtain ⟨cl118, Ar118, q118, S118, N118_, H118, G118⟩ := id f117
    obtain ⟨fs, hr, hrun, hended, hW, hsame⟩ := X116.leave (v := none) (fun _ => rfl)
    have K119 : Keep h0 h112 [a1, b1] := (Keep.wr (Keep.trans (Keep.refl h0 [a1, b1]) K108 (allS (P := fun x => x ∈ [a1, b1] ∨ h0.size ≤ x) (Or.inl (List.mem_of_getElem? (i := 1) rfl)) all0)) W112 (Or.inl (List.mem_of_getElem? (i := 0) rfl)))
    have f120 := (f111.wr W112)
    have f121 := ((Fb.keep K108 (ninS neab nin0)).other W112 (Or.inr (slot_ne (Or.inl (wq hw 30 rfl)) (Or.inl (wq hw 19 rfl)) (by decide) (t := (.object sB)) (t' := .int) (by decide) (by decide))))
    refine ⟨_, _, pre103 _ ?_, hrun, hended, _, _, rfl, ?_, ⟨_, rfl⟩, hW, hsame.mono (by decide) (by decide)⟩
    · skip
      show Steps p.tables e below (T102.setTop (mkF m 69 #[vR a1, vI u1, .unset] [(.int r102)])) _
      rw [hk104]
      refine XS.istoreN X102.here hx rfl (hb hby dc26_69) rfl (l' := #[vR a1, vI u1, vI i102]) rfl ?_
      refine XS.iloadN X102.here hx rfl (hb hby dc26_70) rfl ?_
      refine XS.ifYes X102.here hx rfl (pc0 := 71) (pc' := 75) rfl (hb hby dc26_71) rfl ((if0 _ _).trans (flt (own_ir2 (own_ati2 hk104a))).2.1) (by decide) (by decide) ?_
      refine XS.aloadN X102.here hx rfl (hb hby dc26_75) rfl rfl ?_
      show Steps p.tables e below (T102.setTop (mkF m 76 #[vR a1, vI u1, vI i102] [(.ref a1)])) _
      refine st105 _ ?_
      refine XS.iloadN X105.here hx rfl (hb hby dc26_79) rfl ?_
      refine XS.iconst X105.here hx rfl (hb hby dc26_80) ?_
      refine XS.iadd X105.here hx rfl (hb hby dc26_81) rfl ?_
      refine XS.aloadN X105.here hx rfl (hb hby dc26_82) rfl rfl ?_
      refine st106 _ ?_
      refine XS.iloadN X106.here hx rfl (hb hby dc26_86) rfl ?_
      refine XS.aloadN X106.here hx rfl (hb hby dc26_87) rfl rfl ?_
      refine st107 _ ?_
      refine XS.iloadN X107.here hx rfl (hb hby dc26_91) rfl ?_
      refine XS.isub X107.here hx rfl (hb hby dc26_92) rfl ?_
      refine XS.iconst X107.here hx rfl (hb hby dc26_93) ?_
      show Steps p.tables e below (T107.setTop (mkF m 94 #[vR a1, vI u1, vI i102] [(.int (1 : Int32)), (.int ((2 : Int32) - i102)), (.int i102), (.ref b1), (.int (i102 + (1 : Int32))), (.ref b1)])) _
      refine XS.isub X107.here hx rfl (hb hby dc26_94) rfl ?_
      refine st108 _ ?_
      refine XS.aloadN X108.here hx rfl (hb hby dc26_98) rfl rfl ?_
      refine XS.dup X108.here hx rfl (hb hby dc26_99) rfl rfl ?_
      refine st110 _ ?_
      refine XS.iconst X110.here hx rfl (hb hby dc26_103) ?_
      refine XS.isub X110.here hx rfl (hb hby dc26_104) rfl ?_
      refine st112 _ ?_
      refine XS.aloadN X112.here hx rfl (hb hby dc26_108) rfl rfl ?_
      refine st113 _ ?_
      refine XS.ifNo X113.here hx rfl (hb hby dc26_112) rfl (by decide) ?_
      refine XS.iconst X113.here hx rfl (hb hby dc26_115) ?_
      show Steps p.tables e below (T113.setTop (mkF m 116 #[vR a1, vI u1, vI i102] [(.int (4 : Int32))])) _
      refine XS.aloadN X113.here hx rfl (hb hby dc26_116) rfl rfl ?_
      refine st114 _ ?_
      refine XS.imul X114.here hx rfl (hb hby dc26_120) rfl ?_
      refine XS.aloadN X114.here hx rfl (hb hby dc26_121) rfl rfl ?_
      refine st116 _ ?_
      refine X116.arraylength hx (by rw [e116]; exact Ar118.1) (State.isArrayOf_alike hZ.alike Ar118.2.1) (g := (mkF m 125 #[vR a1, vI u1, vI i102] [(.ref b1), (.int (4 : Int32))])) rfl rfl (hb hby dc26_125) _ ?_
      rw [len_of S118 N118_]
      refine XS.icmpYes X116.here hx rfl (pc0 := 126) (pc' := 147) rfl (hb hby dc26_126) rfl (by decide) (by decide) (by decide) ?_
      exact X116.returnOut hx Bd.returns (hb hby dc26_147) hr
    · show Q_re Z a1 u1 i1 [t0, t1] [a1, b1] h0 n0 _ T116.heap _
      rw [e116]
      exact ⟨rfl, N112, K119, [(own_dn i102 (0 : Int32) t0 t1)], _, ⟨f120, ga, Fw112, (by have := hi; simp only [List.length_cons, List.length_nil]; omega), Or.inl ⟨b1, rfl, gb, neab, f115, f121, ⟨_, Or.inr (Or.inr (Or.inr (Or.inl ⟨_, _, rfl, f117⟩)))⟩, (own_del2 hs hk104a).1⟩⟩, (own_del2 hs hk104a).2, own_w2 (Or.inl rfl)⟩
  · skip
    obtain ⟨fs, hr, hrun, hended, hW, hsame⟩ := X102.leave (v := none) (fun _ => rfl)
    refine ⟨_, _, pre103 _ ?_, hrun, hended, _, _, rfl, ?_, ⟨_, rfl⟩, hW, hsame.mono (by decide) (by decide)⟩
    · skip
      show Steps p.tables e below (T102.setTop (mkF m 69 #[vR a1, vI u1, .unset] [(.int r102)])) _
      rw [hk104]
      refine XS.istoreN X102.here hx rfl (hb hby dc26_69) rfl (l' := #[vR a1, vI u1, vI (-(j102 + (1 : Int32)))]) rfl ?_
      refine XS.iloadN X102.here hx rfl (hb hby dc26_70) rfl ?_
      refine XS.ifNo X102.here hx rfl (hb hby dc26_71) rfl ((if0 _ _).trans (tlt (own_neg (own_jr2 (own_plj2 hk104a)))).2.1) ?_
      show Steps p.tables e below (T102.setTop (mkF m 74 #[vR a1, vI u1, vI (-(j102 + (1 : Int32)))] [])) _
      exact X102.returnOut hx Bd.returns (hb hby dc26_74) hr
    · show Q_re Z a1 u1 i1 [t0, t1] [a1, b1] h0 n0 _ T102.heap _
      rw [hh102]
      exact ⟨rfl, N102, (Keep.refl h0 [a1, b1]), [t0, t1], _, ⟨Ea, ga, Fc, Nat.le_succ_of_le hi, Or.inl ⟨b1, rfl, gb, neab, Fn, Fb, ⟨_, Or.inr (Or.inr (Or.inr (Or.inr (Or.inl ⟨_, _, rfl, Vb⟩))))⟩, hs⟩⟩, fun x => ⟨fun q => ⟨fun z => own_not2 hs hk104a (z ▸ q), q⟩, And.right⟩, own_w2 (Or.inl rfl)⟩
theorem dc26_129 : decode C26 129 = .ok (.aload_n 0, 1) := by decide +kernel
theorem dc26_130 : decode C26 130 = .ok (.aload_n 0, 1) := by decide +kernel
theorem dc26_131 : decode C26 131 = .ok (.getfield 9, 3) := by decide +kernel
theorem dc26_134 : decode C26 134 = .ok (.aload_n 0, 1) := by decide +kernel
theorem dc26_135 : decode C26 135 = .ok (.getfield 9, 3) := by decide +kernel
theorem dc26_138 : decode C26 138 = .ok (.arraylength, 1) := by decide +kernel
theorem dc26_139 : decode C26 139 = .ok (.iconst 2, 1) := by decide +kernel
theorem dc26_140 : decode C26 140 = .ok (.idiv, 1) := by decide +kernel
theorem dc26_141 : decode C26 141 = .ok (.invokestatic 56, 3) := by decide +kernel
theorem dc26_144 : decode C26 144 = .ok (.putfield 9, 3) := by decide +kernel
theorem rmRe24 (l : Launch) (Z : State) (a0 : Array Value) (hw : HwT a0 Z) (ws : List Jvm.Cond) (a1 b1 : Addr) (kb : ClassId) (t0 t1 t2 t3 u1 : Int32) (i1 : Nat) (h0 : Heap) (n0 : Nat) (O0 : Old Z n0 h0) (Ea : Exa Z h0 a1 sU) (Fn : Fld Z h0 a1 sU "numbers" "[I" (.ref b1)) (Fb : Fld Z h0 a1 sU "bits" "Ljava/util/BitSet;" .null) (Fc : Fld Z h0 a1 sU "count" "I" (.int (2 : Int32))) (ga : n0 ≤ a1) (Vb : Arv Z h0 b1 kb .int (4 : Int32) [(.int t0), (.int t1), (.int t2), (.int t3)] (.int (0 : Int32))) (neab : a1 ≠ b1) (gb : n0 ≤ b1) (hs : Srt [t0, t1]) (hi : 2 ≤ i1) (hi4 : i1 ≤ 4) (hu : own_r u1) (SB : Sta Z Z.heap sB "$assertionsDisabled" "Z" (.int (1 : Int32))) :
    Mt l Z y_26 prog_25_method_6_code 3 none ws ({ frames := 3, cells := 1, slots := 2, locals := 47 } : Room) #[(.ref a1), (.int u1)] h0 (Q_re Z a1 u1 i1 [t0, t1] [a1, b1] h0 n0) := by
  refine MetFree.of_bodySF (plainFor_of_name pn_0) hisR ?_
  intro p e s m args below meth c s₁ Bd hml0 hP hK
  obtain ⟨rfl, hZ, hh⟩ := hP
  have hx := Bd.exec
  have hby := Bd.bytes
  have hml : c.maxLocals = 3 := hml0
  have hown : s.vm.findClass sU = some m.cls := findClass_of_methodNamed Bd.named
  have hnm := (name_of_methodNamed Bd.named Bd.method).1
  have X0 : Stand p l e ({ frames := 3, cells := 1, slots := 2, locals := 47 } : Room) s m #[(.ref a1), (.int u1)] below meth c s₁ [] 0 0 := Stand.of_body Bd
  have e0 : s₁.heap = h0 := by rw [← hh, Bd.state]; rfl
  have N0 := Fr.nil n0
  have pre0 := fun t (k : Steps p.tables e below (s₁.setTop _) t) => castTop (ef_5 m a1 u1) k
  obtain ⟨T101, X101, e101, st101⟩ := gG X0 hx hZ hown (wq hw 29 rfl) e0 Fb (g := (mkF m 1 #[vR a1, vI u1, .unset] [(.ref a1)])) rfl rfl (hb hby dc26_1)
  obtain ⟨cq102, q102, q102'⟩ := Exa.cell Ea
  obtain ⟨_, _, ⟨T102, L102, k102, n102⟩, -, X102, ⟨Lc102, hQ102, l102, y102, z102⟩, st102⟩ := X101.privateBack hx (y := y_21) hown (mvT hZ (wq hw 31 rfl)) (mvT hZ (wq hw 32 rfl)) (mvT hZ (own_sel (y := y_21) (wq hw 1 rfl) (wq hw 33 rfl) (wq hw 32 rfl) (by decide))) (Cond.privateMethod_at (mvP hZ (wq hw 33 rfl) (args := #[]))) (mvT hZ (wq hw 34 rfl)) (by decide) (backOf (W := 0) (rmFi l Z a0 hw [] a1 b1 (2 : Int32) u1 4 (own_f4 t0 t1 t2 t3) h0 n0 O0 Fn Fc (Iv.of4 Vb) (by decide) (by decide) (own_mo24 hs) (by decide) (by decide)) hZ (wq hw 34 rfl) (wq hw 2 rfl) (by decide) (by decide)) (g := (mkF m 66 #[vR a1, vI u1, .unset] [(.int u1), (.ref a1)])) rfl (by rw [hml]; rfl) (Steps.refl _) (a := a1) (by rw [e101]; exact q102) q102' (argsL := [(.int u1)]) (rest := []) (lenOf pd_0 rfl) rfl (by show 2 * 0 + _ ≤ _; exact Nat.le_of_eq rfl) (hb hby dc26_66) (fun _ _ => ⟨rfl, e101, (by decide : 0 + 0 ≤ _), (by decide : 0 + 0 ≤ _)⟩)
  dsimp only [Pt.U, Pt.locs, Pt.cells, Pt.slots] at X102 l102 y102 z102 st102 hQ102
  subst l102 y102 z102
  obtain ⟨r102, rfl, N102q, hh102, R102⟩ := hQ102
  have N102 := Fr.app N0 N102q
  have pre103 : ∀ t, Steps p.tables e below (T102.setTop (mkF m 69 #[vR a1, vI u1, .unset] [(.int r102)])) t → Steps p.tables e below (s₁.setTop (entryFrame m #[(.ref a1), (.int u1)] 3)) t := fun t kt => pre0 t (by
      show Steps p.tables e below (s₁.setTop (mkF m 0 #[vR a1, vI u1, .unset] [])) _
      refine XS.aloadN X0.here hx rfl (hb hby dc26_0) rfl rfl ?_
      show Steps p.tables e below (s₁.setTop (mkF m 1 #[vR a1, vI u1, .unset] [(.ref a1)])) _
      refine st101 _ ?_
      refine XS.ifnullYes X101.here hx rfl (pc0 := 4) (pc' := 64) rfl (hb hby dc26_4) rfl (by decide) (by decide) ?_
      refine XS.aloadN X101.here hx rfl (hb hby dc26_64) rfl rfl ?_
      refine XS.iloadN X101.here hx rfl (hb hby dc26_65) rfl ?_
      refine st102.trans ?_
      exact kt)
  rcases (own_cv24 R102) with ⟨i102, hk104, hk104a⟩ | ⟨j102, hk104, hk104a⟩
  · skip
    obtain ⟨T105, X105, e105, st105⟩ := gG X102 hx hZ hown (wq hw 10 rfl) hh102 Fn (g := (mkF m 76 #[vR a1, vI u1, vI i102] [(.ref a1)])) rfl rfl (hb hby dc26_76)
    obtain ⟨T106, X106, e106, st106⟩ := gG X105 hx hZ hown (wq hw 10 rfl) e105 Fn (g := (mkF m 83 #[vR a1, vI u1, vI i102] [(.ref a1), (.int (i102 + (1 : Int32))), (.ref b1)])) rfl rfl (hb hby dc26_83)
    obtain ⟨T107, X107, e107, st107⟩ := gG X106 hx hZ hown (wq hw 18 rfl) e106 Fc (g := (mkF m 88 #[vR a1, vI u1, vI i102] [(.ref a1), (.int i102), (.ref b1), (.int (i102 + (1 : Int32))), (.ref b1)])) rfl rfl (hb hby dc26_88)
    obtain ⟨T108, h108, L108, X108, e108, N108, K108, V108_, st108⟩ := cpA X107 hx hZ hown (wq hw 50 rfl) (wq hw 53 rfl) (wq hw 51 rfl) (wq hw 52 rfl) e107 Vb Vb (Or.inl ⟨rfl, rfl⟩) (own_cd24 (i1 := i102) (t0 := t0) (t1 := t1) (t2 := t2) (t3 := t3) (own_ati2 hk104a)).1 (own_cd24 (i1 := i102) (t0 := t0) (t1 := t1) (t2 := t2) (t3 := t3) (own_ati2 hk104a)).2.1 (own_cd24 (i1 := i102) (t0 := t0) (t1 := t1) (t2 := t2) (t3 := t3) (own_ati2 hk104a)).2.2.1 (own_cd24 (i1 := i102) (t0 := t0) (t1 := t1) (t2 := t2) (t3 := t3) (own_ati2 hk104a)).2.2.2.1 (own_cd24 (i1 := i102) (t0 := t0) (t1 := t1) (t2 := t2) (t3 := t3) (own_ati2 hk104a)).2.2.2.2.1 rfl (Nat.le_trans (own_cd24 (i1 := i102) (t0 := t0) (t1 := t1) (t2 := t2) (t3 := t3) (own_ati2 hk104a)).2.2.2.2.1 (by decide : (4 : Int32).toNatClampNeg ≤ 4)) N102 gb (g := (mkF m 95 #[vR a1, vI u1, vI i102] [(.int (((2 : Int32) - i102) - (1 : Int32))), (.int i102), (.ref b1), (.int (i102 + (1 : Int32))), (.ref b1)])) rfl (by rw [hml]; rfl) rfl (hb hby dc26_95) (by decide) (W := 0) (by show 2 * 0 + _ ≤ _; exact Nat.le_of_eq rfl) (by decide)
    have V108 : Arv Z h108 b1 kb .int (4 : Int32) [(.int (own_dn i102 (0 : Int32) t0 t1)), (.int t1), (.int t2), (.int t3)] (.int (0 : Int32)) := by have q := V108_; rw [(own_cd24 (i1 := i102) (t0 := t0) (t1 := t1) (t2 := t2) (t3 := t3) (own_ati2 hk104a)).2.2.2.2.2] at q; exact q
    have f109 := (Fc.keep K108 (ninS neab nin0))
    obtain ⟨T110, X110, e110, st110⟩ := gG X108 hx hZ hown (wq hw 18 rfl) e108 f109 (g := (mkF m 100 #[vR a1, vI u1, vI i102] [(.ref a1), (.ref a1)])) rfl rfl (hb hby dc26_100)
    have f111 := (Ea.keep K108)
    obtain ⟨T112, h112, X112, e112, W112, st112⟩ := putF X110 hx hZ hown (host := "") (Or.inl (wq hw 18 rfl)) Via.refl e110 f109 f111 (Or.inl (wq hw 19 rfl)) (wq hw 1 rfl) (ty := .int) (by decide) rfl rfl (g := (mkF m 105 #[vR a1, vI u1, vI i102] [(.int (1 : Int32)), (.ref a1)])) rfl rfl (hb hby dc26_105)
    have Fw112 : Fld Z h112 a1 sU "count" "I" (.int (1 : Int32)) := Fld.same W112 f109
    have N112 := Fr.snoc X112 N108 ga
    obtain ⟨T113, X113, e113, st113⟩ := gG X112 hx hZ hown (wq hw 18 rfl) e112 Fw112 (g := (mkF m 109 #[vR a1, vI u1, vI i102] [(.ref a1)])) rfl rfl (hb hby dc26_109)
    obtain ⟨T114, X114, e114, st114⟩ := gG X113 hx hZ hown (wq hw 18 rfl) e113 Fw112 (g := (mkF m 117 #[vR a1, vI u1, vI i102] [(.ref a1), (.int (4 : Int32))])) rfl rfl (hb hby dc26_117)
    have f115 := ((Fn.keep K108 (ninS neab nin0)).other W112 (Or.inr (slot_ne (Or.inl (wq hw 11 rfl)) (Or.inl (wq hw 19 rfl)) (by decide) (t := (.array .int)) (t' := .int) (by decide) (by decide))))
    obtain ⟨T116, X116, e116, st116⟩ := gG X114 hx hZ hown (wq hw 10 rfl) e114 f115 (g := (mkF m 122 #[vR a1, vI u1, vI i102] [(.ref a1), (.int (4 : Int32))])) rfl rfl (hb hby dc26_122)
    have f117 := (V108.other W112 (Ne.symm neab))
    obtain ⟨cl118, Ar118, q118, S118, N118_, H118, G118⟩ := id f117
    obtain ⟨T119, X119, e119, st119⟩ := gG X116 hx hZ hown (wq hw 10 rfl) e116 f115 (g := (mkF m 131 #[vR a1, vI u1, vI i102] [(.ref a1), (.ref a1)])) rfl rfl (hb hby dc26_131)
    obtain ⟨T120, X120, e120, st120⟩ := gG X119 hx hZ hown (wq hw 10 rfl) e119 f115 (g := (mkF m 135 #[vR a1, vI u1, vI i102] [(.ref a1), (.ref b1), (.ref a1)])) rfl rfl (hb hby dc26_135)
    obtain ⟨cl121, Ar121, q121, S121, N121_, H121, G121⟩ := id f117
    have K122 : Keep h0 h112 [a1, b1] := (Keep.wr (Keep.trans (Keep.refl h0 [a1, b1]) K108 (allS (P := fun x => x ∈ [a1, b1] ∨ h0.size ≤ x) (Or.inl (List.mem_of_getElem? (i := 1) rfl)) all0)) W112 (Or.inl (List.mem_of_getElem? (i := 0) rfl)))
    have O123 : Old Z n0 h112 := ((O0.keep K108 (allS gb all0)).wr W112 ga)
    obtain ⟨_, _, ⟨T124, L124, k124, n124⟩, -, X124, ⟨Lc124, hQ124, l124, y124, z124⟩, st124⟩ := Jvm.LawKit.callS X120 hx (y := y_8) hown (mvT hZ (wq hw 58 rfl)) (mvT hZ (wq hw 59 rfl)) (mvT hZ (wq hw 37 rfl)) (mvT hZ (wq hw 60 rfl)) (by decide) (backOf (W := 1) (rmCi42 l Z a0 hw [] b1 kb (own_dn i102 (0 : Int32) t0 t1) t1 t2 t3 h112 n0 O123 f117) hZ (wq hw 60 rfl) (wq hw 37 rfl) (by decide) (by decide)) (g := (mkF m 141 #[vR a1, vI u1, vI i102] [(.int (2 : Int32)), (.ref b1), (.ref a1)])) rfl (by rw [hml]; rfl) (argsL := [(.ref b1), (.int (2 : Int32))]) (rest := [(.ref a1)]) (lenOf pd_11 rfl) rfl (by show 2 * 0 + _ ≤ _; exact Nat.le_of_eq rfl) (hb hby dc26_141) (fun _ _ => ⟨rfl, e120, (by decide : 0 + 1 ≤ _), (by decide : 0 + 2 ≤ _)⟩)
    dsimp only [Pt.U, Pt.locs, Pt.cells, Pt.slots] at X124 l124 y124 z124 st124 hQ124
    subst l124 y124 z124
    obtain ⟨b124, kb124, rfl, N124q, gb124, sz124, K124, V124⟩ := hQ124
    have N124 := Fr.app N112 N124q
    have f125 := (f111.wr W112)
    have ne124_a1 : a1 ≠ b124 := Nat.ne_of_lt (Nat.lt_of_lt_of_le (f125).lt sz124)
    have ne124_b1 : b1 ≠ b124 := Nat.ne_of_lt (Nat.lt_of_lt_of_le (f117).lt sz124)
    have sz0124 : h0.size ≤ b124 := Nat.le_trans (K122).1 sz124
    have f126 := (f125.keep K124)
    have f127 := (f115.keep K124 nin0)
    obtain ⟨T128, h128, X128, e128, W128, st128⟩ := putF X124 hx hZ hown (host := "") (Or.inl (wq hw 10 rfl)) Via.refl rfl f127 f126 (Or.inl (wq hw 11 rfl)) (wq hw 1 rfl) (ty := (.array .int)) (by decide) rfl rfl (g := (mkF m 144 #[vR a1, vI u1, vI i102] [(.ref b124), (.ref a1)])) rfl rfl (hb hby dc26_144)
    have Fw128 : Fld Z h128 a1 sU "numbers" "[I" (.ref b124) := Fld.same W128 f127
    have N128 := Fr.snoc X128 N124 ga
    obtain ⟨fs, hr, hrun, hended, hW, hsame⟩ := X128.leave (v := none) (fun _ => rfl)
    have K129 : Keep h0 h128 [a1, b1] := (Keep.wr (Keep.trans K122 K124 all0) W128 (Or.inl (List.mem_of_getElem? (i := 0) rfl)))
    have f130 := (f126.wr W128)
    have f131 := ((((Fb.keep K108 (ninS neab nin0)).other W112 (Or.inr (slot_ne (Or.inl (wq hw 30 rfl)) (Or.inl (wq hw 19 rfl)) (by decide) (t := (.object sB)) (t' := .int) (by decide) (by decide)))).keep K124 nin0).other W128 (Or.inr (slot_ne (Or.inl (wq hw 30 rfl)) (Or.inl (wq hw 11 rfl)) (by decide) (t := (.object sB)) (t' := (.array .int)) (by decide) (by decide))))
    have f132 := ((Fw112.keep K124 nin0).other W128 (Or.inr (slot_ne (Or.inl (wq hw 19 rfl)) (Or.inl (wq hw 11 rfl)) (by decide) (t := .int) (t' := (.array .int)) (by decide) (by decide))))
    have f133 := (V124.other W128 (Ne.symm ne124_a1))
    refine ⟨_, _, pre103 _ ?_, hrun, hended, _, _, rfl, ?_, ⟨_, rfl⟩, hW, hsame.mono (by decide) (by decide)⟩
    · skip
      show Steps p.tables e below (T102.setTop (mkF m 69 #[vR a1, vI u1, .unset] [(.int r102)])) _
      rw [hk104]
      refine XS.istoreN X102.here hx rfl (hb hby dc26_69) rfl (l' := #[vR a1, vI u1, vI i102]) rfl ?_
      refine XS.iloadN X102.here hx rfl (hb hby dc26_70) rfl ?_
      refine XS.ifYes X102.here hx rfl (pc0 := 71) (pc' := 75) rfl (hb hby dc26_71) rfl ((if0 _ _).trans (flt (own_ir2 (own_ati2 hk104a))).2.1) (by decide) (by decide) ?_
      refine XS.aloadN X102.here hx rfl (hb hby dc26_75) rfl rfl ?_
      refine st105 _ ?_
      refine XS.iloadN X105.here hx rfl (hb hby dc26_79) rfl ?_
      show Steps p.tables e below (T105.setTop (mkF m 80 #[vR a1, vI u1, vI i102] [(.int i102), (.ref b1)])) _
      refine XS.iconst X105.here hx rfl (hb hby dc26_80) ?_
      refine XS.iadd X105.here hx rfl (hb hby dc26_81) rfl ?_
      refine XS.aloadN X105.here hx rfl (hb hby dc26_82) rfl rfl ?_
      refine st106 _ ?_
      refine XS.iloadN X106.here hx rfl (hb hby dc26_86) rfl ?_
      refine XS.aloadN X106.here hx rfl (hb hby dc26_87) rfl rfl ?_
      refine st107 _ ?_
      refine XS.iloadN X107.here hx rfl (hb hby dc26_91) rfl ?_
      refine XS.isub X107.here hx rfl (hb hby dc26_92) rfl ?_
      refine XS.iconst X107.here hx rfl (hb hby dc26_93) ?_
      refine XS.isub X107.here hx rfl (hb hby dc26_94) rfl ?_
      refine st108 _ ?_
      show Steps p.tables e below (T108.setTop (mkF m 98 #[vR a1, vI u1, vI i102] [])) _
      refine XS.aloadN X108.here hx rfl (hb hby dc26_98) rfl rfl ?_
      refine XS.dup X108.here hx rfl (hb hby dc26_99) rfl rfl ?_
      refine st110 _ ?_
      refine XS.iconst X110.here hx rfl (hb hby dc26_103) ?_
      refine XS.isub X110.here hx rfl (hb hby dc26_104) rfl ?_
      refine st112 _ ?_
      refine XS.aloadN X112.here hx rfl (hb hby dc26_108) rfl rfl ?_
      refine st113 _ ?_
      refine XS.ifNo X113.here hx rfl (hb hby dc26_112) rfl (by decide) ?_
      refine XS.iconst X113.here hx rfl (hb hby dc26_115) ?_
      refine XS.aloadN X113.here hx rfl (hb hby dc26_116) rfl rfl ?_
      refine st114 _ ?_
      show Steps p.tables e below (T114.setTop (mkF m 120 #[vR a1, vI u1, vI i102] [(.int (1 : Int32)), (.int (4 : Int32))])) _
      refine XS.imul X114.here hx rfl (hb hby dc26_120) rfl ?_
      refine XS.aloadN X114.here hx rfl (hb hby dc26_121) rfl rfl ?_
      refine st116 _ ?_
      refine X116.arraylength hx (by rw [e116]; exact Ar118.1) (State.isArrayOf_alike hZ.alike Ar118.2.1) (g := (mkF m 125 #[vR a1, vI u1, vI i102] [(.ref b1), (.int (4 : Int32))])) rfl rfl (hb hby dc26_125) _ ?_
      rw [len_of S118 N118_]
      refine XS.icmpNo X116.here hx rfl (hb hby dc26_126) rfl (by decide) ?_
      refine XS.aloadN X116.here hx rfl (hb hby dc26_129) rfl rfl ?_
      refine XS.aloadN X116.here hx rfl (hb hby dc26_130) rfl rfl ?_
      refine st119 _ ?_
      refine XS.aloadN X119.here hx rfl (hb hby dc26_134) rfl rfl ?_
      refine st120 _ ?_
      refine X120.arraylength hx (by rw [e120]; exact Ar121.1) (State.isArrayOf_alike hZ.alike Ar121.2.1) (g := (mkF m 138 #[vR a1, vI u1, vI i102] [(.ref b1), (.ref b1), (.ref a1)])) rfl rfl (hb hby dc26_138) _ ?_
      rw [len_of S121 N121_]
      refine XS.iconst X120.here hx rfl (hb hby dc26_139) ?_
      show Steps p.tables e below (T120.setTop (mkF m 140 #[vR a1, vI u1, vI i102] [(.int (2 : Int32)), (.int (4 : Int32)), (.ref b1), (.ref a1)])) _
      refine XS.idiv X120.here hx rfl (hb hby dc26_140) rfl (by decide) ?_
      refine st124 _ ?_
      refine st128 _ ?_
      exact X128.returnOut hx Bd.returns (hb hby dc26_147) hr
    · show Q_re Z a1 u1 i1 [t0, t1] [a1, b1] h0 n0 _ T128.heap _
      rw [e128]
      exact ⟨rfl, N128, K129, [(own_dn i102 (0 : Int32) t0 t1)], _, ⟨f130, ga, f132, (by have := hi; simp only [List.length_cons, List.length_nil]; omega), Or.inl ⟨b124, rfl, gb124, ne124_a1, Fw128, f131, ⟨_, Or.inr (Or.inr (Or.inr (Or.inl ⟨_, _, rfl, f133⟩)))⟩, (own_del2 hs hk104a).1⟩⟩, (own_del2 hs hk104a).2, own_w2 (Or.inr sz0124)⟩
  · skip
    obtain ⟨fs, hr, hrun, hended, hW, hsame⟩ := X102.leave (v := none) (fun _ => rfl)
    refine ⟨_, _, pre103 _ ?_, hrun, hended, _, _, rfl, ?_, ⟨_, rfl⟩, hW, hsame.mono (by decide) (by decide)⟩
    · skip
      show Steps p.tables e below (T102.setTop (mkF m 69 #[vR a1, vI u1, .unset] [(.int r102)])) _
      rw [hk104]
      refine XS.istoreN X102.here hx rfl (hb hby dc26_69) rfl (l' := #[vR a1, vI u1, vI (-(j102 + (1 : Int32)))]) rfl ?_
      refine XS.iloadN X102.here hx rfl (hb hby dc26_70) rfl ?_
      refine XS.ifNo X102.here hx rfl (hb hby dc26_71) rfl ((if0 _ _).trans (tlt (own_neg (own_jr2 (own_plj2 hk104a)))).2.1) ?_
      exact X102.returnOut hx Bd.returns (hb hby dc26_74) hr
    · show Q_re Z a1 u1 i1 [t0, t1] [a1, b1] h0 n0 _ T102.heap _
      rw [hh102]
      exact ⟨rfl, N102, (Keep.refl h0 [a1, b1]), [t0, t1], _, ⟨Ea, ga, Fc, Nat.le_succ_of_le hi, Or.inl ⟨b1, rfl, gb, neab, Fn, Fb, ⟨_, Or.inr (Or.inr (Or.inr (Or.inr (Or.inr (Or.inl ⟨_, _, _, _, rfl, Vb⟩)))))⟩, hs⟩⟩, fun x => ⟨fun q => ⟨fun z => own_not2 hs hk104a (z ▸ q), q⟩, And.right⟩, own_w2 (Or.inl rfl)⟩
theorem rmRe34 (l : Launch) (Z : State) (a0 : Array Value) (hw : HwT a0 Z) (ws : List Jvm.Cond) (a1 b1 : Addr) (kb : ClassId) (t0 t1 t2 t3 u1 : Int32) (i1 : Nat) (h0 : Heap) (n0 : Nat) (O0 : Old Z n0 h0) (Ea : Exa Z h0 a1 sU) (Fn : Fld Z h0 a1 sU "numbers" "[I" (.ref b1)) (Fb : Fld Z h0 a1 sU "bits" "Ljava/util/BitSet;" .null) (Fc : Fld Z h0 a1 sU "count" "I" (.int (3 : Int32))) (ga : n0 ≤ a1) (Vb : Arv Z h0 b1 kb .int (4 : Int32) [(.int t0), (.int t1), (.int t2), (.int t3)] (.int (0 : Int32))) (neab : a1 ≠ b1) (gb : n0 ≤ b1) (hs : Srt [t0, t1, t2]) (hi : 3 ≤ i1) (hi4 : i1 ≤ 4) (hu : own_r u1) (SB : Sta Z Z.heap sB "$assertionsDisabled" "Z" (.int (1 : Int32))) :
    Mt l Z y_26 prog_25_method_6_code 3 none ws ({ frames := 3, cells := 0, slots := 0, locals := 47 } : Room) #[(.ref a1), (.int u1)] h0 (Q_re Z a1 u1 i1 [t0, t1, t2] [a1, b1] h0 n0) := by
  refine MetFree.of_bodySF (plainFor_of_name pn_0) hisR ?_
  intro p e s m args below meth c s₁ Bd hml0 hP hK
  obtain ⟨rfl, hZ, hh⟩ := hP
  have hx := Bd.exec
  have hby := Bd.bytes
  have hml : c.maxLocals = 3 := hml0
  have hown : s.vm.findClass sU = some m.cls := findClass_of_methodNamed Bd.named
  have hnm := (name_of_methodNamed Bd.named Bd.method).1
  have X0 : Stand p l e ({ frames := 3, cells := 0, slots := 0, locals := 47 } : Room) s m #[(.ref a1), (.int u1)] below meth c s₁ [] 0 0 := Stand.of_body Bd
  have e0 : s₁.heap = h0 := by rw [← hh, Bd.state]; rfl
  have N0 := Fr.nil n0
  have pre0 := fun t (k : Steps p.tables e below (s₁.setTop _) t) => castTop (ef_5 m a1 u1) k
  obtain ⟨T101, X101, e101, st101⟩ := gG X0 hx hZ hown (wq hw 29 rfl) e0 Fb (g := (mkF m 1 #[vR a1, vI u1, .unset] [(.ref a1)])) rfl rfl (hb hby dc26_1)
  obtain ⟨cq102, q102, q102'⟩ := Exa.cell Ea
  obtain ⟨_, _, ⟨T102, L102, k102, n102⟩, -, X102, ⟨Lc102, hQ102, l102, y102, z102⟩, st102⟩ := X101.privateBack hx (y := y_21) hown (mvT hZ (wq hw 31 rfl)) (mvT hZ (wq hw 32 rfl)) (mvT hZ (own_sel (y := y_21) (wq hw 1 rfl) (wq hw 33 rfl) (wq hw 32 rfl) (by decide))) (Cond.privateMethod_at (mvP hZ (wq hw 33 rfl) (args := #[]))) (mvT hZ (wq hw 34 rfl)) (by decide) (backOf (W := 0) (rmFi l Z a0 hw [] a1 b1 (3 : Int32) u1 4 (own_f4 t0 t1 t2 t3) h0 n0 O0 Fn Fc (Iv.of4 Vb) (by decide) (by decide) (own_mo34 hs) (by decide) (by decide)) hZ (wq hw 34 rfl) (wq hw 2 rfl) (by decide) (by decide)) (g := (mkF m 66 #[vR a1, vI u1, .unset] [(.int u1), (.ref a1)])) rfl (by rw [hml]; rfl) (Steps.refl _) (a := a1) (by rw [e101]; exact q102) q102' (argsL := [(.int u1)]) (rest := []) (lenOf pd_0 rfl) rfl (by show 2 * 0 + _ ≤ _; exact Nat.le_of_eq rfl) (hb hby dc26_66) (fun _ _ => ⟨rfl, e101, (by decide : 0 + 0 ≤ _), (by decide : 0 + 0 ≤ _)⟩)
  dsimp only [Pt.U, Pt.locs, Pt.cells, Pt.slots] at X102 l102 y102 z102 st102 hQ102
  subst l102 y102 z102
  obtain ⟨r102, rfl, N102q, hh102, R102⟩ := hQ102
  have N102 := Fr.app N0 N102q
  have pre103 : ∀ t, Steps p.tables e below (T102.setTop (mkF m 69 #[vR a1, vI u1, .unset] [(.int r102)])) t → Steps p.tables e below (s₁.setTop (entryFrame m #[(.ref a1), (.int u1)] 3)) t := fun t kt => pre0 t (by
      show Steps p.tables e below (s₁.setTop (mkF m 0 #[vR a1, vI u1, .unset] [])) _
      refine XS.aloadN X0.here hx rfl (hb hby dc26_0) rfl rfl ?_
      refine st101 _ ?_
      refine XS.ifnullYes X101.here hx rfl (pc0 := 4) (pc' := 64) rfl (hb hby dc26_4) rfl (by decide) (by decide) ?_
      refine XS.aloadN X101.here hx rfl (hb hby dc26_64) rfl rfl ?_
      refine XS.iloadN X101.here hx rfl (hb hby dc26_65) rfl ?_
      refine st102.trans ?_
      exact kt)
  rcases (own_cv34 R102) with ⟨i102, hk104, hk104a⟩ | ⟨j102, hk104, hk104a⟩
  · skip
    obtain ⟨T105, X105, e105, st105⟩ := gG X102 hx hZ hown (wq hw 10 rfl) hh102 Fn (g := (mkF m 76 #[vR a1, vI u1, vI i102] [(.ref a1)])) rfl rfl (hb hby dc26_76)
    obtain ⟨T106, X106, e106, st106⟩ := gG X105 hx hZ hown (wq hw 10 rfl) e105 Fn (g := (mkF m 83 #[vR a1, vI u1, vI i102] [(.ref a1), (.int (i102 + (1 : Int32))), (.ref b1)])) rfl rfl (hb hby dc26_83)
    obtain ⟨T107, X107, e107, st107⟩ := gG X106 hx hZ hown (wq hw 18 rfl) e106 Fc (g := (mkF m 88 #[vR a1, vI u1, vI i102] [(.ref a1), (.int i102), (.ref b1), (.int (i102 + (1 : Int32))), (.ref b1)])) rfl rfl (hb hby dc26_88)
    obtain ⟨T108, h108, L108, X108, e108, N108, K108, V108_, st108⟩ := cpA X107 hx hZ hown (wq hw 50 rfl) (wq hw 53 rfl) (wq hw 51 rfl) (wq hw 52 rfl) e107 Vb Vb (Or.inl ⟨rfl, rfl⟩) (own_cd34 (i1 := i102) (t0 := t0) (t1 := t1) (t2 := t2) (t3 := t3) (own_ati3 hk104a)).1 (own_cd34 (i1 := i102) (t0 := t0) (t1 := t1) (t2 := t2) (t3 := t3) (own_ati3 hk104a)).2.1 (own_cd34 (i1 := i102) (t0 := t0) (t1 := t1) (t2 := t2) (t3 := t3) (own_ati3 hk104a)).2.2.1 (own_cd34 (i1 := i102) (t0 := t0) (t1 := t1) (t2 := t2) (t3 := t3) (own_ati3 hk104a)).2.2.2.1 (own_cd34 (i1 := i102) (t0 := t0) (t1 := t1) (t2 := t2) (t3 := t3) (own_ati3 hk104a)).2.2.2.2.1 rfl (Nat.le_trans (own_cd34 (i1 := i102) (t0 := t0) (t1 := t1) (t2 := t2) (t3 := t3) (own_ati3 hk104a)).2.2.2.2.1 (by decide : (4 : Int32).toNatClampNeg ≤ 4)) N102 gb (g := (mkF m 95 #[vR a1, vI u1, vI i102] [(.int (((3 : Int32) - i102) - (1 : Int32))), (.int i102), (.ref b1), (.int (i102 + (1 : Int32))), (.ref b1)])) rfl (by rw [hml]; rfl) rfl (hb hby dc26_95) (by decide) (W := 0) (by show 2 * 0 + _ ≤ _; exact Nat.le_of_eq rfl) (by decide)
    have V108 : Arv Z h108 b1 kb .int (4 : Int32) [(.int (own_dn i102 (0 : Int32) t0 t1)), (.int (own_dn i102 (1 : Int32) t1 t2)), (.int t2), (.int t3)] (.int (0 : Int32)) := by have q := V108_; rw [(own_cd34 (i1 := i102) (t0 := t0) (t1 := t1) (t2 := t2) (t3 := t3) (own_ati3 hk104a)).2.2.2.2.2] at q; exact q
    have f109 := (Fc.keep K108 (ninS neab nin0))
    obtain ⟨T110, X110, e110, st110⟩ := gG X108 hx hZ hown (wq hw 18 rfl) e108 f109 (g := (mkF m 100 #[vR a1, vI u1, vI i102] [(.ref a1), (.ref a1)])) rfl rfl (hb hby dc26_100)
    have f111 := (Ea.keep K108)
    obtain ⟨T112, h112, X112, e112, W112, st112⟩ := putF X110 hx hZ hown (host := "") (Or.inl (wq hw 18 rfl)) Via.refl e110 f109 f111 (Or.inl (wq hw 19 rfl)) (wq hw 1 rfl) (ty := .int) (by decide) rfl rfl (g := (mkF m 105 #[vR a1, vI u1, vI i102] [(.int (2 : Int32)), (.ref a1)])) rfl rfl (hb hby dc26_105)
    have Fw112 : Fld Z h112 a1 sU "count" "I" (.int (2 : Int32)) := Fld.same W112 f109
    have N112 := Fr.snoc X112 N108 ga
    obtain ⟨T113, X113, e113, st113⟩ := gG X112 hx hZ hown (wq hw 18 rfl) e112 Fw112 (g := (mkF m 109 #[vR a1, vI u1, vI i102] [(.ref a1)])) rfl rfl (hb hby dc26_109)
    obtain ⟨T114, X114, e114, st114⟩ := gG X113 hx hZ hown (wq hw 18 rfl) e113 Fw112 (g := (mkF m 117 #[vR a1, vI u1, vI i102] [(.ref a1), (.int (4 : Int32))])) rfl rfl (hb hby dc26_117)
    have f115 := ((Fn.keep K108 (ninS neab nin0)).other W112 (Or.inr (slot_ne (Or.inl (wq hw 11 rfl)) (Or.inl (wq hw 19 rfl)) (by decide) (t := (.array .int)) (t' := .int) (by decide) (by decide))))
    obtain ⟨T116, X116, e116, st116⟩ := gG X114 hx hZ hown (wq hw 10 rfl) e114 f115 (g := (mkF m 122 #[vR a1, vI u1, vI i102] [(.ref a1), (.int (8 : Int32))])) rfl rfl (hb hby dc26_122)
    have f117 := (V108.other W112 (Ne.symm neab))
    obtain ⟨cl118, Ar118, q118, S118, N118_, H118, G118⟩ := id f117
    obtain ⟨fs, hr, hrun, hended, hW, hsame⟩ := X116.leave (v := none) (fun _ => rfl)
    have K119 : Keep h0 h112 [a1, b1] := (Keep.wr (Keep.trans (Keep.refl h0 [a1, b1]) K108 (allS (P := fun x => x ∈ [a1, b1] ∨ h0.size ≤ x) (Or.inl (List.mem_of_getElem? (i := 1) rfl)) all0)) W112 (Or.inl (List.mem_of_getElem? (i := 0) rfl)))
    have f120 := (f111.wr W112)
    have f121 := ((Fb.keep K108 (ninS neab nin0)).other W112 (Or.inr (slot_ne (Or.inl (wq hw 30 rfl)) (Or.inl (wq hw 19 rfl)) (by decide) (t := (.object sB)) (t' := .int) (by decide) (by decide))))
    refine ⟨_, _, pre103 _ ?_, hrun, hended, _, _, rfl, ?_, ⟨_, rfl⟩, hW, hsame.mono (by decide) (by decide)⟩
    · skip
      show Steps p.tables e below (T102.setTop (mkF m 69 #[vR a1, vI u1, .unset] [(.int r102)])) _
      rw [hk104]
      refine XS.istoreN X102.here hx rfl (hb hby dc26_69) rfl (l' := #[vR a1, vI u1, vI i102]) rfl ?_
      refine XS.iloadN X102.here hx rfl (hb hby dc26_70) rfl ?_
      refine XS.ifYes X102.here hx rfl (pc0 := 71) (pc' := 75) rfl (hb hby dc26_71) rfl ((if0 _ _).trans (flt (own_ir3 (own_ati3 hk104a))).2.1) (by decide) (by decide) ?_
      refine XS.aloadN X102.here hx rfl (hb hby dc26_75) rfl rfl ?_
      show Steps p.tables e below (T102.setTop (mkF m 76 #[vR a1, vI u1, vI i102] [(.ref a1)])) _
      refine st105 _ ?_
      refine XS.iloadN X105.here hx rfl (hb hby dc26_79) rfl ?_
      refine XS.iconst X105.here hx rfl (hb hby dc26_80) ?_
      refine XS.iadd X105.here hx rfl (hb hby dc26_81) rfl ?_
      refine XS.aloadN X105.here hx rfl (hb hby dc26_82) rfl rfl ?_
      refine st106 _ ?_
      refine XS.iloadN X106.here hx rfl (hb hby dc26_86) rfl ?_
      refine XS.aloadN X106.here hx rfl (hb hby dc26_87) rfl rfl ?_
      refine st107 _ ?_
      refine XS.iloadN X107.here hx rfl (hb hby dc26_91) rfl ?_
      refine XS.isub X107.here hx rfl (hb hby dc26_92) rfl ?_
      refine XS.iconst X107.here hx rfl (hb hby dc26_93) ?_
      show Steps p.tables e below (T107.setTop (mkF m 94 #[vR a1, vI u1, vI i102] [(.int (1 : Int32)), (.int ((3 : Int32) - i102)), (.int i102), (.ref b1), (.int (i102 + (1 : Int32))), (.ref b1)])) _
      refine XS.isub X107.here hx rfl (hb hby dc26_94) rfl ?_
      refine st108 _ ?_
      refine XS.aloadN X108.here hx rfl (hb hby dc26_98) rfl rfl ?_
      refine XS.dup X108.here hx rfl (hb hby dc26_99) rfl rfl ?_
      refine st110 _ ?_
      refine XS.iconst X110.here hx rfl (hb hby dc26_103) ?_
      refine XS.isub X110.here hx rfl (hb hby dc26_104) rfl ?_
      refine st112 _ ?_
      refine XS.aloadN X112.here hx rfl (hb hby dc26_108) rfl rfl ?_
      refine st113 _ ?_
      refine XS.ifNo X113.here hx rfl (hb hby dc26_112) rfl (by decide) ?_
      refine XS.iconst X113.here hx rfl (hb hby dc26_115) ?_
      show Steps p.tables e below (T113.setTop (mkF m 116 #[vR a1, vI u1, vI i102] [(.int (4 : Int32))])) _
      refine XS.aloadN X113.here hx rfl (hb hby dc26_116) rfl rfl ?_
      refine st114 _ ?_
      refine XS.imul X114.here hx rfl (hb hby dc26_120) rfl ?_
      refine XS.aloadN X114.here hx rfl (hb hby dc26_121) rfl rfl ?_
      refine st116 _ ?_
      refine X116.arraylength hx (by rw [e116]; exact Ar118.1) (State.isArrayOf_alike hZ.alike Ar118.2.1) (g := (mkF m 125 #[vR a1, vI u1, vI i102] [(.ref b1), (.int (8 : Int32))])) rfl rfl (hb hby dc26_125) _ ?_
      rw [len_of S118 N118_]
      refine XS.icmpYes X116.here hx rfl (pc0 := 126) (pc' := 147) rfl (hb hby dc26_126) rfl (by decide) (by decide) (by decide) ?_
      exact X116.returnOut hx Bd.returns (hb hby dc26_147) hr
    · show Q_re Z a1 u1 i1 [t0, t1, t2] [a1, b1] h0 n0 _ T116.heap _
      rw [e116]
      exact ⟨rfl, N112, K119, [(own_dn i102 (0 : Int32) t0 t1), (own_dn i102 (1 : Int32) t1 t2)], _, ⟨f120, ga, Fw112, (by have := hi; simp only [List.length_cons, List.length_nil]; omega), Or.inl ⟨b1, rfl, gb, neab, f115, f121, ⟨_, Or.inr (Or.inr (Or.inr (Or.inr (Or.inr (Or.inl ⟨_, _, _, _, rfl, f117⟩)))))⟩, (own_del3 hs hk104a).1⟩⟩, (own_del3 hs hk104a).2, own_w2 (Or.inl rfl)⟩
  · skip
    obtain ⟨fs, hr, hrun, hended, hW, hsame⟩ := X102.leave (v := none) (fun _ => rfl)
    refine ⟨_, _, pre103 _ ?_, hrun, hended, _, _, rfl, ?_, ⟨_, rfl⟩, hW, hsame.mono (by decide) (by decide)⟩
    · skip
      show Steps p.tables e below (T102.setTop (mkF m 69 #[vR a1, vI u1, .unset] [(.int r102)])) _
      rw [hk104]
      refine XS.istoreN X102.here hx rfl (hb hby dc26_69) rfl (l' := #[vR a1, vI u1, vI (-(j102 + (1 : Int32)))]) rfl ?_
      refine XS.iloadN X102.here hx rfl (hb hby dc26_70) rfl ?_
      refine XS.ifNo X102.here hx rfl (hb hby dc26_71) rfl ((if0 _ _).trans (tlt (own_neg (own_jr3 (own_plj3 hk104a)))).2.1) ?_
      show Steps p.tables e below (T102.setTop (mkF m 74 #[vR a1, vI u1, vI (-(j102 + (1 : Int32)))] [])) _
      exact X102.returnOut hx Bd.returns (hb hby dc26_74) hr
    · show Q_re Z a1 u1 i1 [t0, t1, t2] [a1, b1] h0 n0 _ T102.heap _
      rw [hh102]
      exact ⟨rfl, N102, (Keep.refl h0 [a1, b1]), [t0, t1, t2], _, ⟨Ea, ga, Fc, Nat.le_succ_of_le hi, Or.inl ⟨b1, rfl, gb, neab, Fn, Fb, ⟨_, Or.inr (Or.inr (Or.inr (Or.inr (Or.inr (Or.inr (Or.inl ⟨_, _, _, _, rfl, Vb⟩))))))⟩, hs⟩⟩, fun x => ⟨fun q => ⟨fun z => own_not3 hs hk104a (z ▸ q), q⟩, And.right⟩, own_w2 (Or.inl rfl)⟩
theorem rmRe44 (l : Launch) (Z : State) (a0 : Array Value) (hw : HwT a0 Z) (ws : List Jvm.Cond) (a1 b1 : Addr) (kb : ClassId) (t0 t1 t2 t3 u1 : Int32) (i1 : Nat) (h0 : Heap) (n0 : Nat) (O0 : Old Z n0 h0) (Ea : Exa Z h0 a1 sU) (Fn : Fld Z h0 a1 sU "numbers" "[I" (.ref b1)) (Fb : Fld Z h0 a1 sU "bits" "Ljava/util/BitSet;" .null) (Fc : Fld Z h0 a1 sU "count" "I" (.int (4 : Int32))) (ga : n0 ≤ a1) (Vb : Arv Z h0 b1 kb .int (4 : Int32) [(.int t0), (.int t1), (.int t2), (.int t3)] (.int (0 : Int32))) (neab : a1 ≠ b1) (gb : n0 ≤ b1) (hs : Srt [t0, t1, t2, t3]) (hi : 4 ≤ i1) (hi4 : i1 ≤ 4) (hu : own_r u1) (SB : Sta Z Z.heap sB "$assertionsDisabled" "Z" (.int (1 : Int32))) :
    Mt l Z y_26 prog_25_method_6_code 3 none ws ({ frames := 3, cells := 0, slots := 0, locals := 47 } : Room) #[(.ref a1), (.int u1)] h0 (Q_re Z a1 u1 i1 [t0, t1, t2, t3] [a1, b1] h0 n0) := by
  refine MetFree.of_bodySF (plainFor_of_name pn_0) hisR ?_
  intro p e s m args below meth c s₁ Bd hml0 hP hK
  obtain ⟨rfl, hZ, hh⟩ := hP
  have hx := Bd.exec
  have hby := Bd.bytes
  have hml : c.maxLocals = 3 := hml0
  have hown : s.vm.findClass sU = some m.cls := findClass_of_methodNamed Bd.named
  have hnm := (name_of_methodNamed Bd.named Bd.method).1
  have X0 : Stand p l e ({ frames := 3, cells := 0, slots := 0, locals := 47 } : Room) s m #[(.ref a1), (.int u1)] below meth c s₁ [] 0 0 := Stand.of_body Bd
  have e0 : s₁.heap = h0 := by rw [← hh, Bd.state]; rfl
  have N0 := Fr.nil n0
  have pre0 := fun t (k : Steps p.tables e below (s₁.setTop _) t) => castTop (ef_5 m a1 u1) k
  obtain ⟨T101, X101, e101, st101⟩ := gG X0 hx hZ hown (wq hw 29 rfl) e0 Fb (g := (mkF m 1 #[vR a1, vI u1, .unset] [(.ref a1)])) rfl rfl (hb hby dc26_1)
  obtain ⟨cq102, q102, q102'⟩ := Exa.cell Ea
  obtain ⟨_, _, ⟨T102, L102, k102, n102⟩, -, X102, ⟨Lc102, hQ102, l102, y102, z102⟩, st102⟩ := X101.privateBack hx (y := y_21) hown (mvT hZ (wq hw 31 rfl)) (mvT hZ (wq hw 32 rfl)) (mvT hZ (own_sel (y := y_21) (wq hw 1 rfl) (wq hw 33 rfl) (wq hw 32 rfl) (by decide))) (Cond.privateMethod_at (mvP hZ (wq hw 33 rfl) (args := #[]))) (mvT hZ (wq hw 34 rfl)) (by decide) (backOf (W := 0) (rmFi l Z a0 hw [] a1 b1 (4 : Int32) u1 4 (own_f4 t0 t1 t2 t3) h0 n0 O0 Fn Fc (Iv.of4 Vb) (by decide) (by decide) (own_mo44 hs) (by decide) (by decide)) hZ (wq hw 34 rfl) (wq hw 2 rfl) (by decide) (by decide)) (g := (mkF m 66 #[vR a1, vI u1, .unset] [(.int u1), (.ref a1)])) rfl (by rw [hml]; rfl) (Steps.refl _) (a := a1) (by rw [e101]; exact q102) q102' (argsL := [(.int u1)]) (rest := []) (lenOf pd_0 rfl) rfl (by show 2 * 0 + _ ≤ _; exact Nat.le_of_eq rfl) (hb hby dc26_66) (fun _ _ => ⟨rfl, e101, (by decide : 0 + 0 ≤ _), (by decide : 0 + 0 ≤ _)⟩)
  dsimp only [Pt.U, Pt.locs, Pt.cells, Pt.slots] at X102 l102 y102 z102 st102 hQ102
  subst l102 y102 z102
  obtain ⟨r102, rfl, N102q, hh102, R102⟩ := hQ102
  have N102 := Fr.app N0 N102q
  have pre103 : ∀ t, Steps p.tables e below (T102.setTop (mkF m 69 #[vR a1, vI u1, .unset] [(.int r102)])) t → Steps p.tables e below (s₁.setTop (entryFrame m #[(.ref a1), (.int u1)] 3)) t := fun t kt => pre0 t (by
      show Steps p.tables e below (s₁.setTop (mkF m 0 #[vR a1, vI u1, .unset] [])) _
      refine XS.aloadN X0.here hx rfl (hb hby dc26_0) rfl rfl ?_
      refine st101 _ ?_
      refine XS.ifnullYes X101.here hx rfl (pc0 := 4) (pc' := 64) rfl (hb hby dc26_4) rfl (by decide) (by decide) ?_
      refine XS.aloadN X101.here hx rfl (hb hby dc26_64) rfl rfl ?_
      refine XS.iloadN X101.here hx rfl (hb hby dc26_65) rfl ?_
      refine st102.trans ?_
      exact kt)
  rcases (own_cv44 R102) with ⟨i102, hk104, hk104a⟩ | ⟨j102, hk104, hk104a⟩
  · skip
    obtain ⟨T105, X105, e105, st105⟩ := gG X102 hx hZ hown (wq hw 10 rfl) hh102 Fn (g := (mkF m 76 #[vR a1, vI u1, vI i102] [(.ref a1)])) rfl rfl (hb hby dc26_76)
    obtain ⟨T106, X106, e106, st106⟩ := gG X105 hx hZ hown (wq hw 10 rfl) e105 Fn (g := (mkF m 83 #[vR a1, vI u1, vI i102] [(.ref a1), (.int (i102 + (1 : Int32))), (.ref b1)])) rfl rfl (hb hby dc26_83)
    obtain ⟨T107, X107, e107, st107⟩ := gG X106 hx hZ hown (wq hw 18 rfl) e106 Fc (g := (mkF m 88 #[vR a1, vI u1, vI i102] [(.ref a1), (.int i102), (.ref b1), (.int (i102 + (1 : Int32))), (.ref b1)])) rfl rfl (hb hby dc26_88)
    obtain ⟨T108, h108, L108, X108, e108, N108, K108, V108_, st108⟩ := cpA X107 hx hZ hown (wq hw 50 rfl) (wq hw 53 rfl) (wq hw 51 rfl) (wq hw 52 rfl) e107 Vb Vb (Or.inl ⟨rfl, rfl⟩) (own_cd44 (i1 := i102) (t0 := t0) (t1 := t1) (t2 := t2) (t3 := t3) (own_ati4 hk104a)).1 (own_cd44 (i1 := i102) (t0 := t0) (t1 := t1) (t2 := t2) (t3 := t3) (own_ati4 hk104a)).2.1 (own_cd44 (i1 := i102) (t0 := t0) (t1 := t1) (t2 := t2) (t3 := t3) (own_ati4 hk104a)).2.2.1 (own_cd44 (i1 := i102) (t0 := t0) (t1 := t1) (t2 := t2) (t3 := t3) (own_ati4 hk104a)).2.2.2.1 (own_cd44 (i1 := i102) (t0 := t0) (t1 := t1) (t2 := t2) (t3 := t3) (own_ati4 hk104a)).2.2.2.2.1 rfl (Nat.le_trans (own_cd44 (i1 := i102) (t0 := t0) (t1 := t1) (t2 := t2) (t3 := t3) (own_ati4 hk104a)).2.2.2.2.1 (by decide : (4 : Int32).toNatClampNeg ≤ 4)) N102 gb (g := (mkF m 95 #[vR a1, vI u1, vI i102] [(.int (((4 : Int32) - i102) - (1 : Int32))), (.int i102), (.ref b1), (.int (i102 + (1 : Int32))), (.ref b1)])) rfl (by rw [hml]; rfl) rfl (hb hby dc26_95) (by decide) (W := 0) (by show 2 * 0 + _ ≤ _; exact Nat.le_of_eq rfl) (by decide)
    have V108 : Arv Z h108 b1 kb .int (4 : Int32) [(.int (own_dn i102 (0 : Int32) t0 t1)), (.int (own_dn i102 (1 : Int32) t1 t2)), (.int (own_dn i102 (2 : Int32) t2 t3)), (.int t3)] (.int (0 : Int32)) := by have q := V108_; rw [(own_cd44 (i1 := i102) (t0 := t0) (t1 := t1) (t2 := t2) (t3 := t3) (own_ati4 hk104a)).2.2.2.2.2] at q; exact q
    have f109 := (Fc.keep K108 (ninS neab nin0))
    obtain ⟨T110, X110, e110, st110⟩ := gG X108 hx hZ hown (wq hw 18 rfl) e108 f109 (g := (mkF m 100 #[vR a1, vI u1, vI i102] [(.ref a1), (.ref a1)])) rfl rfl (hb hby dc26_100)
    have f111 := (Ea.keep K108)
    obtain ⟨T112, h112, X112, e112, W112, st112⟩ := putF X110 hx hZ hown (host := "") (Or.inl (wq hw 18 rfl)) Via.refl e110 f109 f111 (Or.inl (wq hw 19 rfl)) (wq hw 1 rfl) (ty := .int) (by decide) rfl rfl (g := (mkF m 105 #[vR a1, vI u1, vI i102] [(.int (3 : Int32)), (.ref a1)])) rfl rfl (hb hby dc26_105)
    have Fw112 : Fld Z h112 a1 sU "count" "I" (.int (3 : Int32)) := Fld.same W112 f109
    have N112 := Fr.snoc X112 N108 ga
    obtain ⟨T113, X113, e113, st113⟩ := gG X112 hx hZ hown (wq hw 18 rfl) e112 Fw112 (g := (mkF m 109 #[vR a1, vI u1, vI i102] [(.ref a1)])) rfl rfl (hb hby dc26_109)
    obtain ⟨T114, X114, e114, st114⟩ := gG X113 hx hZ hown (wq hw 18 rfl) e113 Fw112 (g := (mkF m 117 #[vR a1, vI u1, vI i102] [(.ref a1), (.int (4 : Int32))])) rfl rfl (hb hby dc26_117)
    have f115 := ((Fn.keep K108 (ninS neab nin0)).other W112 (Or.inr (slot_ne (Or.inl (wq hw 11 rfl)) (Or.inl (wq hw 19 rfl)) (by decide) (t := (.array .int)) (t' := .int) (by decide) (by decide))))
    obtain ⟨T116, X116, e116, st116⟩ := gG X114 hx hZ hown (wq hw 10 rfl) e114 f115 (g := (mkF m 122 #[vR a1, vI u1, vI i102] [(.ref a1), (.int (12 : Int32))])) rfl rfl (hb hby dc26_122)
    have f117 := (V108.other W112 (Ne.symm neab))
    obtain ⟨cl118, Ar118, q118, S118, N118_, H118, G118⟩ := id f117
    obtain ⟨fs, hr, hrun, hended, hW, hsame⟩ := X116.leave (v := none) (fun _ => rfl)
    have K119 : Keep h0 h112 [a1, b1] := (Keep.wr (Keep.trans (Keep.refl h0 [a1, b1]) K108 (allS (P := fun x => x ∈ [a1, b1] ∨ h0.size ≤ x) (Or.inl (List.mem_of_getElem? (i := 1) rfl)) all0)) W112 (Or.inl (List.mem_of_getElem? (i := 0) rfl)))
    have f120 := (f111.wr W112)
    have f121 := ((Fb.keep K108 (ninS neab nin0)).other W112 (Or.inr (slot_ne (Or.inl (wq hw 30 rfl)) (Or.inl (wq hw 19 rfl)) (by decide) (t := (.object sB)) (t' := .int) (by decide) (by decide))))
    refine ⟨_, _, pre103 _ ?_, hrun, hended, _, _, rfl, ?_, ⟨_, rfl⟩, hW, hsame.mono (by decide) (by decide)⟩
    · skip
      show Steps p.tables e below (T102.setTop (mkF m 69 #[vR a1, vI u1, .unset] [(.int r102)])) _
      rw [hk104]
      refine XS.istoreN X102.here hx rfl (hb hby dc26_69) rfl (l' := #[vR a1, vI u1, vI i102]) rfl ?_
      refine XS.iloadN X102.here hx rfl (hb hby dc26_70) rfl ?_
      refine XS.ifYes X102.here hx rfl (pc0 := 71) (pc' := 75) rfl (hb hby dc26_71) rfl ((if0 _ _).trans (flt (own_ir4 (own_ati4 hk104a))).2.1) (by decide) (by decide) ?_
      refine XS.aloadN X102.here hx rfl (hb hby dc26_75) rfl rfl ?_
      show Steps p.tables e below (T102.setTop (mkF m 76 #[vR a1, vI u1, vI i102] [(.ref a1)])) _
      refine st105 _ ?_
      refine XS.iloadN X105.here hx rfl (hb hby dc26_79) rfl ?_
      refine XS.iconst X105.here hx rfl (hb hby dc26_80) ?_
      refine XS.iadd X105.here hx rfl (hb hby dc26_81) rfl ?_
      refine XS.aloadN X105.here hx rfl (hb hby dc26_82) rfl rfl ?_
      refine st106 _ ?_
      refine XS.iloadN X106.here hx rfl (hb hby dc26_86) rfl ?_
      refine XS.aloadN X106.here hx rfl (hb hby dc26_87) rfl rfl ?_
      refine st107 _ ?_
      refine XS.iloadN X107.here hx rfl (hb hby dc26_91) rfl ?_
      refine XS.isub X107.here hx rfl (hb hby dc26_92) rfl ?_
      refine XS.iconst X107.here hx rfl (hb hby dc26_93) ?_
      show Steps p.tables e below (T107.setTop (mkF m 94 #[vR a1, vI u1, vI i102] [(.int (1 : Int32)), (.int ((4 : Int32) - i102)), (.int i102), (.ref b1), (.int (i102 + (1 : Int32))), (.ref b1)])) _
      refine XS.isub X107.here hx rfl (hb hby dc26_94) rfl ?_
      refine st108 _ ?_
      refine XS.aloadN X108.here hx rfl (hb hby dc26_98) rfl rfl ?_
      refine XS.dup X108.here hx rfl (hb hby dc26_99) rfl rfl ?_
      refine st110 _ ?_
      refine XS.iconst X110.here hx rfl (hb hby dc26_103) ?_
      refine XS.isub X110.here hx rfl (hb hby dc26_104) rfl ?_
      refine st112 _ ?_
      refine XS.aloadN X112.here hx rfl (hb hby dc26_108) rfl rfl ?_
      refine st113 _ ?_
      refine XS.ifNo X113.here hx rfl (hb hby dc26_112) rfl (by decide) ?_
      refine XS.iconst X113.here hx rfl (hb hby dc26_115) ?_
      show Steps p.tables e below (T113.setTop (mkF m 116 #[vR a1, vI u1, vI i102] [(.int (4 : Int32))])) _
      refine XS.aloadN X113.here hx rfl (hb hby dc26_116) rfl rfl ?_
      refine st114 _ ?_
      refine XS.imul X114.here hx rfl (hb hby dc26_120) rfl ?_
      refine XS.aloadN X114.here hx rfl (hb hby dc26_121) rfl rfl ?_
      refine st116 _ ?_
      refine X116.arraylength hx (by rw [e116]; exact Ar118.1) (State.isArrayOf_alike hZ.alike Ar118.2.1) (g := (mkF m 125 #[vR a1, vI u1, vI i102] [(.ref b1), (.int (12 : Int32))])) rfl rfl (hb hby dc26_125) _ ?_
      rw [len_of S118 N118_]
      refine XS.icmpYes X116.here hx rfl (pc0 := 126) (pc' := 147) rfl (hb hby dc26_126) rfl (by decide) (by decide) (by decide) ?_
      exact X116.returnOut hx Bd.returns (hb hby dc26_147) hr
    · show Q_re Z a1 u1 i1 [t0, t1, t2, t3] [a1, b1] h0 n0 _ T116.heap _
      rw [e116]
      exact ⟨rfl, N112, K119, [(own_dn i102 (0 : Int32) t0 t1), (own_dn i102 (1 : Int32) t1 t2), (own_dn i102 (2 : Int32) t2 t3)], _, ⟨f120, ga, Fw112, (by have := hi; simp only [List.length_cons, List.length_nil]; omega), Or.inl ⟨b1, rfl, gb, neab, f115, f121, ⟨_, Or.inr (Or.inr (Or.inr (Or.inr (Or.inr (Or.inr (Or.inl ⟨_, _, _, _, rfl, f117⟩))))))⟩, (own_del4 hs hk104a).1⟩⟩, (own_del4 hs hk104a).2, own_w2 (Or.inl rfl)⟩
  · skip
    obtain ⟨fs, hr, hrun, hended, hW, hsame⟩ := X102.leave (v := none) (fun _ => rfl)
    refine ⟨_, _, pre103 _ ?_, hrun, hended, _, _, rfl, ?_, ⟨_, rfl⟩, hW, hsame.mono (by decide) (by decide)⟩
    · skip
      show Steps p.tables e below (T102.setTop (mkF m 69 #[vR a1, vI u1, .unset] [(.int r102)])) _
      rw [hk104]
      refine XS.istoreN X102.here hx rfl (hb hby dc26_69) rfl (l' := #[vR a1, vI u1, vI (-(j102 + (1 : Int32)))]) rfl ?_
      refine XS.iloadN X102.here hx rfl (hb hby dc26_70) rfl ?_
      refine XS.ifNo X102.here hx rfl (hb hby dc26_71) rfl ((if0 _ _).trans (tlt (own_neg (own_jr4 (own_plj4 hk104a)))).2.1) ?_
      show Steps p.tables e below (T102.setTop (mkF m 74 #[vR a1, vI u1, vI (-(j102 + (1 : Int32)))] [])) _
      exact X102.returnOut hx Bd.returns (hb hby dc26_74) hr
    · show Q_re Z a1 u1 i1 [t0, t1, t2, t3] [a1, b1] h0 n0 _ T102.heap _
      rw [hh102]
      exact ⟨rfl, N102, (Keep.refl h0 [a1, b1]), [t0, t1, t2, t3], _, ⟨Ea, ga, Fc, Nat.le_succ_of_le hi, Or.inl ⟨b1, rfl, gb, neab, Fn, Fb, ⟨_, Or.inr (Or.inr (Or.inr (Or.inr (Or.inr (Or.inr (Or.inr (⟨_, _, _, _, rfl, Vb⟩)))))))⟩, hs⟩⟩, fun x => ⟨fun q => ⟨fun z => own_not4 hs hk104a (z ▸ q), q⟩, And.right⟩, own_w2 (Or.inl rfl)⟩
theorem rmAdE (l : Launch) (Z : State) (a0 : Array Value) (hw : HwT a0 Z) (ws : List Jvm.Cond) (a1 : Addr) (u1 : Int32) (i1 : Nat) (l1 : List Int32) (w1 : List Addr) (h0 : Heap) (n0 : Nat) (O0 : Old Z n0 h0) (U0 : Us Z h0 n0 a1 i1 l1 w1) (hi3 : i1 ≤ 3) (hu : own_r u1) (SB : Sta Z Z.heap sB "$assertionsDisabled" "Z" (.int (1 : Int32))) :
    Mt l Z y_25 prog_25_method_5_code 5 none ws ({ frames := 6, cells := 3, slots := 6, locals := 91 } : Room) #[(.ref a1), (.int u1)] h0 (Q_ad Z a1 u1 i1 l1 w1 h0 n0) := by
  have hi4 : i1 ≤ 4 := by omega
  obtain ⟨Ea, ga, Fc, hl, q⟩ := U0
  rcases q with ⟨b1, rfl, gb, neab, Fn, Fb, ⟨kb, nb⟩, hs⟩ | ⟨c1, d1, m0, m1, rfl, gc, gd, neac, nead, Fn, Fb, F1, mk, nd, hr, lv⟩
  · rcases nb with ⟨t0, rfl, Vb⟩ | ⟨t0, t1, rfl, Vb⟩ | ⟨t0, rfl, Vb⟩ | ⟨t0, t1, rfl, Vb⟩ | ⟨t0, t1, rfl, Vb⟩ | ⟨t0, t1, t2, t3, rfl, Vb⟩ | ⟨t0, t1, t2, t3, rfl, Vb⟩ | ⟨t0, t1, t2, t3, rfl, Vb⟩
    · exact Mt.weak (rmAd01 l Z a0 hw ws a1 b1 kb t0 u1 i1 h0 n0 O0 Ea Fn Fb Fc ga Vb neab gb hs hl hi4 hu SB) (fun _ _ _ q => q) (by decide) (by decide) (by decide) (by decide)
    · exact Mt.weak (rmAd02 l Z a0 hw ws a1 b1 kb t0 t1 u1 i1 h0 n0 O0 Ea Fn Fb Fc ga Vb neab gb hs hl hi4 hu SB) (fun _ _ _ q => q) (by decide) (by decide) (by decide) (by decide)
    · exact Mt.weak (rmAd11 l Z a0 hw ws a1 b1 kb t0 u1 i1 h0 n0 O0 Ea Fn Fb Fc ga Vb neab gb hs hl hi4 hu SB) (fun _ _ _ q => q) (by decide) (by decide) (by decide) (by decide)
    · exact Mt.weak (rmAd12 l Z a0 hw ws a1 b1 kb t0 t1 u1 i1 h0 n0 O0 Ea Fn Fb Fc ga Vb neab gb hs hl hi4 hu SB) (fun _ _ _ q => q) (by decide) (by decide) (by decide) (by decide)
    · exact Mt.weak (rmAd22 l Z a0 hw ws a1 b1 kb t0 t1 u1 i1 h0 n0 O0 Ea Fn Fb Fc ga Vb neab gb hs hl hi4 hu SB) (fun _ _ _ q => q) (by decide) (by decide) (by decide) (by decide)
    · exact Mt.weak (rmAd24 l Z a0 hw ws a1 b1 kb t0 t1 t2 t3 u1 i1 h0 n0 O0 Ea Fn Fb Fc ga Vb neab gb hs hl hi4 hu SB) (fun _ _ _ q => q) (by decide) (by decide) (by decide) (by decide)
    · exact Mt.weak (rmAd34 l Z a0 hw ws a1 b1 kb t0 t1 t2 t3 u1 i1 h0 n0 O0 Ea Fn Fb Fc ga Vb neab gb hs hl hi4 hu SB) (fun _ _ _ q => q) (by decide) (by decide) (by decide) (by decide)
    · simp only [List.length_cons, List.length_nil] at hl; omega
  · skip
    have hA : ¬ (m0 = (0 : Int64) ∧ m1 = (0 : Int64)) := by
      have two := lv.two hi4
      obtain ⟨x, t, e⟩ : ∃ x t, l1 = x :: t := by
        cases l1 with
        | nil => simp at two
        | cons x t => exact ⟨x, t, rfl⟩
      exact mk.cons (hr x (by rw [e]; simp)) (by rw [e]; simp)
    refine Mt.weak (rmAb l Z a0 hw ws a1 c1 d1 _ u1 m0 m1 h0 n0 O0 Ea Fn Fb Fc ga (F1.mono (fun q => by omega)) hA gc gd neac nead hu SB) ?_ (by decide) (by decide) (by decide) (by decide)
    rintro v h L ⟨rfl, N, K, Ea2, Fn2, Fb2, d2, hd, gd2, q⟩
    have ned : a1 ≠ d2 := by
      rcases hd with q | q
      · rw [q]; exact nead
      · exact Nat.ne_of_lt (Nat.lt_of_lt_of_le Ea.lt q)
    refine ⟨rfl, N, K, ?_⟩
    rcases q with ⟨qi, Fc2, B2⟩ | ⟨qi, Fc2, B2⟩
    · exact ⟨l1, _, ⟨Ea2, ga, Fc2, Nat.le_succ_of_le hl, Or.inr ⟨c1, d2, m0, m1, rfl, gc, gd2, neac, ned, Fn2, Fb2, B2.mono (fun q => q.elim), mk, nd, hr, lv.same hi4⟩⟩, fun x => ⟨Or.inr, fun q => q.elim (fun z => z ▸ (mk u1 hu).mp qi) id⟩, own_w3 hd⟩
    · rw [own_ofS (by omega)] at Fc2
      exact ⟨u1 :: l1, _, ⟨Ea2, ga, Fc2, Nat.succ_le_succ hl, Or.inr ⟨c1, d2, _, _, rfl, gc, gd2, neac, ned, Fn2, Fb2, B2.mono (fun q => q.elim), Mk.add hu mk (fun x => List.mem_cons), List.nodup_cons.mpr ⟨fun z => qi ((mk u1 hu).mpr z), nd⟩, fun x hx => (List.mem_cons.mp hx).elim (fun z => z ▸ hu) (hr x), lv.add hi4⟩⟩, fun x => List.mem_cons, own_w3 hd⟩
theorem rmAdL (l : Launch) (Z : State) (a0 : Array Value) (hw : HwT a0 Z) (ws : List Jvm.Cond) (a1 : Addr) (u1 : Int32) (i1 : Nat) (l1 : List Int32) (w1 : List Addr) (h0 : Heap) (n0 : Nat) (O0 : Old Z n0 h0) (U0 : Us Z h0 n0 a1 i1 l1 w1) (hi4 : i1 ≤ 4) (hu : own_r u1) (SB : Sta Z Z.heap sB "$assertionsDisabled" "Z" (.int (1 : Int32))) :
    Mt l Z y_25 prog_25_method_5_code 5 none ws ({ frames := 6, cells := 7, slots := 14, locals := 91 } : Room) #[(.ref a1), (.int u1)] h0 (Q_ad Z a1 u1 i1 l1 w1 h0 n0) := by
  obtain ⟨Ea, ga, Fc, hl, q⟩ := U0
  rcases q with ⟨b1, rfl, gb, neab, Fn, Fb, ⟨kb, nb⟩, hs⟩ | ⟨c1, d1, m0, m1, rfl, gc, gd, neac, nead, Fn, Fb, F1, mk, nd, hr, lv⟩
  · rcases nb with ⟨t0, rfl, Vb⟩ | ⟨t0, t1, rfl, Vb⟩ | ⟨t0, rfl, Vb⟩ | ⟨t0, t1, rfl, Vb⟩ | ⟨t0, t1, rfl, Vb⟩ | ⟨t0, t1, t2, t3, rfl, Vb⟩ | ⟨t0, t1, t2, t3, rfl, Vb⟩ | ⟨t0, t1, t2, t3, rfl, Vb⟩
    · exact Mt.weak (rmAd01 l Z a0 hw ws a1 b1 kb t0 u1 i1 h0 n0 O0 Ea Fn Fb Fc ga Vb neab gb hs hl hi4 hu SB) (fun _ _ _ q => q) (by decide) (by decide) (by decide) (by decide)
    · exact Mt.weak (rmAd02 l Z a0 hw ws a1 b1 kb t0 t1 u1 i1 h0 n0 O0 Ea Fn Fb Fc ga Vb neab gb hs hl hi4 hu SB) (fun _ _ _ q => q) (by decide) (by decide) (by decide) (by decide)
    · exact Mt.weak (rmAd11 l Z a0 hw ws a1 b1 kb t0 u1 i1 h0 n0 O0 Ea Fn Fb Fc ga Vb neab gb hs hl hi4 hu SB) (fun _ _ _ q => q) (by decide) (by decide) (by decide) (by decide)
    · exact Mt.weak (rmAd12 l Z a0 hw ws a1 b1 kb t0 t1 u1 i1 h0 n0 O0 Ea Fn Fb Fc ga Vb neab gb hs hl hi4 hu SB) (fun _ _ _ q => q) (by decide) (by decide) (by decide) (by decide)
    · exact Mt.weak (rmAd22 l Z a0 hw ws a1 b1 kb t0 t1 u1 i1 h0 n0 O0 Ea Fn Fb Fc ga Vb neab gb hs hl hi4 hu SB) (fun _ _ _ q => q) (by decide) (by decide) (by decide) (by decide)
    · exact Mt.weak (rmAd24 l Z a0 hw ws a1 b1 kb t0 t1 t2 t3 u1 i1 h0 n0 O0 Ea Fn Fb Fc ga Vb neab gb hs hl hi4 hu SB) (fun _ _ _ q => q) (by decide) (by decide) (by decide) (by decide)
    · exact Mt.weak (rmAd34 l Z a0 hw ws a1 b1 kb t0 t1 t2 t3 u1 i1 h0 n0 O0 Ea Fn Fb Fc ga Vb neab gb hs hl hi4 hu SB) (fun _ _ _ q => q) (by decide) (by decide) (by decide) (by decide)
    · exact Mt.weak (rmAd44 l Z a0 hw ws a1 b1 kb t0 t1 t2 t3 u1 i1 h0 n0 O0 Ea Fn Fb Fc ga Vb neab gb hs hl hi4 hu SB) (fun _ _ _ q => q) (by decide) (by decide) (by decide) (by decide)
  · skip
    have hA : ¬ (m0 = (0 : Int64) ∧ m1 = (0 : Int64)) := by
      have two := lv.two hi4
      obtain ⟨x, t, e⟩ : ∃ x t, l1 = x :: t := by
        cases l1 with
        | nil => simp at two
        | cons x t => exact ⟨x, t, rfl⟩
      exact mk.cons (hr x (by rw [e]; simp)) (by rw [e]; simp)
    refine Mt.weak (rmAb l Z a0 hw ws a1 c1 d1 _ u1 m0 m1 h0 n0 O0 Ea Fn Fb Fc ga (F1.mono (fun q => by omega)) hA gc gd neac nead hu SB) ?_ (by decide) (by decide) (by decide) (by decide)
    rintro v h L ⟨rfl, N, K, Ea2, Fn2, Fb2, d2, hd, gd2, q⟩
    have ned : a1 ≠ d2 := by
      rcases hd with q | q
      · rw [q]; exact nead
      · exact Nat.ne_of_lt (Nat.lt_of_lt_of_le Ea.lt q)
    refine ⟨rfl, N, K, ?_⟩
    rcases q with ⟨qi, Fc2, B2⟩ | ⟨qi, Fc2, B2⟩
    · exact ⟨l1, _, ⟨Ea2, ga, Fc2, Nat.le_succ_of_le hl, Or.inr ⟨c1, d2, m0, m1, rfl, gc, gd2, neac, ned, Fn2, Fb2, B2.mono (fun q => q.elim), mk, nd, hr, lv.same hi4⟩⟩, fun x => ⟨Or.inr, fun q => q.elim (fun z => z ▸ (mk u1 hu).mp qi) id⟩, own_w3 hd⟩
    · rw [own_ofS (by omega)] at Fc2
      exact ⟨u1 :: l1, _, ⟨Ea2, ga, Fc2, Nat.succ_le_succ hl, Or.inr ⟨c1, d2, _, _, rfl, gc, gd2, neac, ned, Fn2, Fb2, B2.mono (fun q => q.elim), Mk.add hu mk (fun x => List.mem_cons), List.nodup_cons.mpr ⟨fun z => qi ((mk u1 hu).mpr z), nd⟩, fun x hx => (List.mem_cons.mp hx).elim (fun z => z ▸ hu) (hr x), lv.add hi4⟩⟩, fun x => List.mem_cons, own_w3 hd⟩
theorem rmRe (l : Launch) (Z : State) (a0 : Array Value) (hw : HwT a0 Z) (ws : List Jvm.Cond) (a1 : Addr) (u1 : Int32) (i1 : Nat) (l1 : List Int32) (w1 : List Addr) (h0 : Heap) (n0 : Nat) (O0 : Old Z n0 h0) (U0 : Us Z h0 n0 a1 i1 l1 w1) (hi4 : i1 ≤ 4) (hu : own_r u1) (SB : Sta Z Z.heap sB "$assertionsDisabled" "Z" (.int (1 : Int32))) :
    Mt l Z y_26 prog_25_method_6_code 3 none ws ({ frames := 3, cells := 1, slots := 2, locals := 47 } : Room) #[(.ref a1), (.int u1)] h0 (Q_re Z a1 u1 i1 l1 w1 h0 n0) := by
  obtain ⟨Ea, ga, Fc, hl, q⟩ := U0
  rcases q with ⟨b1, rfl, gb, neab, Fn, Fb, ⟨kb, nb⟩, hs⟩ | ⟨c1, d1, m0, m1, rfl, gc, gd, neac, nead, Fn, Fb, F1, mk, nd, hr, lv⟩
  · rcases nb with ⟨t0, rfl, Vb⟩ | ⟨t0, t1, rfl, Vb⟩ | ⟨t0, rfl, Vb⟩ | ⟨t0, t1, rfl, Vb⟩ | ⟨t0, t1, rfl, Vb⟩ | ⟨t0, t1, t2, t3, rfl, Vb⟩ | ⟨t0, t1, t2, t3, rfl, Vb⟩ | ⟨t0, t1, t2, t3, rfl, Vb⟩
    · exact Mt.weak (rmRe01 l Z a0 hw ws a1 b1 kb t0 u1 i1 h0 n0 O0 Ea Fn Fb Fc ga Vb neab gb hs hl hi4 hu SB) (fun _ _ _ q => q) (by decide) (by decide) (by decide) (by decide)
    · exact Mt.weak (rmRe02 l Z a0 hw ws a1 b1 kb t0 t1 u1 i1 h0 n0 O0 Ea Fn Fb Fc ga Vb neab gb hs hl hi4 hu SB) (fun _ _ _ q => q) (by decide) (by decide) (by decide) (by decide)
    · exact Mt.weak (rmRe11 l Z a0 hw ws a1 b1 kb t0 u1 i1 h0 n0 O0 Ea Fn Fb Fc ga Vb neab gb hs hl hi4 hu SB) (fun _ _ _ q => q) (by decide) (by decide) (by decide) (by decide)
    · exact Mt.weak (rmRe12 l Z a0 hw ws a1 b1 kb t0 t1 u1 i1 h0 n0 O0 Ea Fn Fb Fc ga Vb neab gb hs hl hi4 hu SB) (fun _ _ _ q => q) (by decide) (by decide) (by decide) (by decide)
    · exact Mt.weak (rmRe22 l Z a0 hw ws a1 b1 kb t0 t1 u1 i1 h0 n0 O0 Ea Fn Fb Fc ga Vb neab gb hs hl hi4 hu SB) (fun _ _ _ q => q) (by decide) (by decide) (by decide) (by decide)
    · exact Mt.weak (rmRe24 l Z a0 hw ws a1 b1 kb t0 t1 t2 t3 u1 i1 h0 n0 O0 Ea Fn Fb Fc ga Vb neab gb hs hl hi4 hu SB) (fun _ _ _ q => q) (by decide) (by decide) (by decide) (by decide)
    · exact Mt.weak (rmRe34 l Z a0 hw ws a1 b1 kb t0 t1 t2 t3 u1 i1 h0 n0 O0 Ea Fn Fb Fc ga Vb neab gb hs hl hi4 hu SB) (fun _ _ _ q => q) (by decide) (by decide) (by decide) (by decide)
    · exact Mt.weak (rmRe44 l Z a0 hw ws a1 b1 kb t0 t1 t2 t3 u1 i1 h0 n0 O0 Ea Fn Fb Fc ga Vb neab gb hs hl hi4 hu SB) (fun _ _ _ q => q) (by decide) (by decide) (by decide) (by decide)
  · skip
    have hA : ¬ (m0 = (0 : Int64) ∧ m1 = (0 : Int64)) := by
      have two := lv.two hi4
      obtain ⟨x, t, e⟩ : ∃ x t, l1 = x :: t := by
        cases l1 with
        | nil => simp at two
        | cons x t => exact ⟨x, t, rfl⟩
      exact mk.cons (hr x (by rw [e]; simp)) (by rw [e]; simp)
    have mkd : own_in u1 m0 m1 → Mk (l1.erase u1) (own_c0 u1 m0) (own_c1 u1 m1) := fun _ => Mk.del hu mk (own_erase nd u1)
    have hne : own_in u1 m0 m1 → ¬ (own_c0 u1 m0 = (0 : Int64) ∧ own_c1 u1 m1 = (0 : Int64)) := fun qi => by
      have two := lv.two hi4
      have e := List.length_erase_of_mem ((mk u1 hu).mp qi)
      obtain ⟨x, hx⟩ := List.exists_mem_of_length_pos (l := l1.erase u1) (by omega)
      exact (mkd qi).cons (hr x (List.mem_of_mem_erase hx)) hx
    refine Mt.weak (rmRb l Z a0 hw ws a1 c1 d1 _ u1 m0 m1 h0 n0 O0 Ea Fn Fb Fc ga (F1.mono (fun q => by omega)) hA gc gd neac nead hu hne (fun _ => own_hcmp rfl hl hi4 lv mk hr hu) SB) ?_ (by decide) (by decide) (by decide) (by decide)
    rintro v h L ⟨rfl, N, K, Ea2, Fn2, Fb2, d2, hd, gd2, q⟩
    have ned : a1 ≠ d2 := by
      rcases hd with q | q
      · rw [q]; exact nead
      · exact Nat.ne_of_lt (Nat.lt_of_lt_of_le Ea.lt q)
    refine ⟨rfl, N, K, ?_⟩
    rcases q with ⟨qi, Fc2, B2⟩ | ⟨qi, Fc2, B2⟩
    · exact ⟨l1, _, ⟨Ea2, ga, Fc2, Nat.le_succ_of_le hl, Or.inr ⟨c1, d2, m0, m1, rfl, gc, gd2, neac, ned, Fn2, Fb2, B2.mono (fun q => q.elim), mk, nd, hr, lv.same hi4⟩⟩, fun x => ⟨fun q => ⟨fun z => qi ((mk u1 hu).mpr (z ▸ q)), q⟩, And.right⟩, own_w3 hd⟩
    · have hm := (mk u1 hu).mp qi
      have e := List.length_erase_of_mem hm
      have two := lv.two hi4
      rw [own_ofN (by omega) (by omega), ← e] at Fc2
      refine ⟨l1.erase u1, _, ⟨Ea2, ga, Fc2, by omega, Or.inr ⟨c1, d2, _, _, rfl, gc, gd2, neac, ned, Fn2, Fb2, B2.mono (fun q => ?_), mkd qi, nd.erase u1, fun x hx => hr x (List.mem_of_mem_erase hx), lv.del hi4 hm⟩⟩, own_erase nd u1, own_w3 hd⟩
      rcases lv with ⟨rfl, _, z⟩ | ⟨rfl, _⟩ | ⟨rfl, _⟩
      · exact absurd (z u1 hm) q
      · rfl
      · omega
def Q_st (Z : State) (a1 b2 : Addr) (i1 : Nat) (h0 : Heap) (n0 : Nat) (v : Option Value) (h : Heap) (L : List Loc) : Prop := v = some (.int (1 : Int32)) ∧ Fr n0 L ∧ Old Z n0 h ∧ ∃ (l2 : List Int32) (w2 : List Addr) (k2 : ClassId) (m0 m1 : Int64), Us Z h n0 a1 (i1 + 1) l2 w2 ∧ Arv Z h b2 k2 .long (2 : Int32) [(.long m0), (.long m1)] (.long (0 : Int64)) ∧ Mk l2 m0 m1 ∧ b2 ∉ w2
theorem own_bb2 (u : Int32) : ((1 : Int64) <<< ((u &&& (63 : Int32)) &&& 0x3f).toInt64) = own_bt u := by
  unfold own_bt; rw [Int32.and_assoc]; rfl
theorem own_127 (x : Int32) : own_r (x &&& (127 : Int32)) := by
  have h := c_mask x 127 7 (by decide) (by decide); unfold own_r; omega
theorem Srt.rng : ∀ {l1 : List Int32}, Srt l1 → ∀ x ∈ l1, own_r x
  | [], _ => fun x hx => nomatch hx
  | [y], hs => fun x hx => by rw [List.mem_singleton.mp hx]; exact hs
  | y :: z :: t, hs => fun x hx => by
    rcases List.mem_cons.mp hx with q | q
    · rw [q]; exact hs.1
    · exact Srt.rng hs.2.2 x q
theorem Us.rng {Z : State} {h : Heap} {n0 : Nat} {a1 : Addr} {i1 : Nat} {l1 : List Int32} {w1 : List Addr} (F : Us Z h n0 a1 i1 l1 w1) : ∀ x ∈ l1, own_r x := by
  obtain ⟨-, -, -, -, q⟩ := F
  rcases q with ⟨b1, -, -, -, -, -, -, hs⟩ | ⟨c1, d1, m0, m1, -, -, -, -, -, -, -, -, -, -, hr, -⟩
  · exact hs.rng
  · exact hr
theorem Us.kp {Z : State} {h h' : Heap} {n0 : Nat} {a1 : Addr} {i1 : Nat} {l1 : List Int32} {w1 ws : List Addr} (F : Us Z h n0 a1 i1 l1 w1) (K : Keep h h' ws) (q : ∀ x ∈ w1, x ∉ ws) : Us Z h' n0 a1 i1 l1 w1 := by
  obtain ⟨E, ga, C, hl, r⟩ := F
  rcases r with ⟨b1, rfl, gb, ne, Fn, Fb, ⟨kb, nb⟩, hs⟩ | ⟨c1, d1, m0, m1, rfl, gc, gd, n1, n2, Fn, Fb, B, r⟩
  · have qa := q a1 (by simp); have qb := q b1 (by simp)
    refine ⟨E.keep K, ga, C.keep K qa, hl, Or.inl ⟨b1, rfl, gb, ne, Fn.keep K qa, Fb.keep K qa, ⟨kb, ?_⟩, hs⟩⟩
    rcases nb with ⟨t0, e, Vb⟩ | ⟨t0, t1, e, Vb⟩ | ⟨t0, e, Vb⟩ | ⟨t0, t1, e, Vb⟩ | ⟨t0, t1, e, Vb⟩ | ⟨t0, t1, t2, t3, e, Vb⟩ | ⟨t0, t1, t2, t3, e, Vb⟩ | ⟨t0, t1, t2, t3, e, Vb⟩
    · exact Or.inl ⟨_, e, Vb.keep K qb⟩
    · exact Or.inr (Or.inl ⟨_, _, e, Vb.keep K qb⟩)
    · exact Or.inr (Or.inr (Or.inl ⟨_, e, Vb.keep K qb⟩))
    · exact Or.inr (Or.inr (Or.inr (Or.inl ⟨_, _, e, Vb.keep K qb⟩)))
    · exact Or.inr (Or.inr (Or.inr (Or.inr (Or.inl ⟨_, _, e, Vb.keep K qb⟩))))
    · exact Or.inr (Or.inr (Or.inr (Or.inr (Or.inr (Or.inl ⟨_, _, _, _, e, Vb.keep K qb⟩)))))
    · exact Or.inr (Or.inr (Or.inr (Or.inr (Or.inr (Or.inr (Or.inl ⟨_, _, _, _, e, Vb.keep K qb⟩))))))
    · exact Or.inr (Or.inr (Or.inr (Or.inr (Or.inr (Or.inr (Or.inr (⟨_, _, _, _, e, Vb.keep K qb⟩)))))))
  · have qa := q a1 (by simp); have qc := q c1 (by simp); have qd := q d1 (by simp)
    exact ⟨E.keep K, ga, C.keep K qa, hl, Or.inr ⟨c1, d1, m0, m1, rfl, gc, gd, n1, n2, Fn.keep K qa, Fb.keep K qa, B.kp K qc qd, r⟩⟩
abbrev C27 := method_3_code
theorem dc27_66 : decode C27 66 = .ok (.aload_n 1, 1) := by decide +kernel
theorem dc27_67 : decode C27 67 = .ok (.iconst 0, 1) := by decide +kernel
theorem dc27_68 : decode C27 68 = .ok (.laload, 1) := by decide +kernel
theorem dc27_69 : decode C27 69 = .ok (.lconst 0, 1) := by decide +kernel
theorem dc27_70 : decode C27 70 = .ok (.lcmp, 1) := by decide +kernel
theorem dc27_71 : decode C27 71 = .ok (.ifCond .ne 15, 3) := by decide +kernel
theorem dc27_74 : decode C27 74 = .ok (.aload_n 1, 1) := by decide +kernel
theorem dc27_75 : decode C27 75 = .ok (.iconst 1, 1) := by decide +kernel
theorem dc27_76 : decode C27 76 = .ok (.laload, 1) := by decide +kernel
theorem dc27_77 : decode C27 77 = .ok (.lconst 0, 1) := by decide +kernel
theorem dc27_78 : decode C27 78 = .ok (.lcmp, 1) := by decide +kernel
theorem dc27_79 : decode C27 79 = .ok (.ifCond .ne 7, 3) := by decide +kernel
theorem dc27_82 : decode C27 82 = .ok (.iconst 1, 1) := by decide +kernel
theorem dc27_83 : decode C27 83 = .ok (.goto 4, 3) := by decide +kernel
theorem dc27_87 : decode C27 87 = .ok (.istore 7, 2) := by decide +kernel
theorem dc27_89 : decode C27 89 = .ok (.aload_n 0, 1) := by decide +kernel
theorem dc27_90 : decode C27 90 = .ok (.invokevirtual 10, 3) := by decide +kernel
theorem pd_12 : parseMethodDescriptor "()Z" = some ⟨[], some .boolean⟩ := by decide +kernel
theorem dc27_93 : decode C27 93 = .ok (.iload 7, 2) := by decide +kernel
theorem dc27_95 : decode C27 95 = .ok (.if_icmp .ne 7, 3) := by decide +kernel
theorem dc27_98 : decode C27 98 = .ok (.iconst 1, 1) := by decide +kernel
theorem dc27_99 : decode C27 99 = .ok (.goto 4, 3) := by decide +kernel
theorem dc27_86 : decode C27 86 = .ok (.iconst 0, 1) := by decide +kernel
theorem stT {p : Program} {l : Launch} {e : Env} {R : Room} {s : State} {m : MethodId} {args : Array Value} {below : List Frame} {meth : Method} {c : Code} {Z : State} {a0 : Array Value} {n0 : Nat} {cells slots : Nat} {st0 : State} (hx : p.tables.exec = Jvm.exec) (hZ : Z.Warmed39 s.vm) (hw : ∀ d ∈ tables_1, d.before a0 Z = true) (hby : c.code = method_3_code) (hml : c.maxLocals = 8) (hown : s.vm.findClass "com/example/corral/corral/ownership/UnitsIsEmptyPinLaw" = some m.cls) {h0 : Heap} (s2 s3 s4 s5 s6 : Slot) (a1 b2 : Addr) (km : ClassId) (x0 x1 : Int64) (i2 : Nat) (l2 : List Int32) (w2 : List Addr) (G0 : Rc p l e R s m args below meth c n0 Z cells slots st0 (mkF m 66 #[vR a1, vR b2, s2, s3, s4, s5, s6, .unset] []) h0) (Uz : Us Z h0 n0 a1 i2 l2 w2) (hi : i2 ≤ 5) (Vm : Arv Z h0 b2 km .long (2 : Int32) [(.long x0), (.long x1)] (.long (0 : Int64))) (mk2 : Mk l2 x0 x1) (hRf : 1 ≤ R.frames) (hRl : 40 ≤ R.locals) (hRc : cells ≤ R.cells) (hRs : slots ≤ R.slots) :
    ∃ z7 : Int32, Rc p l e R s m args below meth c n0 Z cells slots st0 (mkF m 103 #[vR a1, vR b2, s2, s3, s4, s5, s6, vI z7] [(.int (1 : Int32))]) h0 := by
  obtain ⟨T0, L0, X0, e0, N0, O0, pre0⟩ := G0
  obtain ⟨cl101, Ar101, q101, S101, N101_, H101, G101⟩ := id Vm
  have hin101 : ¬ ((0 : Int32) < 0 ∨ cl101.slots.size ≤ ((0 : Int32)).toNatClampNeg) := inb_of S101 ⟨by decide, by decide⟩
  have hat101 : cl101.slots[((0 : Int32)).toNatClampNeg]? = some (.long x0) := H101.at hin101 rfl
  have pre102 : ∀ t, Steps p.tables e below (T0.setTop (mkF m 71 #[vR a1, vR b2, s2, s3, s4, s5, s6, .unset] [(.int (lcmpW x0 (0 : Int64)))])) t → Steps p.tables e below (st0) t := fun t kt => pre0 t (by
      show Steps p.tables e below (T0.setTop (mkF m 66 #[vR a1, vR b2, s2, s3, s4, s5, s6, .unset] [])) _
      refine XS.aloadN X0.here hx rfl (hb hby dc27_66) rfl rfl ?_
      refine XS.iconst X0.here hx rfl (hb hby dc27_67) ?_
      refine X0.laload hx (j := (0 : Int32)) (v := (.long x0)) (by rw [e0]; exact Ar101.1) (State.isArrayOf_alike hZ.alike Ar101.2.1) Ar101.2.2 hin101 hat101 (g := (mkF m 68 #[vR a1, vR b2, s2, s3, s4, s5, s6, .unset] [(.int (0 : Int32)), (.ref b2)])) rfl rfl (hb hby dc27_68) _ ?_
      refine XS.lconst X0.here hx rfl (hb hby dc27_69) ?_
      refine XS.lcmp X0.here hx rfl (hb hby dc27_70) rfl ?_
      exact kt)
  by_cases hc103 : x0 = (0 : Int64)
  · skip
    obtain ⟨cl104, Ar104, q104, S104, N104_, H104, G104⟩ := id Vm
    have hin104 : ¬ ((1 : Int32) < 0 ∨ cl104.slots.size ≤ ((1 : Int32)).toNatClampNeg) := inb_of S104 ⟨by decide, by decide⟩
    have hat104 : cl104.slots[((1 : Int32)).toNatClampNeg]? = some (.long x1) := H104.at hin104 rfl
    have pre105 : ∀ t, Steps p.tables e below (T0.setTop (mkF m 79 #[vR a1, vR b2, s2, s3, s4, s5, s6, .unset] [(.int (lcmpW x1 (0 : Int64)))])) t → Steps p.tables e below (st0) t := fun t kt => pre102 t (by
        show Steps p.tables e below (T0.setTop (mkF m 71 #[vR a1, vR b2, s2, s3, s4, s5, s6, .unset] [(.int (lcmpW x0 (0 : Int64)))])) _
        refine XS.ifNo X0.here hx rfl (hb hby dc27_71) rfl ((if0 _ _).trans (teq ((lw_eq _ _).mpr hc103)).2) ?_
        refine XS.aloadN X0.here hx rfl (hb hby dc27_74) rfl rfl ?_
        refine XS.iconst X0.here hx rfl (hb hby dc27_75) ?_
        refine X0.laload hx (j := (1 : Int32)) (v := (.long x1)) (by rw [e0]; exact Ar104.1) (State.isArrayOf_alike hZ.alike Ar104.2.1) Ar104.2.2 hin104 hat104 (g := (mkF m 76 #[vR a1, vR b2, s2, s3, s4, s5, s6, .unset] [(.int (1 : Int32)), (.ref b2)])) rfl rfl (hb hby dc27_76) _ ?_
        refine XS.lconst X0.here hx rfl (hb hby dc27_77) ?_
        show Steps p.tables e below (T0.setTop (mkF m 78 #[vR a1, vR b2, s2, s3, s4, s5, s6, .unset] [(.long (0 : Int64)), (.long x1)])) _
        refine XS.lcmp X0.here hx rfl (hb hby dc27_78) rfl ?_
        exact kt)
    by_cases hc106 : x1 = (0 : Int64)
    · skip
      have he107 : Int32.ofNat l2.length = (0 : Int32) := by
        refine (own_c00 (by have := Uz.2.2.2.1; omega)).mpr ?_
        cases hl : l2 with
        | nil => rfl
        | cons x t =>
          rw [hl] at mk2
          exact absurd ⟨hc103, hc106⟩ (mk2.cons (Uz.rng x (by rw [hl]; simp)) (by simp))
      obtain ⟨cq108, kq108, q108a, q108b, q108c⟩ := isOf hZ e0 Uz.1
      obtain ⟨_, _, ⟨T108, L108, k108, n108⟩, -, X108, ⟨Lc108, hQ108, l108, y108, z108⟩, st108⟩ := X0.virtualBack hx (y := y_23) (z := y_23) hown (mvT hZ (wq hw 13 rfl)) (mvT hZ (wq hw 14 rfl)) (notFace_of_selects (args := #[]) (mvT hZ (wq hw 16 rfl))) (mvT hZ (wq hw 16 rfl)) (mvT hZ (wq hw 15 rfl)) (by decide) (backOf (W := 0) (rmEm1 l Z a0 hw [] a1 (Int32.ofNat l2.length) h0 n0 O0 Uz.cnt he107) hZ (wq hw 17 rfl) (wq hw 2 rfl) (Nat.le_trans (by decide) hRf) (Nat.le_trans (by decide) hRl)) q108a q108c (g := (mkF m 90 #[vR a1, vR b2, s2, s3, s4, s5, s6, vI (1 : Int32)] [(.ref a1)])) rfl (by rw [hml]; rfl) (Steps.refl _) (argsL := []) (rest := []) (lenOf pd_12 rfl) rfl (by show 2 * 0 + _ ≤ _; exact Nat.le_of_eq rfl) (hb hby dc27_90) (fun _ _ => ⟨rfl, e0, hRc, hRs⟩)
      dsimp only [Pt.U, Pt.locs, Pt.cells, Pt.slots] at X108 l108 y108 z108 st108 hQ108
      subst l108 y108 z108
      obtain ⟨rfl, N108q, hh108⟩ := hQ108
      have N108 := Fr.app N0 N108q
      have pre109 : ∀ t, Steps p.tables e below (T108.setTop (mkF m 103 #[vR a1, vR b2, s2, s3, s4, s5, s6, vI (1 : Int32)] [(.int (1 : Int32))])) t → Steps p.tables e below (st0) t := fun t kt => pre105 t (by
          show Steps p.tables e below (T0.setTop (mkF m 79 #[vR a1, vR b2, s2, s3, s4, s5, s6, .unset] [(.int (lcmpW x1 (0 : Int64)))])) _
          refine XS.ifNo X0.here hx rfl (hb hby dc27_79) rfl ((if0 _ _).trans (teq ((lw_eq _ _).mpr hc106)).2) ?_
          refine XS.iconst X0.here hx rfl (hb hby dc27_82) ?_
          refine XS.goto X0.here hx rfl (pc0 := 83) (pc' := 87) rfl (hb hby dc27_83) (by decide) (by decide) ?_
          refine XS.istore X0.here hx rfl (hb hby dc27_87) rfl (l' := #[vR a1, vR b2, s2, s3, s4, s5, s6, vI (1 : Int32)]) rfl ?_
          refine XS.aloadN X0.here hx rfl (hb hby dc27_89) rfl rfl ?_
          refine st108.trans ?_
          refine XS.iload X108.here hx rfl (hb hby dc27_93) rfl ?_
          refine XS.icmpNo X108.here hx rfl (hb hby dc27_95) rfl (by decide) ?_
          refine XS.iconst X108.here hx rfl (hb hby dc27_98) ?_
          refine XS.goto X108.here hx rfl (pc0 := 99) (pc' := 103) rfl (hb hby dc27_99) (by decide) (by decide) ?_
          exact kt)
      exact ⟨(1 : Int32), ⟨_, _, X108, hh108, N108, O0, pre109⟩⟩
    · skip
      have he110 : ¬ Int32.ofNat l2.length = (0 : Int32) := fun q => by
        have e := (own_c00 (by have := Uz.2.2.2.1; omega)).mp q
        rw [e] at mk2; exact hc106 mk2.nil.2
      obtain ⟨cq111, kq111, q111a, q111b, q111c⟩ := isOf hZ e0 Uz.1
      obtain ⟨_, _, ⟨T111, L111, k111, n111⟩, -, X111, ⟨Lc111, hQ111, l111, y111, z111⟩, st111⟩ := X0.virtualBack hx (y := y_23) (z := y_23) hown (mvT hZ (wq hw 13 rfl)) (mvT hZ (wq hw 14 rfl)) (notFace_of_selects (args := #[]) (mvT hZ (wq hw 16 rfl))) (mvT hZ (wq hw 16 rfl)) (mvT hZ (wq hw 15 rfl)) (by decide) (backOf (W := 0) (rmEm0 l Z a0 hw [] a1 (Int32.ofNat l2.length) h0 n0 O0 Uz.cnt he110) hZ (wq hw 17 rfl) (wq hw 2 rfl) (Nat.le_trans (by decide) hRf) (Nat.le_trans (by decide) hRl)) q111a q111c (g := (mkF m 90 #[vR a1, vR b2, s2, s3, s4, s5, s6, vI (0 : Int32)] [(.ref a1)])) rfl (by rw [hml]; rfl) (Steps.refl _) (argsL := []) (rest := []) (lenOf pd_12 rfl) rfl (by show 2 * 0 + _ ≤ _; exact Nat.le_of_eq rfl) (hb hby dc27_90) (fun _ _ => ⟨rfl, e0, hRc, hRs⟩)
      dsimp only [Pt.U, Pt.locs, Pt.cells, Pt.slots] at X111 l111 y111 z111 st111 hQ111
      subst l111 y111 z111
      obtain ⟨rfl, N111q, hh111⟩ := hQ111
      have N111 := Fr.app N0 N111q
      have pre112 : ∀ t, Steps p.tables e below (T111.setTop (mkF m 103 #[vR a1, vR b2, s2, s3, s4, s5, s6, vI (0 : Int32)] [(.int (1 : Int32))])) t → Steps p.tables e below (st0) t := fun t kt => pre105 t (by
          show Steps p.tables e below (T0.setTop (mkF m 79 #[vR a1, vR b2, s2, s3, s4, s5, s6, .unset] [(.int (lcmpW x1 (0 : Int64)))])) _
          refine XS.ifYes X0.here hx rfl (pc0 := 79) (pc' := 86) rfl (hb hby dc27_79) rfl ((if0 _ _).trans (feq (mt (lw_eq _ _).mp hc106)).2) (by decide) (by decide) ?_
          refine XS.iconst X0.here hx rfl (hb hby dc27_86) ?_
          refine XS.istore X0.here hx rfl (hb hby dc27_87) rfl (l' := #[vR a1, vR b2, s2, s3, s4, s5, s6, vI (0 : Int32)]) rfl ?_
          refine XS.aloadN X0.here hx rfl (hb hby dc27_89) rfl rfl ?_
          refine st111.trans ?_
          refine XS.iload X111.here hx rfl (hb hby dc27_93) rfl ?_
          refine XS.icmpNo X111.here hx rfl (hb hby dc27_95) rfl (by decide) ?_
          refine XS.iconst X111.here hx rfl (hb hby dc27_98) ?_
          refine XS.goto X111.here hx rfl (pc0 := 99) (pc' := 103) rfl (hb hby dc27_99) (by decide) (by decide) ?_
          exact kt)
      exact ⟨(0 : Int32), ⟨_, _, X111, hh111, N111, O0, pre112⟩⟩
  · skip
    have he113 : ¬ Int32.ofNat l2.length = (0 : Int32) := fun q => by
      have e := (own_c00 (by have := Uz.2.2.2.1; omega)).mp q
      rw [e] at mk2; exact hc103 mk2.nil.1
    obtain ⟨cq114, kq114, q114a, q114b, q114c⟩ := isOf hZ e0 Uz.1
    obtain ⟨_, _, ⟨T114, L114, k114, n114⟩, -, X114, ⟨Lc114, hQ114, l114, y114, z114⟩, st114⟩ := X0.virtualBack hx (y := y_23) (z := y_23) hown (mvT hZ (wq hw 13 rfl)) (mvT hZ (wq hw 14 rfl)) (notFace_of_selects (args := #[]) (mvT hZ (wq hw 16 rfl))) (mvT hZ (wq hw 16 rfl)) (mvT hZ (wq hw 15 rfl)) (by decide) (backOf (W := 0) (rmEm0 l Z a0 hw [] a1 (Int32.ofNat l2.length) h0 n0 O0 Uz.cnt he113) hZ (wq hw 17 rfl) (wq hw 2 rfl) (Nat.le_trans (by decide) hRf) (Nat.le_trans (by decide) hRl)) q114a q114c (g := (mkF m 90 #[vR a1, vR b2, s2, s3, s4, s5, s6, vI (0 : Int32)] [(.ref a1)])) rfl (by rw [hml]; rfl) (Steps.refl _) (argsL := []) (rest := []) (lenOf pd_12 rfl) rfl (by show 2 * 0 + _ ≤ _; exact Nat.le_of_eq rfl) (hb hby dc27_90) (fun _ _ => ⟨rfl, e0, hRc, hRs⟩)
    dsimp only [Pt.U, Pt.locs, Pt.cells, Pt.slots] at X114 l114 y114 z114 st114 hQ114
    subst l114 y114 z114
    obtain ⟨rfl, N114q, hh114⟩ := hQ114
    have N114 := Fr.app N0 N114q
    have pre115 : ∀ t, Steps p.tables e below (T114.setTop (mkF m 103 #[vR a1, vR b2, s2, s3, s4, s5, s6, vI (0 : Int32)] [(.int (1 : Int32))])) t → Steps p.tables e below (st0) t := fun t kt => pre102 t (by
        show Steps p.tables e below (T0.setTop (mkF m 71 #[vR a1, vR b2, s2, s3, s4, s5, s6, .unset] [(.int (lcmpW x0 (0 : Int64)))])) _
        refine XS.ifYes X0.here hx rfl (pc0 := 71) (pc' := 86) rfl (hb hby dc27_71) rfl ((if0 _ _).trans (feq (mt (lw_eq _ _).mp hc103)).2) (by decide) (by decide) ?_
        refine XS.iconst X0.here hx rfl (hb hby dc27_86) ?_
        refine XS.istore X0.here hx rfl (hb hby dc27_87) rfl (l' := #[vR a1, vR b2, s2, s3, s4, s5, s6, vI (0 : Int32)]) rfl ?_
        show Steps p.tables e below (T0.setTop (mkF m 89 #[vR a1, vR b2, s2, s3, s4, s5, s6, vI (0 : Int32)] [])) _
        refine XS.aloadN X0.here hx rfl (hb hby dc27_89) rfl rfl ?_
        refine st114.trans ?_
        refine XS.iload X114.here hx rfl (hb hby dc27_93) rfl ?_
        refine XS.icmpNo X114.here hx rfl (hb hby dc27_95) rfl (by decide) ?_
        refine XS.iconst X114.here hx rfl (hb hby dc27_98) ?_
        refine XS.goto X114.here hx rfl (pc0 := 99) (pc' := 103) rfl (hb hby dc27_99) (by decide) (by decide) ?_
        exact kt)
    exact ⟨(0 : Int32), ⟨_, _, X114, hh114, N114, O0, pre115⟩⟩
theorem own_wv {u : Int32} (h : own_r u) : (((u.toUInt32 >>> ((6 : Int32) &&& 31).toUInt32).toInt32) = (0 : Int32) ∧ u < (64 : Int32)) ∨ (((u.toUInt32 >>> ((6 : Int32) &&& 31).toUInt32).toInt32) = (1 : Int32) ∧ ¬ u < (64 : Int32)) := by
  by_cases q : u < (64 : Int32)
  · exact Or.inl ⟨own_v0 h q, q⟩
  · exact Or.inr ⟨own_v1 h q, q⟩
abbrev y_27 : MethodName := (⟨"com/example/corral/corral/ownership/UnitsIsEmptyPinLaw", "step", "(Lcom/example/corral/corral/ownership/Units;[JI)Z"⟩ : MethodName)
theorem pn_5 : plainName "com/example/corral/corral/ownership/UnitsIsEmptyPinLaw" = true := by first | (simp [plainName, overriddenIn]; done) | decide +kernel
theorem ef_12 (m : MethodId) (x0 : Addr) (x1 : Addr) (x2 : Int32) : entryFrame m #[(.ref x0), (.ref x1), (.int x2)] 8 = mkF m 0 #[.val (.ref x0), .val (.ref x1), .val (.int x2), .unset, .unset, .unset, .unset, .unset] [] := by first | (simp [entryFrame, mkF, argsToLocals, Value.category]; done) | rfl
theorem dc27_0 : decode C27 0 = .ok (.iload_n 2, 1) := by decide +kernel
theorem dc27_1 : decode C27 1 = .ok (.bipush 127, 2) := by decide +kernel
theorem dc27_3 : decode C27 3 = .ok (.iand, 1) := by decide +kernel
theorem dc27_4 : decode C27 4 = .ok (.istore_n 3, 1) := by decide +kernel
theorem dc27_5 : decode C27 5 = .ok (.iload_n 3, 1) := by decide +kernel
theorem dc27_6 : decode C27 6 = .ok (.bipush 6, 2) := by decide +kernel
theorem dc27_8 : decode C27 8 = .ok (.iushr, 1) := by decide +kernel
theorem dc27_9 : decode C27 9 = .ok (.istore 4, 2) := by decide +kernel
theorem dc27_11 : decode C27 11 = .ok (.lconst 1, 1) := by decide +kernel
theorem dc27_12 : decode C27 12 = .ok (.iload_n 3, 1) := by decide +kernel
theorem dc27_13 : decode C27 13 = .ok (.bipush 63, 2) := by decide +kernel
theorem dc27_15 : decode C27 15 = .ok (.iand, 1) := by decide +kernel
theorem dc27_16 : decode C27 16 = .ok (.lshl, 1) := by decide +kernel
theorem dc27_17 : decode C27 17 = .ok (.lstore 5, 2) := by decide +kernel
theorem dc27_19 : decode C27 19 = .ok (.iload_n 2, 1) := by decide +kernel
theorem dc27_20 : decode C27 20 = .ok (.sipush 128, 3) := by decide +kernel
theorem dc27_23 : decode C27 23 = .ok (.iand, 1) := by decide +kernel
theorem dc27_24 : decode C27 24 = .ok (.ifCond .ne 22, 3) := by decide +kernel
theorem dc27_27 : decode C27 27 = .ok (.aload_n 0, 1) := by decide +kernel
theorem dc27_28 : decode C27 28 = .ok (.iload_n 3, 1) := by decide +kernel
theorem dc27_29 : decode C27 29 = .ok (.invokevirtual 20, 3) := by decide +kernel
theorem dc27_32 : decode C27 32 = .ok (.aload_n 1, 1) := by decide +kernel
theorem dc27_33 : decode C27 33 = .ok (.iload 4, 2) := by decide +kernel
theorem dc27_35 : decode C27 35 = .ok (.aload_n 1, 1) := by decide +kernel
theorem dc27_36 : decode C27 36 = .ok (.iload 4, 2) := by decide +kernel
theorem dc27_38 : decode C27 38 = .ok (.laload, 1) := by decide +kernel
theorem dc27_39 : decode C27 39 = .ok (.lload 5, 2) := by decide +kernel
theorem dc27_41 : decode C27 41 = .ok (.lor, 1) := by decide +kernel
theorem dc27_42 : decode C27 42 = .ok (.lastore, 1) := by decide +kernel
theorem dc27_43 : decode C27 43 = .ok (.goto 23, 3) := by decide +kernel
theorem dc27_103 : decode C27 103 = .ok (.ireturn, 1) := by decide +kernel
theorem dc27_46 : decode C27 46 = .ok (.aload_n 0, 1) := by decide +kernel
theorem dc27_47 : decode C27 47 = .ok (.iload_n 3, 1) := by decide +kernel
theorem dc27_48 : decode C27 48 = .ok (.invokevirtual 24, 3) := by decide +kernel
theorem dc27_51 : decode C27 51 = .ok (.aload_n 1, 1) := by decide +kernel
theorem dc27_52 : decode C27 52 = .ok (.iload 4, 2) := by decide +kernel
theorem dc27_54 : decode C27 54 = .ok (.aload_n 1, 1) := by decide +kernel
theorem dc27_55 : decode C27 55 = .ok (.iload 4, 2) := by decide +kernel
theorem dc27_57 : decode C27 57 = .ok (.laload, 1) := by decide +kernel
theorem dc27_58 : decode C27 58 = .ok (.lload 5, 2) := by decide +kernel
theorem dc27_60 : decode C27 60 = .ok (.ldc2_w 27, 3) := by decide +kernel
theorem dc27_63 : decode C27 63 = .ok (.lxor, 1) := by decide +kernel
theorem dc27_64 : decode C27 64 = .ok (.land, 1) := by decide +kernel
theorem dc27_65 : decode C27 65 = .ok (.lastore, 1) := by decide +kernel
theorem rmStE (l : Launch) (Z : State) (a0 : Array Value) (hw : HwT a0 Z) (ws : List Jvm.Cond) (a1 b2 : Addr) (p1 : Int32) (i1 : Nat) (l1 : List Int32) (w1 : List Addr) (km : ClassId) (m0 m1 : Int64) (h0 : Heap) (n0 : Nat) (O0 : Old Z n0 h0) (U0 : Us Z h0 n0 a1 i1 l1 w1) (hi3 : i1 ≤ 3) (Vm : Arv Z h0 b2 km .long (2 : Int32) [(.long m0), (.long m1)] (.long (0 : Int64))) (mk : Mk l1 m0 m1) (nin : b2 ∉ w1) (g2 : n0 ≤ b2) (SB : Sta Z Z.heap sB "$assertionsDisabled" "Z" (.int (1 : Int32))) :
    Mt l Z y_27 method_3_code 8 (some .boolean) ws ({ frames := 7, cells := 3, slots := 6, locals := 107 } : Room) #[(.ref a1), (.ref b2), (.int p1)] h0 (Q_st Z a1 b2 i1 h0 n0) := by
  refine MetFree.of_bodySF (plainFor_of_name pn_5) hisR ?_
  intro p e s m args below meth c s₁ Bd hml0 hP hK
  obtain ⟨rfl, hZ, hh⟩ := hP
  have hx := Bd.exec
  have hby := Bd.bytes
  have hml : c.maxLocals = 8 := hml0
  have hown : s.vm.findClass "com/example/corral/corral/ownership/UnitsIsEmptyPinLaw" = some m.cls := findClass_of_methodNamed Bd.named
  have hnm := (name_of_methodNamed Bd.named Bd.method).1
  have X0 : Stand p l e ({ frames := 7, cells := 3, slots := 6, locals := 107 } : Room) s m #[(.ref a1), (.ref b2), (.int p1)] below meth c s₁ [] 0 0 := Stand.of_body Bd
  have e0 : s₁.heap = h0 := by rw [← hh, Bd.state]; rfl
  have N0 := Fr.nil n0
  have pre0 := fun t (k : Steps p.tables e below (s₁.setTop _) t) => castTop (ef_12 m a1 b2 p1) k
  obtain ⟨u1, eu⟩ : ∃ u, (p1 &&& (127 : Int32)) = u := ⟨_, rfl⟩
  have hu : own_r u1 := by rw [← eu]; exact own_127 p1
  have pre101 : ∀ t, Steps p.tables e below (s₁.setTop (mkF m 9 #[vR a1, vR b2, vI p1, vI u1, .unset, .unset, .unset, .unset] [(.int ((u1.toUInt32 >>> ((6 : Int32) &&& 31).toUInt32).toInt32))])) t → Steps p.tables e below (s₁.setTop (entryFrame m #[(.ref a1), (.ref b2), (.int p1)] 8)) t := fun t kt => pre0 t (by
      show Steps p.tables e below (s₁.setTop (mkF m 0 #[vR a1, vR b2, vI p1, .unset, .unset, .unset, .unset, .unset] [])) _
      refine XS.iloadN X0.here hx rfl (hb hby dc27_0) rfl ?_
      refine XS.bipush X0.here hx rfl (hb hby dc27_1) ?_
      refine XS.iand X0.here hx rfl (hb hby dc27_3) rfl ?_
      show Steps p.tables e below (s₁.setTop (mkF m 4 #[vR a1, vR b2, vI p1, .unset, .unset, .unset, .unset, .unset] [(.int (p1 &&& (127 : Int32)))])) _
      rw [eu]
      refine XS.istoreN X0.here hx rfl (hb hby dc27_4) rfl (l' := #[vR a1, vR b2, vI p1, vI u1, .unset, .unset, .unset, .unset]) rfl ?_
      refine XS.iloadN X0.here hx rfl (hb hby dc27_5) rfl ?_
      refine XS.bipush X0.here hx rfl (hb hby dc27_6) ?_
      refine XS.iushr X0.here hx rfl (hb hby dc27_8) rfl ?_
      exact kt)
  rcases own_wv hu with ⟨hk102, hk102a⟩ | ⟨hk102, hk102a⟩
  · skip
    have pre103 : ∀ t, Steps p.tables e below (s₁.setTop (mkF m 24 #[vR a1, vR b2, vI p1, vI u1, vI (0 : Int32), vJ (own_bt u1), .second, .unset] [(.int (p1 &&& (128 : Int32)))])) t → Steps p.tables e below (s₁.setTop (entryFrame m #[(.ref a1), (.ref b2), (.int p1)] 8)) t := fun t kt => pre101 t (by
        show Steps p.tables e below (s₁.setTop (mkF m 9 #[vR a1, vR b2, vI p1, vI u1, .unset, .unset, .unset, .unset] [(.int ((u1.toUInt32 >>> ((6 : Int32) &&& 31).toUInt32).toInt32))])) _
        rw [hk102]
        refine XS.istore X0.here hx rfl (hb hby dc27_9) rfl (l' := #[vR a1, vR b2, vI p1, vI u1, vI (0 : Int32), .unset, .unset, .unset]) rfl ?_
        refine XS.lconst X0.here hx rfl (hb hby dc27_11) ?_
        refine XS.iloadN X0.here hx rfl (hb hby dc27_12) rfl ?_
        refine XS.bipush X0.here hx rfl (hb hby dc27_13) ?_
        refine XS.iand X0.here hx rfl (hb hby dc27_15) rfl ?_
        refine XS.lshl X0.here hx rfl (hb hby dc27_16) rfl ?_
        show Steps p.tables e below (s₁.setTop (mkF m 17 #[vR a1, vR b2, vI p1, vI u1, vI (0 : Int32), .unset, .unset, .unset] [(.long ((1 : Int64) <<< ((u1 &&& (63 : Int32)) &&& 0x3f).toInt64))])) _
        rw [(own_bb2 u1)]
        refine XS.lstore X0.here hx rfl (hb hby dc27_17) rfl (l' := #[vR a1, vR b2, vI p1, vI u1, vI (0 : Int32), vJ (own_bt u1), .second, .unset]) rfl ?_
        refine XS.iloadN X0.here hx rfl (hb hby dc27_19) rfl ?_
        refine XS.sipush X0.here hx rfl (hb hby dc27_20) ?_
        refine XS.iand X0.here hx rfl (hb hby dc27_23) rfl ?_
        exact kt)
    by_cases hc104 : (p1 &&& (128 : Int32)) = (0 : Int32)
    · skip
      obtain ⟨cq105, kq105, q105a, q105b, q105c⟩ := isOf hZ e0 U0.1
      obtain ⟨_, _, ⟨T105, L105, k105, n105⟩, -, X105, ⟨Lc105, hQ105, l105, y105, z105⟩, st105⟩ := X0.virtualBack hx (y := y_25) (z := y_25) hown (mvT hZ (wq hw 24 rfl)) (mvT hZ (wq hw 25 rfl)) (notFace_of_selects (args := #[]) (mvT hZ (wq hw 27 rfl))) (mvT hZ (wq hw 27 rfl)) (mvT hZ (wq hw 26 rfl)) (by decide) (backOf (W := 0) (rmAdE l Z a0 hw [] a1 u1 i1 l1 w1 h0 n0 O0 U0 hi3 hu SB) hZ (wq hw 28 rfl) (wq hw 2 rfl) (by decide) (by decide)) q105a q105c (g := (mkF m 29 #[vR a1, vR b2, vI p1, vI u1, vI (0 : Int32), vJ (own_bt u1), .second, .unset] [(.int u1), (.ref a1)])) rfl (by rw [hml]; rfl) (Steps.refl _) (argsL := [(.int u1)]) (rest := []) (lenOf pd_3 rfl) rfl (by show 2 * 0 + _ ≤ _; exact Nat.le_of_eq rfl) (hb hby dc27_29) (fun _ _ => ⟨rfl, e0, (by decide : 0 + 3 ≤ _), (by decide : 0 + 6 ≤ _)⟩)
      dsimp only [Pt.U, Pt.locs, Pt.cells, Pt.slots] at X105 l105 y105 z105 st105 hQ105
      subst l105 y105 z105
      obtain ⟨rfl, N105q, K105, l105_, w105, U105, mm105, ww105⟩ := hQ105
      have N105 := Fr.app N0 N105q
      have Vm105 := (Vm).keep K105 nin
      have nin105 : b2 ∉ w105 := fun q => (ww105 b2 q).elim nin (fun z => Nat.lt_irrefl _ (Nat.lt_of_lt_of_le (Vm).lt z))
      have O105 : Old Z n0 T105.heap := (O0).keep K105 U0.wge
      obtain ⟨cl106, Ar106, q106, S106, N106_, H106, G106⟩ := id Vm105
      have hin106 : ¬ ((0 : Int32) < 0 ∨ cl106.slots.size ≤ ((0 : Int32)).toNatClampNeg) := inb_of S106 ⟨by decide, by decide⟩
      have hat106 : cl106.slots[((0 : Int32)).toNatClampNeg]? = some (.long m0) := H106.at hin106 rfl
      obtain ⟨cl107, Ar107, q107, S107, N107_, H107, G107⟩ := id Vm105
      have hin107 : ¬ ((0 : Int32) < 0 ∨ cl107.slots.size ≤ ((0 : Int32)).toNatClampNeg) := inb_of S107 ⟨by decide, by decide⟩
      obtain ⟨T108, h108, X108, e108, W108, st108⟩ := stJ X105 hx hZ rfl Ar107 (j := (0 : Int32)) hin107 (g := (mkF m 42 #[vR a1, vR b2, vI p1, vI u1, vI (0 : Int32), vJ (own_bt u1), .second, .unset] [(.long (m0 ||| (own_bt u1))), (.int (0 : Int32)), (.ref b2)])) rfl rfl (hb hby dc27_42)
      have V108 : Arv Z h108 b2 km .long (2 : Int32) [(.long (m0 ||| (own_bt u1))), (.long m1)] (.long (0 : Int64)) := Arv.set Ar107 q107 S107 N107_ H107 G107 rfl W108 0 rfl (Nat.le_of_ble_eq_true rfl)
      have N108 := Fr.snoc X108 N105 g2
      have pre109 : ∀ t, Steps p.tables e below (T108.setTop (mkF m 66 #[vR a1, vR b2, vI p1, vI u1, vI (0 : Int32), vJ (own_bt u1), .second, .unset] [])) t → Steps p.tables e below (s₁.setTop (entryFrame m #[(.ref a1), (.ref b2), (.int p1)] 8)) t := fun t kt => pre103 t (by
          show Steps p.tables e below (s₁.setTop (mkF m 24 #[vR a1, vR b2, vI p1, vI u1, vI (0 : Int32), vJ (own_bt u1), .second, .unset] [(.int (p1 &&& (128 : Int32)))])) _
          refine XS.ifNo X0.here hx rfl (hb hby dc27_24) rfl ((if0 _ _).trans (teq hc104).2) ?_
          refine XS.aloadN X0.here hx rfl (hb hby dc27_27) rfl rfl ?_
          refine XS.iloadN X0.here hx rfl (hb hby dc27_28) rfl ?_
          refine st105.trans ?_
          refine XS.aloadN X105.here hx rfl (hb hby dc27_32) rfl rfl ?_
          refine XS.iload X105.here hx rfl (hb hby dc27_33) rfl ?_
          show Steps p.tables e below (T105.setTop (mkF m 35 #[vR a1, vR b2, vI p1, vI u1, vI (0 : Int32), vJ (own_bt u1), .second, .unset] [(.int (0 : Int32)), (.ref b2)])) _
          refine XS.aloadN X105.here hx rfl (hb hby dc27_35) rfl rfl ?_
          refine XS.iload X105.here hx rfl (hb hby dc27_36) rfl ?_
          refine X105.laload hx (j := (0 : Int32)) (v := (.long m0)) Ar106.1 (State.isArrayOf_alike hZ.alike Ar106.2.1) Ar106.2.2 hin106 hat106 (g := (mkF m 38 #[vR a1, vR b2, vI p1, vI u1, vI (0 : Int32), vJ (own_bt u1), .second, .unset] [(.int (0 : Int32)), (.ref b2), (.int (0 : Int32)), (.ref b2)])) rfl rfl (hb hby dc27_38) _ ?_
          refine XS.lload X105.here hx rfl (hb hby dc27_39) rfl ?_
          refine XS.lor X105.here hx rfl (hb hby dc27_41) rfl ?_
          refine st108 _ ?_
          refine XS.goto X108.here hx rfl (pc0 := 43) (pc' := 66) rfl (hb hby dc27_43) (by decide) (by decide) ?_
          exact kt)
      have Uz : Us Z h108 n0 a1 (i1 + 1) l105_ w105 := U105.kp (Keep.of_wr W108) (fun x hx q => nin105 (List.mem_singleton.mp q ▸ hx))
      have mk2 : Mk l105_ (m0 ||| (own_bt u1)) m1 := by
        have q := Mk.add hu mk mm105
        rw [own_s0p hk102a, own_s1p hk102a] at q; exact q
      have O111 : Old Z n0 h108 := (O105.wr W108 g2)
      obtain ⟨z7, Gt⟩ := stT hx hZ hw hby hml hown (vI p1) (vI u1) (vI (0 : Int32)) (vJ (own_bt u1)) (.second) a1 b2 _ _ _ (i1 + 1) l105_ w105 ⟨_, _, X108, e108, N108, O111, pre109⟩ Uz (by omega) V108 mk2 (by decide) (by decide) (by decide) (by decide)
      obtain ⟨T110, L110, X110, e110, N110, O110, pre110⟩ := Gt
      obtain ⟨fs, hr, hrun, hended, hW, hsame⟩ := X110.leave (v := some (.int (1 : Int32))) (fun h => by rw [Bd.returns] at h; cases h)
      refine ⟨_, _, pre110 _ ?_, hrun, hended, _, _, rfl, ?_, ⟨_, rfl⟩, hW, hsame.mono (by decide) (by decide)⟩
      · skip
        show Steps p.tables e below (T110.setTop (mkF m 103 #[vR a1, vR b2, vI p1, vI u1, vI (0 : Int32), vJ (own_bt u1), .second, vI z7] [(.int (1 : Int32))])) _
        exact retN X110 hx (t := .boolean) Bd.returns (by simp) (hb hby dc27_103) hr
      · show Q_st Z a1 b2 i1 h0 n0 _ T110.heap _
        rw [e110]
        exact ⟨rfl, N110, O110, l105_, w105, _, _, _, Uz, V108, mk2, nin105⟩
    · skip
      obtain ⟨cq112, kq112, q112a, q112b, q112c⟩ := isOf hZ e0 U0.1
      obtain ⟨_, _, ⟨T112, L112, k112, n112⟩, -, X112, ⟨Lc112, hQ112, l112, y112, z112⟩, st112⟩ := X0.virtualBack hx (y := y_26) (z := y_26) hown (mvT hZ (wq hw 117 rfl)) (mvT hZ (wq hw 118 rfl)) (notFace_of_selects (args := #[]) (mvT hZ (wq hw 120 rfl))) (mvT hZ (wq hw 120 rfl)) (mvT hZ (wq hw 119 rfl)) (by decide) (backOf (W := 0) (rmRe l Z a0 hw [] a1 u1 i1 l1 w1 h0 n0 O0 U0 (by omega) hu SB) hZ (wq hw 121 rfl) (wq hw 2 rfl) (by decide) (by decide)) q112a q112c (g := (mkF m 48 #[vR a1, vR b2, vI p1, vI u1, vI (0 : Int32), vJ (own_bt u1), .second, .unset] [(.int u1), (.ref a1)])) rfl (by rw [hml]; rfl) (Steps.refl _) (argsL := [(.int u1)]) (rest := []) (lenOf pd_3 rfl) rfl (by show 2 * 0 + _ ≤ _; exact Nat.le_of_eq rfl) (hb hby dc27_48) (fun _ _ => ⟨rfl, e0, (by decide : 0 + 1 ≤ _), (by decide : 0 + 2 ≤ _)⟩)
      dsimp only [Pt.U, Pt.locs, Pt.cells, Pt.slots] at X112 l112 y112 z112 st112 hQ112
      subst l112 y112 z112
      obtain ⟨rfl, N112q, K112, l112_, w112, U112, mm112, ww112⟩ := hQ112
      have N112 := Fr.app N0 N112q
      have Vm112 := (Vm).keep K112 nin
      have nin112 : b2 ∉ w112 := fun q => (ww112 b2 q).elim nin (fun z => Nat.lt_irrefl _ (Nat.lt_of_lt_of_le (Vm).lt z))
      have O112 : Old Z n0 T112.heap := (O0).keep K112 U0.wge
      obtain ⟨cl113, Ar113, q113, S113, N113_, H113, G113⟩ := id Vm112
      have hin113 : ¬ ((0 : Int32) < 0 ∨ cl113.slots.size ≤ ((0 : Int32)).toNatClampNeg) := inb_of S113 ⟨by decide, by decide⟩
      have hat113 : cl113.slots[((0 : Int32)).toNatClampNeg]? = some (.long m0) := H113.at hin113 rfl
      obtain ⟨cl114, Ar114, q114, S114, N114_, H114, G114⟩ := id Vm112
      have hin114 : ¬ ((0 : Int32) < 0 ∨ cl114.slots.size ≤ ((0 : Int32)).toNatClampNeg) := inb_of S114 ⟨by decide, by decide⟩
      obtain ⟨T115, h115, X115, e115, W115, st115⟩ := stJ X112 hx hZ rfl Ar114 (j := (0 : Int32)) hin114 (g := (mkF m 65 #[vR a1, vR b2, vI p1, vI u1, vI (0 : Int32), vJ (own_bt u1), .second, .unset] [(.long (m0 &&& ((own_bt u1) ^^^ (-1 : Int64)))), (.int (0 : Int32)), (.ref b2)])) rfl rfl (hb hby dc27_65)
      have V115 : Arv Z h115 b2 km .long (2 : Int32) [(.long (m0 &&& ((own_bt u1) ^^^ (-1 : Int64)))), (.long m1)] (.long (0 : Int64)) := Arv.set Ar114 q114 S114 N114_ H114 G114 rfl W115 0 rfl (Nat.le_of_ble_eq_true rfl)
      have N115 := Fr.snoc X115 N112 g2
      have pre116 : ∀ t, Steps p.tables e below (T115.setTop (mkF m 66 #[vR a1, vR b2, vI p1, vI u1, vI (0 : Int32), vJ (own_bt u1), .second, .unset] [])) t → Steps p.tables e below (s₁.setTop (entryFrame m #[(.ref a1), (.ref b2), (.int p1)] 8)) t := fun t kt => pre103 t (by
          show Steps p.tables e below (s₁.setTop (mkF m 24 #[vR a1, vR b2, vI p1, vI u1, vI (0 : Int32), vJ (own_bt u1), .second, .unset] [(.int (p1 &&& (128 : Int32)))])) _
          refine XS.ifYes X0.here hx rfl (pc0 := 24) (pc' := 46) rfl (hb hby dc27_24) rfl ((if0 _ _).trans (feq hc104).2) (by decide) (by decide) ?_
          refine XS.aloadN X0.here hx rfl (hb hby dc27_46) rfl rfl ?_
          refine XS.iloadN X0.here hx rfl (hb hby dc27_47) rfl ?_
          refine st112.trans ?_
          show Steps p.tables e below (T112.setTop (mkF m 51 #[vR a1, vR b2, vI p1, vI u1, vI (0 : Int32), vJ (own_bt u1), .second, .unset] [])) _
          refine XS.aloadN X112.here hx rfl (hb hby dc27_51) rfl rfl ?_
          refine XS.iload X112.here hx rfl (hb hby dc27_52) rfl ?_
          refine XS.aloadN X112.here hx rfl (hb hby dc27_54) rfl rfl ?_
          refine XS.iload X112.here hx rfl (hb hby dc27_55) rfl ?_
          refine X112.laload hx (j := (0 : Int32)) (v := (.long m0)) Ar113.1 (State.isArrayOf_alike hZ.alike Ar113.2.1) Ar113.2.2 hin113 hat113 (g := (mkF m 57 #[vR a1, vR b2, vI p1, vI u1, vI (0 : Int32), vJ (own_bt u1), .second, .unset] [(.int (0 : Int32)), (.ref b2), (.int (0 : Int32)), (.ref b2)])) rfl rfl (hb hby dc27_57) _ ?_
          refine XS.lload X112.here hx rfl (hb hby dc27_58) rfl ?_
          refine X112.ldc2Long hx hown (mvT hZ (wq hw 122 rfl)) (g := (mkF m 60 #[vR a1, vR b2, vI p1, vI u1, vI (0 : Int32), vJ (own_bt u1), .second, .unset] [(.long (own_bt u1)), (.long m0), (.int (0 : Int32)), (.ref b2)])) rfl (hb hby dc27_60) _ ?_
          refine XS.lxor X112.here hx rfl (hb hby dc27_63) rfl ?_
          refine XS.land X112.here hx rfl (hb hby dc27_64) rfl ?_
          refine st115 _ ?_
          exact kt)
      have Uz : Us Z h115 n0 a1 (i1 + 1) l112_ w112 := U112.kp (Keep.of_wr W115) (fun x hx q => nin112 (List.mem_singleton.mp q ▸ hx))
      have mk2 : Mk l112_ (m0 &&& ((own_bt u1) ^^^ (-1 : Int64))) m1 := by
        have q := Mk.del hu mk mm112
        rw [own_c0p hk102a, own_c1p hk102a] at q; exact q
      have O118 : Old Z n0 h115 := (O112.wr W115 g2)
      obtain ⟨z7, Gt⟩ := stT hx hZ hw hby hml hown (vI p1) (vI u1) (vI (0 : Int32)) (vJ (own_bt u1)) (.second) a1 b2 _ _ _ (i1 + 1) l112_ w112 ⟨_, _, X115, e115, N115, O118, pre116⟩ Uz (by omega) V115 mk2 (by decide) (by decide) (by decide) (by decide)
      obtain ⟨T117, L117, X117, e117, N117, O117, pre117⟩ := Gt
      obtain ⟨fs, hr, hrun, hended, hW, hsame⟩ := X117.leave (v := some (.int (1 : Int32))) (fun h => by rw [Bd.returns] at h; cases h)
      refine ⟨_, _, pre117 _ ?_, hrun, hended, _, _, rfl, ?_, ⟨_, rfl⟩, hW, hsame.mono (by decide) (by decide)⟩
      · skip
        show Steps p.tables e below (T117.setTop (mkF m 103 #[vR a1, vR b2, vI p1, vI u1, vI (0 : Int32), vJ (own_bt u1), .second, vI z7] [(.int (1 : Int32))])) _
        exact retN X117 hx (t := .boolean) Bd.returns (by simp) (hb hby dc27_103) hr
      · show Q_st Z a1 b2 i1 h0 n0 _ T117.heap _
        rw [e117]
        exact ⟨rfl, N117, O117, l112_, w112, _, _, _, Uz, V115, mk2, nin112⟩
  · skip
    have pre119 : ∀ t, Steps p.tables e below (s₁.setTop (mkF m 24 #[vR a1, vR b2, vI p1, vI u1, vI (1 : Int32), vJ (own_bt u1), .second, .unset] [(.int (p1 &&& (128 : Int32)))])) t → Steps p.tables e below (s₁.setTop (entryFrame m #[(.ref a1), (.ref b2), (.int p1)] 8)) t := fun t kt => pre101 t (by
        show Steps p.tables e below (s₁.setTop (mkF m 9 #[vR a1, vR b2, vI p1, vI u1, .unset, .unset, .unset, .unset] [(.int ((u1.toUInt32 >>> ((6 : Int32) &&& 31).toUInt32).toInt32))])) _
        rw [hk102]
        show Steps p.tables e below (s₁.setTop (mkF m 9 #[vR a1, vR b2, vI p1, vI u1, .unset, .unset, .unset, .unset] [(.int (1 : Int32))])) _
        refine XS.istore X0.here hx rfl (hb hby dc27_9) rfl (l' := #[vR a1, vR b2, vI p1, vI u1, vI (1 : Int32), .unset, .unset, .unset]) rfl ?_
        refine XS.lconst X0.here hx rfl (hb hby dc27_11) ?_
        refine XS.iloadN X0.here hx rfl (hb hby dc27_12) rfl ?_
        refine XS.bipush X0.here hx rfl (hb hby dc27_13) ?_
        refine XS.iand X0.here hx rfl (hb hby dc27_15) rfl ?_
        refine XS.lshl X0.here hx rfl (hb hby dc27_16) rfl ?_
        show Steps p.tables e below (s₁.setTop (mkF m 17 #[vR a1, vR b2, vI p1, vI u1, vI (1 : Int32), .unset, .unset, .unset] [(.long ((1 : Int64) <<< ((u1 &&& (63 : Int32)) &&& 0x3f).toInt64))])) _
        rw [(own_bb2 u1)]
        refine XS.lstore X0.here hx rfl (hb hby dc27_17) rfl (l' := #[vR a1, vR b2, vI p1, vI u1, vI (1 : Int32), vJ (own_bt u1), .second, .unset]) rfl ?_
        refine XS.iloadN X0.here hx rfl (hb hby dc27_19) rfl ?_
        refine XS.sipush X0.here hx rfl (hb hby dc27_20) ?_
        refine XS.iand X0.here hx rfl (hb hby dc27_23) rfl ?_
        exact kt)
    by_cases hc120 : (p1 &&& (128 : Int32)) = (0 : Int32)
    · skip
      obtain ⟨cq121, kq121, q121a, q121b, q121c⟩ := isOf hZ e0 U0.1
      obtain ⟨_, _, ⟨T121, L121, k121, n121⟩, -, X121, ⟨Lc121, hQ121, l121, y121, z121⟩, st121⟩ := X0.virtualBack hx (y := y_25) (z := y_25) hown (mvT hZ (wq hw 24 rfl)) (mvT hZ (wq hw 25 rfl)) (notFace_of_selects (args := #[]) (mvT hZ (wq hw 27 rfl))) (mvT hZ (wq hw 27 rfl)) (mvT hZ (wq hw 26 rfl)) (by decide) (backOf (W := 0) (rmAdE l Z a0 hw [] a1 u1 i1 l1 w1 h0 n0 O0 U0 hi3 hu SB) hZ (wq hw 28 rfl) (wq hw 2 rfl) (by decide) (by decide)) q121a q121c (g := (mkF m 29 #[vR a1, vR b2, vI p1, vI u1, vI (1 : Int32), vJ (own_bt u1), .second, .unset] [(.int u1), (.ref a1)])) rfl (by rw [hml]; rfl) (Steps.refl _) (argsL := [(.int u1)]) (rest := []) (lenOf pd_3 rfl) rfl (by show 2 * 0 + _ ≤ _; exact Nat.le_of_eq rfl) (hb hby dc27_29) (fun _ _ => ⟨rfl, e0, (by decide : 0 + 3 ≤ _), (by decide : 0 + 6 ≤ _)⟩)
      dsimp only [Pt.U, Pt.locs, Pt.cells, Pt.slots] at X121 l121 y121 z121 st121 hQ121
      subst l121 y121 z121
      obtain ⟨rfl, N121q, K121, l121_, w121, U121, mm121, ww121⟩ := hQ121
      have N121 := Fr.app N0 N121q
      have Vm121 := (Vm).keep K121 nin
      have nin121 : b2 ∉ w121 := fun q => (ww121 b2 q).elim nin (fun z => Nat.lt_irrefl _ (Nat.lt_of_lt_of_le (Vm).lt z))
      have O121 : Old Z n0 T121.heap := (O0).keep K121 U0.wge
      obtain ⟨cl122, Ar122, q122, S122, N122_, H122, G122⟩ := id Vm121
      have hin122 : ¬ ((1 : Int32) < 0 ∨ cl122.slots.size ≤ ((1 : Int32)).toNatClampNeg) := inb_of S122 ⟨by decide, by decide⟩
      have hat122 : cl122.slots[((1 : Int32)).toNatClampNeg]? = some (.long m1) := H122.at hin122 rfl
      obtain ⟨cl123, Ar123, q123, S123, N123_, H123, G123⟩ := id Vm121
      have hin123 : ¬ ((1 : Int32) < 0 ∨ cl123.slots.size ≤ ((1 : Int32)).toNatClampNeg) := inb_of S123 ⟨by decide, by decide⟩
      obtain ⟨T124, h124, X124, e124, W124, st124⟩ := stJ X121 hx hZ rfl Ar123 (j := (1 : Int32)) hin123 (g := (mkF m 42 #[vR a1, vR b2, vI p1, vI u1, vI (1 : Int32), vJ (own_bt u1), .second, .unset] [(.long (m1 ||| (own_bt u1))), (.int (1 : Int32)), (.ref b2)])) rfl rfl (hb hby dc27_42)
      have V124 : Arv Z h124 b2 km .long (2 : Int32) [(.long m0), (.long (m1 ||| (own_bt u1)))] (.long (0 : Int64)) := Arv.set Ar123 q123 S123 N123_ H123 G123 rfl W124 1 rfl (Nat.le_of_ble_eq_true rfl)
      have N124 := Fr.snoc X124 N121 g2
      have pre125 : ∀ t, Steps p.tables e below (T124.setTop (mkF m 66 #[vR a1, vR b2, vI p1, vI u1, vI (1 : Int32), vJ (own_bt u1), .second, .unset] [])) t → Steps p.tables e below (s₁.setTop (entryFrame m #[(.ref a1), (.ref b2), (.int p1)] 8)) t := fun t kt => pre119 t (by
          show Steps p.tables e below (s₁.setTop (mkF m 24 #[vR a1, vR b2, vI p1, vI u1, vI (1 : Int32), vJ (own_bt u1), .second, .unset] [(.int (p1 &&& (128 : Int32)))])) _
          refine XS.ifNo X0.here hx rfl (hb hby dc27_24) rfl ((if0 _ _).trans (teq hc120).2) ?_
          refine XS.aloadN X0.here hx rfl (hb hby dc27_27) rfl rfl ?_
          refine XS.iloadN X0.here hx rfl (hb hby dc27_28) rfl ?_
          refine st121.trans ?_
          refine XS.aloadN X121.here hx rfl (hb hby dc27_32) rfl rfl ?_
          refine XS.iload X121.here hx rfl (hb hby dc27_33) rfl ?_
          refine XS.aloadN X121.here hx rfl (hb hby dc27_35) rfl rfl ?_
          refine XS.iload X121.here hx rfl (hb hby dc27_36) rfl ?_
          refine X121.laload hx (j := (1 : Int32)) (v := (.long m1)) Ar122.1 (State.isArrayOf_alike hZ.alike Ar122.2.1) Ar122.2.2 hin122 hat122 (g := (mkF m 38 #[vR a1, vR b2, vI p1, vI u1, vI (1 : Int32), vJ (own_bt u1), .second, .unset] [(.int (1 : Int32)), (.ref b2), (.int (1 : Int32)), (.ref b2)])) rfl rfl (hb hby dc27_38) _ ?_
          refine XS.lload X121.here hx rfl (hb hby dc27_39) rfl ?_
          refine XS.lor X121.here hx rfl (hb hby dc27_41) rfl ?_
          refine st124 _ ?_
          show Steps p.tables e below (T124.setTop (mkF m 43 #[vR a1, vR b2, vI p1, vI u1, vI (1 : Int32), vJ (own_bt u1), .second, .unset] [])) _
          refine XS.goto X124.here hx rfl (pc0 := 43) (pc' := 66) rfl (hb hby dc27_43) (by decide) (by decide) ?_
          exact kt)
      have Uz : Us Z h124 n0 a1 (i1 + 1) l121_ w121 := U121.kp (Keep.of_wr W124) (fun x hx q => nin121 (List.mem_singleton.mp q ▸ hx))
      have mk2 : Mk l121_ m0 (m1 ||| (own_bt u1)) := by
        have q := Mk.add hu mk mm121
        rw [own_s0n hk102a, own_s1n hk102a] at q; exact q
      have O127 : Old Z n0 h124 := (O121.wr W124 g2)
      obtain ⟨z7, Gt⟩ := stT hx hZ hw hby hml hown (vI p1) (vI u1) (vI (1 : Int32)) (vJ (own_bt u1)) (.second) a1 b2 _ _ _ (i1 + 1) l121_ w121 ⟨_, _, X124, e124, N124, O127, pre125⟩ Uz (by omega) V124 mk2 (by decide) (by decide) (by decide) (by decide)
      obtain ⟨T126, L126, X126, e126, N126, O126, pre126⟩ := Gt
      obtain ⟨fs, hr, hrun, hended, hW, hsame⟩ := X126.leave (v := some (.int (1 : Int32))) (fun h => by rw [Bd.returns] at h; cases h)
      refine ⟨_, _, pre126 _ ?_, hrun, hended, _, _, rfl, ?_, ⟨_, rfl⟩, hW, hsame.mono (by decide) (by decide)⟩
      · skip
        show Steps p.tables e below (T126.setTop (mkF m 103 #[vR a1, vR b2, vI p1, vI u1, vI (1 : Int32), vJ (own_bt u1), .second, vI z7] [(.int (1 : Int32))])) _
        exact retN X126 hx (t := .boolean) Bd.returns (by simp) (hb hby dc27_103) hr
      · show Q_st Z a1 b2 i1 h0 n0 _ T126.heap _
        rw [e126]
        exact ⟨rfl, N126, O126, l121_, w121, _, _, _, Uz, V124, mk2, nin121⟩
    · skip
      obtain ⟨cq128, kq128, q128a, q128b, q128c⟩ := isOf hZ e0 U0.1
      obtain ⟨_, _, ⟨T128, L128, k128, n128⟩, -, X128, ⟨Lc128, hQ128, l128, y128, z128⟩, st128⟩ := X0.virtualBack hx (y := y_26) (z := y_26) hown (mvT hZ (wq hw 117 rfl)) (mvT hZ (wq hw 118 rfl)) (notFace_of_selects (args := #[]) (mvT hZ (wq hw 120 rfl))) (mvT hZ (wq hw 120 rfl)) (mvT hZ (wq hw 119 rfl)) (by decide) (backOf (W := 0) (rmRe l Z a0 hw [] a1 u1 i1 l1 w1 h0 n0 O0 U0 (by omega) hu SB) hZ (wq hw 121 rfl) (wq hw 2 rfl) (by decide) (by decide)) q128a q128c (g := (mkF m 48 #[vR a1, vR b2, vI p1, vI u1, vI (1 : Int32), vJ (own_bt u1), .second, .unset] [(.int u1), (.ref a1)])) rfl (by rw [hml]; rfl) (Steps.refl _) (argsL := [(.int u1)]) (rest := []) (lenOf pd_3 rfl) rfl (by show 2 * 0 + _ ≤ _; exact Nat.le_of_eq rfl) (hb hby dc27_48) (fun _ _ => ⟨rfl, e0, (by decide : 0 + 1 ≤ _), (by decide : 0 + 2 ≤ _)⟩)
      dsimp only [Pt.U, Pt.locs, Pt.cells, Pt.slots] at X128 l128 y128 z128 st128 hQ128
      subst l128 y128 z128
      obtain ⟨rfl, N128q, K128, l128_, w128, U128, mm128, ww128⟩ := hQ128
      have N128 := Fr.app N0 N128q
      have Vm128 := (Vm).keep K128 nin
      have nin128 : b2 ∉ w128 := fun q => (ww128 b2 q).elim nin (fun z => Nat.lt_irrefl _ (Nat.lt_of_lt_of_le (Vm).lt z))
      have O128 : Old Z n0 T128.heap := (O0).keep K128 U0.wge
      obtain ⟨cl129, Ar129, q129, S129, N129_, H129, G129⟩ := id Vm128
      have hin129 : ¬ ((1 : Int32) < 0 ∨ cl129.slots.size ≤ ((1 : Int32)).toNatClampNeg) := inb_of S129 ⟨by decide, by decide⟩
      have hat129 : cl129.slots[((1 : Int32)).toNatClampNeg]? = some (.long m1) := H129.at hin129 rfl
      obtain ⟨cl130, Ar130, q130, S130, N130_, H130, G130⟩ := id Vm128
      have hin130 : ¬ ((1 : Int32) < 0 ∨ cl130.slots.size ≤ ((1 : Int32)).toNatClampNeg) := inb_of S130 ⟨by decide, by decide⟩
      obtain ⟨T131, h131, X131, e131, W131, st131⟩ := stJ X128 hx hZ rfl Ar130 (j := (1 : Int32)) hin130 (g := (mkF m 65 #[vR a1, vR b2, vI p1, vI u1, vI (1 : Int32), vJ (own_bt u1), .second, .unset] [(.long (m1 &&& ((own_bt u1) ^^^ (-1 : Int64)))), (.int (1 : Int32)), (.ref b2)])) rfl rfl (hb hby dc27_65)
      have V131 : Arv Z h131 b2 km .long (2 : Int32) [(.long m0), (.long (m1 &&& ((own_bt u1) ^^^ (-1 : Int64))))] (.long (0 : Int64)) := Arv.set Ar130 q130 S130 N130_ H130 G130 rfl W131 1 rfl (Nat.le_of_ble_eq_true rfl)
      have N131 := Fr.snoc X131 N128 g2
      have pre132 : ∀ t, Steps p.tables e below (T131.setTop (mkF m 66 #[vR a1, vR b2, vI p1, vI u1, vI (1 : Int32), vJ (own_bt u1), .second, .unset] [])) t → Steps p.tables e below (s₁.setTop (entryFrame m #[(.ref a1), (.ref b2), (.int p1)] 8)) t := fun t kt => pre119 t (by
          show Steps p.tables e below (s₁.setTop (mkF m 24 #[vR a1, vR b2, vI p1, vI u1, vI (1 : Int32), vJ (own_bt u1), .second, .unset] [(.int (p1 &&& (128 : Int32)))])) _
          refine XS.ifYes X0.here hx rfl (pc0 := 24) (pc' := 46) rfl (hb hby dc27_24) rfl ((if0 _ _).trans (feq hc120).2) (by decide) (by decide) ?_
          refine XS.aloadN X0.here hx rfl (hb hby dc27_46) rfl rfl ?_
          refine XS.iloadN X0.here hx rfl (hb hby dc27_47) rfl ?_
          refine st128.trans ?_
          refine XS.aloadN X128.here hx rfl (hb hby dc27_51) rfl rfl ?_
          refine XS.iload X128.here hx rfl (hb hby dc27_52) rfl ?_
          refine XS.aloadN X128.here hx rfl (hb hby dc27_54) rfl rfl ?_
          refine XS.iload X128.here hx rfl (hb hby dc27_55) rfl ?_
          refine X128.laload hx (j := (1 : Int32)) (v := (.long m1)) Ar129.1 (State.isArrayOf_alike hZ.alike Ar129.2.1) Ar129.2.2 hin129 hat129 (g := (mkF m 57 #[vR a1, vR b2, vI p1, vI u1, vI (1 : Int32), vJ (own_bt u1), .second, .unset] [(.int (1 : Int32)), (.ref b2), (.int (1 : Int32)), (.ref b2)])) rfl rfl (hb hby dc27_57) _ ?_
          refine XS.lload X128.here hx rfl (hb hby dc27_58) rfl ?_
          show Steps p.tables e below (T128.setTop (mkF m 60 #[vR a1, vR b2, vI p1, vI u1, vI (1 : Int32), vJ (own_bt u1), .second, .unset] [(.long (own_bt u1)), (.long m1), (.int (1 : Int32)), (.ref b2)])) _
          refine X128.ldc2Long hx hown (mvT hZ (wq hw 122 rfl)) (g := (mkF m 60 #[vR a1, vR b2, vI p1, vI u1, vI (1 : Int32), vJ (own_bt u1), .second, .unset] [(.long (own_bt u1)), (.long m1), (.int (1 : Int32)), (.ref b2)])) rfl (hb hby dc27_60) _ ?_
          refine XS.lxor X128.here hx rfl (hb hby dc27_63) rfl ?_
          refine XS.land X128.here hx rfl (hb hby dc27_64) rfl ?_
          refine st131 _ ?_
          exact kt)
      have Uz : Us Z h131 n0 a1 (i1 + 1) l128_ w128 := U128.kp (Keep.of_wr W131) (fun x hx q => nin128 (List.mem_singleton.mp q ▸ hx))
      have mk2 : Mk l128_ m0 (m1 &&& ((own_bt u1) ^^^ (-1 : Int64))) := by
        have q := Mk.del hu mk mm128
        rw [own_c0n hk102a, own_c1n hk102a] at q; exact q
      have O134 : Old Z n0 h131 := (O128.wr W131 g2)
      obtain ⟨z7, Gt⟩ := stT hx hZ hw hby hml hown (vI p1) (vI u1) (vI (1 : Int32)) (vJ (own_bt u1)) (.second) a1 b2 _ _ _ (i1 + 1) l128_ w128 ⟨_, _, X131, e131, N131, O134, pre132⟩ Uz (by omega) V131 mk2 (by decide) (by decide) (by decide) (by decide)
      obtain ⟨T133, L133, X133, e133, N133, O133, pre133⟩ := Gt
      obtain ⟨fs, hr, hrun, hended, hW, hsame⟩ := X133.leave (v := some (.int (1 : Int32))) (fun h => by rw [Bd.returns] at h; cases h)
      refine ⟨_, _, pre133 _ ?_, hrun, hended, _, _, rfl, ?_, ⟨_, rfl⟩, hW, hsame.mono (by decide) (by decide)⟩
      · skip
        show Steps p.tables e below (T133.setTop (mkF m 103 #[vR a1, vR b2, vI p1, vI u1, vI (1 : Int32), vJ (own_bt u1), .second, vI z7] [(.int (1 : Int32))])) _
        exact retN X133 hx (t := .boolean) Bd.returns (by simp) (hb hby dc27_103) hr
      · show Q_st Z a1 b2 i1 h0 n0 _ T133.heap _
        rw [e133]
        exact ⟨rfl, N133, O133, l128_, w128, _, _, _, Uz, V131, mk2, nin128⟩
theorem rmStL (l : Launch) (Z : State) (a0 : Array Value) (hw : HwT a0 Z) (ws : List Jvm.Cond) (a1 b2 : Addr) (p1 : Int32) (i1 : Nat) (l1 : List Int32) (w1 : List Addr) (km : ClassId) (m0 m1 : Int64) (h0 : Heap) (n0 : Nat) (O0 : Old Z n0 h0) (U0 : Us Z h0 n0 a1 i1 l1 w1) (hi4 : i1 ≤ 4) (Vm : Arv Z h0 b2 km .long (2 : Int32) [(.long m0), (.long m1)] (.long (0 : Int64))) (mk : Mk l1 m0 m1) (nin : b2 ∉ w1) (g2 : n0 ≤ b2) (SB : Sta Z Z.heap sB "$assertionsDisabled" "Z" (.int (1 : Int32))) :
    Mt l Z y_27 method_3_code 8 (some .boolean) ws ({ frames := 7, cells := 7, slots := 14, locals := 107 } : Room) #[(.ref a1), (.ref b2), (.int p1)] h0 (Q_st Z a1 b2 i1 h0 n0) := by
  refine MetFree.of_bodySF (plainFor_of_name pn_5) hisR ?_
  intro p e s m args below meth c s₁ Bd hml0 hP hK
  obtain ⟨rfl, hZ, hh⟩ := hP
  have hx := Bd.exec
  have hby := Bd.bytes
  have hml : c.maxLocals = 8 := hml0
  have hown : s.vm.findClass "com/example/corral/corral/ownership/UnitsIsEmptyPinLaw" = some m.cls := findClass_of_methodNamed Bd.named
  have hnm := (name_of_methodNamed Bd.named Bd.method).1
  have X0 : Stand p l e ({ frames := 7, cells := 7, slots := 14, locals := 107 } : Room) s m #[(.ref a1), (.ref b2), (.int p1)] below meth c s₁ [] 0 0 := Stand.of_body Bd
  have e0 : s₁.heap = h0 := by rw [← hh, Bd.state]; rfl
  have N0 := Fr.nil n0
  have pre0 := fun t (k : Steps p.tables e below (s₁.setTop _) t) => castTop (ef_12 m a1 b2 p1) k
  obtain ⟨u1, eu⟩ : ∃ u, (p1 &&& (127 : Int32)) = u := ⟨_, rfl⟩
  have hu : own_r u1 := by rw [← eu]; exact own_127 p1
  have pre101 : ∀ t, Steps p.tables e below (s₁.setTop (mkF m 9 #[vR a1, vR b2, vI p1, vI u1, .unset, .unset, .unset, .unset] [(.int ((u1.toUInt32 >>> ((6 : Int32) &&& 31).toUInt32).toInt32))])) t → Steps p.tables e below (s₁.setTop (entryFrame m #[(.ref a1), (.ref b2), (.int p1)] 8)) t := fun t kt => pre0 t (by
      show Steps p.tables e below (s₁.setTop (mkF m 0 #[vR a1, vR b2, vI p1, .unset, .unset, .unset, .unset, .unset] [])) _
      refine XS.iloadN X0.here hx rfl (hb hby dc27_0) rfl ?_
      refine XS.bipush X0.here hx rfl (hb hby dc27_1) ?_
      refine XS.iand X0.here hx rfl (hb hby dc27_3) rfl ?_
      show Steps p.tables e below (s₁.setTop (mkF m 4 #[vR a1, vR b2, vI p1, .unset, .unset, .unset, .unset, .unset] [(.int (p1 &&& (127 : Int32)))])) _
      rw [eu]
      refine XS.istoreN X0.here hx rfl (hb hby dc27_4) rfl (l' := #[vR a1, vR b2, vI p1, vI u1, .unset, .unset, .unset, .unset]) rfl ?_
      refine XS.iloadN X0.here hx rfl (hb hby dc27_5) rfl ?_
      refine XS.bipush X0.here hx rfl (hb hby dc27_6) ?_
      refine XS.iushr X0.here hx rfl (hb hby dc27_8) rfl ?_
      exact kt)
  rcases own_wv hu with ⟨hk102, hk102a⟩ | ⟨hk102, hk102a⟩
  · skip
    have pre103 : ∀ t, Steps p.tables e below (s₁.setTop (mkF m 24 #[vR a1, vR b2, vI p1, vI u1, vI (0 : Int32), vJ (own_bt u1), .second, .unset] [(.int (p1 &&& (128 : Int32)))])) t → Steps p.tables e below (s₁.setTop (entryFrame m #[(.ref a1), (.ref b2), (.int p1)] 8)) t := fun t kt => pre101 t (by
        show Steps p.tables e below (s₁.setTop (mkF m 9 #[vR a1, vR b2, vI p1, vI u1, .unset, .unset, .unset, .unset] [(.int ((u1.toUInt32 >>> ((6 : Int32) &&& 31).toUInt32).toInt32))])) _
        rw [hk102]
        refine XS.istore X0.here hx rfl (hb hby dc27_9) rfl (l' := #[vR a1, vR b2, vI p1, vI u1, vI (0 : Int32), .unset, .unset, .unset]) rfl ?_
        refine XS.lconst X0.here hx rfl (hb hby dc27_11) ?_
        refine XS.iloadN X0.here hx rfl (hb hby dc27_12) rfl ?_
        refine XS.bipush X0.here hx rfl (hb hby dc27_13) ?_
        refine XS.iand X0.here hx rfl (hb hby dc27_15) rfl ?_
        refine XS.lshl X0.here hx rfl (hb hby dc27_16) rfl ?_
        show Steps p.tables e below (s₁.setTop (mkF m 17 #[vR a1, vR b2, vI p1, vI u1, vI (0 : Int32), .unset, .unset, .unset] [(.long ((1 : Int64) <<< ((u1 &&& (63 : Int32)) &&& 0x3f).toInt64))])) _
        rw [(own_bb2 u1)]
        refine XS.lstore X0.here hx rfl (hb hby dc27_17) rfl (l' := #[vR a1, vR b2, vI p1, vI u1, vI (0 : Int32), vJ (own_bt u1), .second, .unset]) rfl ?_
        refine XS.iloadN X0.here hx rfl (hb hby dc27_19) rfl ?_
        refine XS.sipush X0.here hx rfl (hb hby dc27_20) ?_
        refine XS.iand X0.here hx rfl (hb hby dc27_23) rfl ?_
        exact kt)
    by_cases hc104 : (p1 &&& (128 : Int32)) = (0 : Int32)
    · skip
      obtain ⟨cq105, kq105, q105a, q105b, q105c⟩ := isOf hZ e0 U0.1
      obtain ⟨_, _, ⟨T105, L105, k105, n105⟩, -, X105, ⟨Lc105, hQ105, l105, y105, z105⟩, st105⟩ := X0.virtualBack hx (y := y_25) (z := y_25) hown (mvT hZ (wq hw 24 rfl)) (mvT hZ (wq hw 25 rfl)) (notFace_of_selects (args := #[]) (mvT hZ (wq hw 27 rfl))) (mvT hZ (wq hw 27 rfl)) (mvT hZ (wq hw 26 rfl)) (by decide) (backOf (W := 0) (rmAdL l Z a0 hw [] a1 u1 i1 l1 w1 h0 n0 O0 U0 hi4 hu SB) hZ (wq hw 28 rfl) (wq hw 2 rfl) (by decide) (by decide)) q105a q105c (g := (mkF m 29 #[vR a1, vR b2, vI p1, vI u1, vI (0 : Int32), vJ (own_bt u1), .second, .unset] [(.int u1), (.ref a1)])) rfl (by rw [hml]; rfl) (Steps.refl _) (argsL := [(.int u1)]) (rest := []) (lenOf pd_3 rfl) rfl (by show 2 * 0 + _ ≤ _; exact Nat.le_of_eq rfl) (hb hby dc27_29) (fun _ _ => ⟨rfl, e0, (by decide : 0 + 7 ≤ _), (by decide : 0 + 14 ≤ _)⟩)
      dsimp only [Pt.U, Pt.locs, Pt.cells, Pt.slots] at X105 l105 y105 z105 st105 hQ105
      subst l105 y105 z105
      obtain ⟨rfl, N105q, K105, l105_, w105, U105, mm105, ww105⟩ := hQ105
      have N105 := Fr.app N0 N105q
      have Vm105 := (Vm).keep K105 nin
      have nin105 : b2 ∉ w105 := fun q => (ww105 b2 q).elim nin (fun z => Nat.lt_irrefl _ (Nat.lt_of_lt_of_le (Vm).lt z))
      have O105 : Old Z n0 T105.heap := (O0).keep K105 U0.wge
      obtain ⟨cl106, Ar106, q106, S106, N106_, H106, G106⟩ := id Vm105
      have hin106 : ¬ ((0 : Int32) < 0 ∨ cl106.slots.size ≤ ((0 : Int32)).toNatClampNeg) := inb_of S106 ⟨by decide, by decide⟩
      have hat106 : cl106.slots[((0 : Int32)).toNatClampNeg]? = some (.long m0) := H106.at hin106 rfl
      obtain ⟨cl107, Ar107, q107, S107, N107_, H107, G107⟩ := id Vm105
      have hin107 : ¬ ((0 : Int32) < 0 ∨ cl107.slots.size ≤ ((0 : Int32)).toNatClampNeg) := inb_of S107 ⟨by decide, by decide⟩
      obtain ⟨T108, h108, X108, e108, W108, st108⟩ := stJ X105 hx hZ rfl Ar107 (j := (0 : Int32)) hin107 (g := (mkF m 42 #[vR a1, vR b2, vI p1, vI u1, vI (0 : Int32), vJ (own_bt u1), .second, .unset] [(.long (m0 ||| (own_bt u1))), (.int (0 : Int32)), (.ref b2)])) rfl rfl (hb hby dc27_42)
      have V108 : Arv Z h108 b2 km .long (2 : Int32) [(.long (m0 ||| (own_bt u1))), (.long m1)] (.long (0 : Int64)) := Arv.set Ar107 q107 S107 N107_ H107 G107 rfl W108 0 rfl (Nat.le_of_ble_eq_true rfl)
      have N108 := Fr.snoc X108 N105 g2
      have pre109 : ∀ t, Steps p.tables e below (T108.setTop (mkF m 66 #[vR a1, vR b2, vI p1, vI u1, vI (0 : Int32), vJ (own_bt u1), .second, .unset] [])) t → Steps p.tables e below (s₁.setTop (entryFrame m #[(.ref a1), (.ref b2), (.int p1)] 8)) t := fun t kt => pre103 t (by
          show Steps p.tables e below (s₁.setTop (mkF m 24 #[vR a1, vR b2, vI p1, vI u1, vI (0 : Int32), vJ (own_bt u1), .second, .unset] [(.int (p1 &&& (128 : Int32)))])) _
          refine XS.ifNo X0.here hx rfl (hb hby dc27_24) rfl ((if0 _ _).trans (teq hc104).2) ?_
          refine XS.aloadN X0.here hx rfl (hb hby dc27_27) rfl rfl ?_
          refine XS.iloadN X0.here hx rfl (hb hby dc27_28) rfl ?_
          refine st105.trans ?_
          refine XS.aloadN X105.here hx rfl (hb hby dc27_32) rfl rfl ?_
          refine XS.iload X105.here hx rfl (hb hby dc27_33) rfl ?_
          show Steps p.tables e below (T105.setTop (mkF m 35 #[vR a1, vR b2, vI p1, vI u1, vI (0 : Int32), vJ (own_bt u1), .second, .unset] [(.int (0 : Int32)), (.ref b2)])) _
          refine XS.aloadN X105.here hx rfl (hb hby dc27_35) rfl rfl ?_
          refine XS.iload X105.here hx rfl (hb hby dc27_36) rfl ?_
          refine X105.laload hx (j := (0 : Int32)) (v := (.long m0)) Ar106.1 (State.isArrayOf_alike hZ.alike Ar106.2.1) Ar106.2.2 hin106 hat106 (g := (mkF m 38 #[vR a1, vR b2, vI p1, vI u1, vI (0 : Int32), vJ (own_bt u1), .second, .unset] [(.int (0 : Int32)), (.ref b2), (.int (0 : Int32)), (.ref b2)])) rfl rfl (hb hby dc27_38) _ ?_
          refine XS.lload X105.here hx rfl (hb hby dc27_39) rfl ?_
          refine XS.lor X105.here hx rfl (hb hby dc27_41) rfl ?_
          refine st108 _ ?_
          refine XS.goto X108.here hx rfl (pc0 := 43) (pc' := 66) rfl (hb hby dc27_43) (by decide) (by decide) ?_
          exact kt)
      have Uz : Us Z h108 n0 a1 (i1 + 1) l105_ w105 := U105.kp (Keep.of_wr W108) (fun x hx q => nin105 (List.mem_singleton.mp q ▸ hx))
      have mk2 : Mk l105_ (m0 ||| (own_bt u1)) m1 := by
        have q := Mk.add hu mk mm105
        rw [own_s0p hk102a, own_s1p hk102a] at q; exact q
      have O111 : Old Z n0 h108 := (O105.wr W108 g2)
      obtain ⟨z7, Gt⟩ := stT hx hZ hw hby hml hown (vI p1) (vI u1) (vI (0 : Int32)) (vJ (own_bt u1)) (.second) a1 b2 _ _ _ (i1 + 1) l105_ w105 ⟨_, _, X108, e108, N108, O111, pre109⟩ Uz (by omega) V108 mk2 (by decide) (by decide) (by decide) (by decide)
      obtain ⟨T110, L110, X110, e110, N110, O110, pre110⟩ := Gt
      obtain ⟨fs, hr, hrun, hended, hW, hsame⟩ := X110.leave (v := some (.int (1 : Int32))) (fun h => by rw [Bd.returns] at h; cases h)
      refine ⟨_, _, pre110 _ ?_, hrun, hended, _, _, rfl, ?_, ⟨_, rfl⟩, hW, hsame.mono (by decide) (by decide)⟩
      · skip
        show Steps p.tables e below (T110.setTop (mkF m 103 #[vR a1, vR b2, vI p1, vI u1, vI (0 : Int32), vJ (own_bt u1), .second, vI z7] [(.int (1 : Int32))])) _
        exact retN X110 hx (t := .boolean) Bd.returns (by simp) (hb hby dc27_103) hr
      · show Q_st Z a1 b2 i1 h0 n0 _ T110.heap _
        rw [e110]
        exact ⟨rfl, N110, O110, l105_, w105, _, _, _, Uz, V108, mk2, nin105⟩
    · skip
      obtain ⟨cq112, kq112, q112a, q112b, q112c⟩ := isOf hZ e0 U0.1
      obtain ⟨_, _, ⟨T112, L112, k112, n112⟩, -, X112, ⟨Lc112, hQ112, l112, y112, z112⟩, st112⟩ := X0.virtualBack hx (y := y_26) (z := y_26) hown (mvT hZ (wq hw 117 rfl)) (mvT hZ (wq hw 118 rfl)) (notFace_of_selects (args := #[]) (mvT hZ (wq hw 120 rfl))) (mvT hZ (wq hw 120 rfl)) (mvT hZ (wq hw 119 rfl)) (by decide) (backOf (W := 0) (rmRe l Z a0 hw [] a1 u1 i1 l1 w1 h0 n0 O0 U0 (by omega) hu SB) hZ (wq hw 121 rfl) (wq hw 2 rfl) (by decide) (by decide)) q112a q112c (g := (mkF m 48 #[vR a1, vR b2, vI p1, vI u1, vI (0 : Int32), vJ (own_bt u1), .second, .unset] [(.int u1), (.ref a1)])) rfl (by rw [hml]; rfl) (Steps.refl _) (argsL := [(.int u1)]) (rest := []) (lenOf pd_3 rfl) rfl (by show 2 * 0 + _ ≤ _; exact Nat.le_of_eq rfl) (hb hby dc27_48) (fun _ _ => ⟨rfl, e0, (by decide : 0 + 1 ≤ _), (by decide : 0 + 2 ≤ _)⟩)
      dsimp only [Pt.U, Pt.locs, Pt.cells, Pt.slots] at X112 l112 y112 z112 st112 hQ112
      subst l112 y112 z112
      obtain ⟨rfl, N112q, K112, l112_, w112, U112, mm112, ww112⟩ := hQ112
      have N112 := Fr.app N0 N112q
      have Vm112 := (Vm).keep K112 nin
      have nin112 : b2 ∉ w112 := fun q => (ww112 b2 q).elim nin (fun z => Nat.lt_irrefl _ (Nat.lt_of_lt_of_le (Vm).lt z))
      have O112 : Old Z n0 T112.heap := (O0).keep K112 U0.wge
      obtain ⟨cl113, Ar113, q113, S113, N113_, H113, G113⟩ := id Vm112
      have hin113 : ¬ ((0 : Int32) < 0 ∨ cl113.slots.size ≤ ((0 : Int32)).toNatClampNeg) := inb_of S113 ⟨by decide, by decide⟩
      have hat113 : cl113.slots[((0 : Int32)).toNatClampNeg]? = some (.long m0) := H113.at hin113 rfl
      obtain ⟨cl114, Ar114, q114, S114, N114_, H114, G114⟩ := id Vm112
      have hin114 : ¬ ((0 : Int32) < 0 ∨ cl114.slots.size ≤ ((0 : Int32)).toNatClampNeg) := inb_of S114 ⟨by decide, by decide⟩
      obtain ⟨T115, h115, X115, e115, W115, st115⟩ := stJ X112 hx hZ rfl Ar114 (j := (0 : Int32)) hin114 (g := (mkF m 65 #[vR a1, vR b2, vI p1, vI u1, vI (0 : Int32), vJ (own_bt u1), .second, .unset] [(.long (m0 &&& ((own_bt u1) ^^^ (-1 : Int64)))), (.int (0 : Int32)), (.ref b2)])) rfl rfl (hb hby dc27_65)
      have V115 : Arv Z h115 b2 km .long (2 : Int32) [(.long (m0 &&& ((own_bt u1) ^^^ (-1 : Int64)))), (.long m1)] (.long (0 : Int64)) := Arv.set Ar114 q114 S114 N114_ H114 G114 rfl W115 0 rfl (Nat.le_of_ble_eq_true rfl)
      have N115 := Fr.snoc X115 N112 g2
      have pre116 : ∀ t, Steps p.tables e below (T115.setTop (mkF m 66 #[vR a1, vR b2, vI p1, vI u1, vI (0 : Int32), vJ (own_bt u1), .second, .unset] [])) t → Steps p.tables e below (s₁.setTop (entryFrame m #[(.ref a1), (.ref b2), (.int p1)] 8)) t := fun t kt => pre103 t (by
          show Steps p.tables e below (s₁.setTop (mkF m 24 #[vR a1, vR b2, vI p1, vI u1, vI (0 : Int32), vJ (own_bt u1), .second, .unset] [(.int (p1 &&& (128 : Int32)))])) _
          refine XS.ifYes X0.here hx rfl (pc0 := 24) (pc' := 46) rfl (hb hby dc27_24) rfl ((if0 _ _).trans (feq hc104).2) (by decide) (by decide) ?_
          refine XS.aloadN X0.here hx rfl (hb hby dc27_46) rfl rfl ?_
          refine XS.iloadN X0.here hx rfl (hb hby dc27_47) rfl ?_
          refine st112.trans ?_
          show Steps p.tables e below (T112.setTop (mkF m 51 #[vR a1, vR b2, vI p1, vI u1, vI (0 : Int32), vJ (own_bt u1), .second, .unset] [])) _
          refine XS.aloadN X112.here hx rfl (hb hby dc27_51) rfl rfl ?_
          refine XS.iload X112.here hx rfl (hb hby dc27_52) rfl ?_
          refine XS.aloadN X112.here hx rfl (hb hby dc27_54) rfl rfl ?_
          refine XS.iload X112.here hx rfl (hb hby dc27_55) rfl ?_
          refine X112.laload hx (j := (0 : Int32)) (v := (.long m0)) Ar113.1 (State.isArrayOf_alike hZ.alike Ar113.2.1) Ar113.2.2 hin113 hat113 (g := (mkF m 57 #[vR a1, vR b2, vI p1, vI u1, vI (0 : Int32), vJ (own_bt u1), .second, .unset] [(.int (0 : Int32)), (.ref b2), (.int (0 : Int32)), (.ref b2)])) rfl rfl (hb hby dc27_57) _ ?_
          refine XS.lload X112.here hx rfl (hb hby dc27_58) rfl ?_
          refine X112.ldc2Long hx hown (mvT hZ (wq hw 122 rfl)) (g := (mkF m 60 #[vR a1, vR b2, vI p1, vI u1, vI (0 : Int32), vJ (own_bt u1), .second, .unset] [(.long (own_bt u1)), (.long m0), (.int (0 : Int32)), (.ref b2)])) rfl (hb hby dc27_60) _ ?_
          refine XS.lxor X112.here hx rfl (hb hby dc27_63) rfl ?_
          refine XS.land X112.here hx rfl (hb hby dc27_64) rfl ?_
          refine st115 _ ?_
          exact kt)
      have Uz : Us Z h115 n0 a1 (i1 + 1) l112_ w112 := U112.kp (Keep.of_wr W115) (fun x hx q => nin112 (List.mem_singleton.mp q ▸ hx))
      have mk2 : Mk l112_ (m0 &&& ((own_bt u1) ^^^ (-1 : Int64))) m1 := by
        have q := Mk.del hu mk mm112
        rw [own_c0p hk102a, own_c1p hk102a] at q; exact q
      have O118 : Old Z n0 h115 := (O112.wr W115 g2)
      obtain ⟨z7, Gt⟩ := stT hx hZ hw hby hml hown (vI p1) (vI u1) (vI (0 : Int32)) (vJ (own_bt u1)) (.second) a1 b2 _ _ _ (i1 + 1) l112_ w112 ⟨_, _, X115, e115, N115, O118, pre116⟩ Uz (by omega) V115 mk2 (by decide) (by decide) (by decide) (by decide)
      obtain ⟨T117, L117, X117, e117, N117, O117, pre117⟩ := Gt
      obtain ⟨fs, hr, hrun, hended, hW, hsame⟩ := X117.leave (v := some (.int (1 : Int32))) (fun h => by rw [Bd.returns] at h; cases h)
      refine ⟨_, _, pre117 _ ?_, hrun, hended, _, _, rfl, ?_, ⟨_, rfl⟩, hW, hsame.mono (by decide) (by decide)⟩
      · skip
        show Steps p.tables e below (T117.setTop (mkF m 103 #[vR a1, vR b2, vI p1, vI u1, vI (0 : Int32), vJ (own_bt u1), .second, vI z7] [(.int (1 : Int32))])) _
        exact retN X117 hx (t := .boolean) Bd.returns (by simp) (hb hby dc27_103) hr
      · show Q_st Z a1 b2 i1 h0 n0 _ T117.heap _
        rw [e117]
        exact ⟨rfl, N117, O117, l112_, w112, _, _, _, Uz, V115, mk2, nin112⟩
  · skip
    have pre119 : ∀ t, Steps p.tables e below (s₁.setTop (mkF m 24 #[vR a1, vR b2, vI p1, vI u1, vI (1 : Int32), vJ (own_bt u1), .second, .unset] [(.int (p1 &&& (128 : Int32)))])) t → Steps p.tables e below (s₁.setTop (entryFrame m #[(.ref a1), (.ref b2), (.int p1)] 8)) t := fun t kt => pre101 t (by
        show Steps p.tables e below (s₁.setTop (mkF m 9 #[vR a1, vR b2, vI p1, vI u1, .unset, .unset, .unset, .unset] [(.int ((u1.toUInt32 >>> ((6 : Int32) &&& 31).toUInt32).toInt32))])) _
        rw [hk102]
        show Steps p.tables e below (s₁.setTop (mkF m 9 #[vR a1, vR b2, vI p1, vI u1, .unset, .unset, .unset, .unset] [(.int (1 : Int32))])) _
        refine XS.istore X0.here hx rfl (hb hby dc27_9) rfl (l' := #[vR a1, vR b2, vI p1, vI u1, vI (1 : Int32), .unset, .unset, .unset]) rfl ?_
        refine XS.lconst X0.here hx rfl (hb hby dc27_11) ?_
        refine XS.iloadN X0.here hx rfl (hb hby dc27_12) rfl ?_
        refine XS.bipush X0.here hx rfl (hb hby dc27_13) ?_
        refine XS.iand X0.here hx rfl (hb hby dc27_15) rfl ?_
        refine XS.lshl X0.here hx rfl (hb hby dc27_16) rfl ?_
        show Steps p.tables e below (s₁.setTop (mkF m 17 #[vR a1, vR b2, vI p1, vI u1, vI (1 : Int32), .unset, .unset, .unset] [(.long ((1 : Int64) <<< ((u1 &&& (63 : Int32)) &&& 0x3f).toInt64))])) _
        rw [(own_bb2 u1)]
        refine XS.lstore X0.here hx rfl (hb hby dc27_17) rfl (l' := #[vR a1, vR b2, vI p1, vI u1, vI (1 : Int32), vJ (own_bt u1), .second, .unset]) rfl ?_
        refine XS.iloadN X0.here hx rfl (hb hby dc27_19) rfl ?_
        refine XS.sipush X0.here hx rfl (hb hby dc27_20) ?_
        refine XS.iand X0.here hx rfl (hb hby dc27_23) rfl ?_
        exact kt)
    by_cases hc120 : (p1 &&& (128 : Int32)) = (0 : Int32)
    · skip
      obtain ⟨cq121, kq121, q121a, q121b, q121c⟩ := isOf hZ e0 U0.1
      obtain ⟨_, _, ⟨T121, L121, k121, n121⟩, -, X121, ⟨Lc121, hQ121, l121, y121, z121⟩, st121⟩ := X0.virtualBack hx (y := y_25) (z := y_25) hown (mvT hZ (wq hw 24 rfl)) (mvT hZ (wq hw 25 rfl)) (notFace_of_selects (args := #[]) (mvT hZ (wq hw 27 rfl))) (mvT hZ (wq hw 27 rfl)) (mvT hZ (wq hw 26 rfl)) (by decide) (backOf (W := 0) (rmAdL l Z a0 hw [] a1 u1 i1 l1 w1 h0 n0 O0 U0 hi4 hu SB) hZ (wq hw 28 rfl) (wq hw 2 rfl) (by decide) (by decide)) q121a q121c (g := (mkF m 29 #[vR a1, vR b2, vI p1, vI u1, vI (1 : Int32), vJ (own_bt u1), .second, .unset] [(.int u1), (.ref a1)])) rfl (by rw [hml]; rfl) (Steps.refl _) (argsL := [(.int u1)]) (rest := []) (lenOf pd_3 rfl) rfl (by show 2 * 0 + _ ≤ _; exact Nat.le_of_eq rfl) (hb hby dc27_29) (fun _ _ => ⟨rfl, e0, (by decide : 0 + 7 ≤ _), (by decide : 0 + 14 ≤ _)⟩)
      dsimp only [Pt.U, Pt.locs, Pt.cells, Pt.slots] at X121 l121 y121 z121 st121 hQ121
      subst l121 y121 z121
      obtain ⟨rfl, N121q, K121, l121_, w121, U121, mm121, ww121⟩ := hQ121
      have N121 := Fr.app N0 N121q
      have Vm121 := (Vm).keep K121 nin
      have nin121 : b2 ∉ w121 := fun q => (ww121 b2 q).elim nin (fun z => Nat.lt_irrefl _ (Nat.lt_of_lt_of_le (Vm).lt z))
      have O121 : Old Z n0 T121.heap := (O0).keep K121 U0.wge
      obtain ⟨cl122, Ar122, q122, S122, N122_, H122, G122⟩ := id Vm121
      have hin122 : ¬ ((1 : Int32) < 0 ∨ cl122.slots.size ≤ ((1 : Int32)).toNatClampNeg) := inb_of S122 ⟨by decide, by decide⟩
      have hat122 : cl122.slots[((1 : Int32)).toNatClampNeg]? = some (.long m1) := H122.at hin122 rfl
      obtain ⟨cl123, Ar123, q123, S123, N123_, H123, G123⟩ := id Vm121
      have hin123 : ¬ ((1 : Int32) < 0 ∨ cl123.slots.size ≤ ((1 : Int32)).toNatClampNeg) := inb_of S123 ⟨by decide, by decide⟩
      obtain ⟨T124, h124, X124, e124, W124, st124⟩ := stJ X121 hx hZ rfl Ar123 (j := (1 : Int32)) hin123 (g := (mkF m 42 #[vR a1, vR b2, vI p1, vI u1, vI (1 : Int32), vJ (own_bt u1), .second, .unset] [(.long (m1 ||| (own_bt u1))), (.int (1 : Int32)), (.ref b2)])) rfl rfl (hb hby dc27_42)
      have V124 : Arv Z h124 b2 km .long (2 : Int32) [(.long m0), (.long (m1 ||| (own_bt u1)))] (.long (0 : Int64)) := Arv.set Ar123 q123 S123 N123_ H123 G123 rfl W124 1 rfl (Nat.le_of_ble_eq_true rfl)
      have N124 := Fr.snoc X124 N121 g2
      have pre125 : ∀ t, Steps p.tables e below (T124.setTop (mkF m 66 #[vR a1, vR b2, vI p1, vI u1, vI (1 : Int32), vJ (own_bt u1), .second, .unset] [])) t → Steps p.tables e below (s₁.setTop (entryFrame m #[(.ref a1), (.ref b2), (.int p1)] 8)) t := fun t kt => pre119 t (by
          show Steps p.tables e below (s₁.setTop (mkF m 24 #[vR a1, vR b2, vI p1, vI u1, vI (1 : Int32), vJ (own_bt u1), .second, .unset] [(.int (p1 &&& (128 : Int32)))])) _
          refine XS.ifNo X0.here hx rfl (hb hby dc27_24) rfl ((if0 _ _).trans (teq hc120).2) ?_
          refine XS.aloadN X0.here hx rfl (hb hby dc27_27) rfl rfl ?_
          refine XS.iloadN X0.here hx rfl (hb hby dc27_28) rfl ?_
          refine st121.trans ?_
          refine XS.aloadN X121.here hx rfl (hb hby dc27_32) rfl rfl ?_
          refine XS.iload X121.here hx rfl (hb hby dc27_33) rfl ?_
          refine XS.aloadN X121.here hx rfl (hb hby dc27_35) rfl rfl ?_
          refine XS.iload X121.here hx rfl (hb hby dc27_36) rfl ?_
          refine X121.laload hx (j := (1 : Int32)) (v := (.long m1)) Ar122.1 (State.isArrayOf_alike hZ.alike Ar122.2.1) Ar122.2.2 hin122 hat122 (g := (mkF m 38 #[vR a1, vR b2, vI p1, vI u1, vI (1 : Int32), vJ (own_bt u1), .second, .unset] [(.int (1 : Int32)), (.ref b2), (.int (1 : Int32)), (.ref b2)])) rfl rfl (hb hby dc27_38) _ ?_
          refine XS.lload X121.here hx rfl (hb hby dc27_39) rfl ?_
          refine XS.lor X121.here hx rfl (hb hby dc27_41) rfl ?_
          refine st124 _ ?_
          show Steps p.tables e below (T124.setTop (mkF m 43 #[vR a1, vR b2, vI p1, vI u1, vI (1 : Int32), vJ (own_bt u1), .second, .unset] [])) _
          refine XS.goto X124.here hx rfl (pc0 := 43) (pc' := 66) rfl (hb hby dc27_43) (by decide) (by decide) ?_
          exact kt)
      have Uz : Us Z h124 n0 a1 (i1 + 1) l121_ w121 := U121.kp (Keep.of_wr W124) (fun x hx q => nin121 (List.mem_singleton.mp q ▸ hx))
      have mk2 : Mk l121_ m0 (m1 ||| (own_bt u1)) := by
        have q := Mk.add hu mk mm121
        rw [own_s0n hk102a, own_s1n hk102a] at q; exact q
      have O127 : Old Z n0 h124 := (O121.wr W124 g2)
      obtain ⟨z7, Gt⟩ := stT hx hZ hw hby hml hown (vI p1) (vI u1) (vI (1 : Int32)) (vJ (own_bt u1)) (.second) a1 b2 _ _ _ (i1 + 1) l121_ w121 ⟨_, _, X124, e124, N124, O127, pre125⟩ Uz (by omega) V124 mk2 (by decide) (by decide) (by decide) (by decide)
      obtain ⟨T126, L126, X126, e126, N126, O126, pre126⟩ := Gt
      obtain ⟨fs, hr, hrun, hended, hW, hsame⟩ := X126.leave (v := some (.int (1 : Int32))) (fun h => by rw [Bd.returns] at h; cases h)
      refine ⟨_, _, pre126 _ ?_, hrun, hended, _, _, rfl, ?_, ⟨_, rfl⟩, hW, hsame.mono (by decide) (by decide)⟩
      · skip
        show Steps p.tables e below (T126.setTop (mkF m 103 #[vR a1, vR b2, vI p1, vI u1, vI (1 : Int32), vJ (own_bt u1), .second, vI z7] [(.int (1 : Int32))])) _
        exact retN X126 hx (t := .boolean) Bd.returns (by simp) (hb hby dc27_103) hr
      · show Q_st Z a1 b2 i1 h0 n0 _ T126.heap _
        rw [e126]
        exact ⟨rfl, N126, O126, l121_, w121, _, _, _, Uz, V124, mk2, nin121⟩
    · skip
      obtain ⟨cq128, kq128, q128a, q128b, q128c⟩ := isOf hZ e0 U0.1
      obtain ⟨_, _, ⟨T128, L128, k128, n128⟩, -, X128, ⟨Lc128, hQ128, l128, y128, z128⟩, st128⟩ := X0.virtualBack hx (y := y_26) (z := y_26) hown (mvT hZ (wq hw 117 rfl)) (mvT hZ (wq hw 118 rfl)) (notFace_of_selects (args := #[]) (mvT hZ (wq hw 120 rfl))) (mvT hZ (wq hw 120 rfl)) (mvT hZ (wq hw 119 rfl)) (by decide) (backOf (W := 0) (rmRe l Z a0 hw [] a1 u1 i1 l1 w1 h0 n0 O0 U0 (by omega) hu SB) hZ (wq hw 121 rfl) (wq hw 2 rfl) (by decide) (by decide)) q128a q128c (g := (mkF m 48 #[vR a1, vR b2, vI p1, vI u1, vI (1 : Int32), vJ (own_bt u1), .second, .unset] [(.int u1), (.ref a1)])) rfl (by rw [hml]; rfl) (Steps.refl _) (argsL := [(.int u1)]) (rest := []) (lenOf pd_3 rfl) rfl (by show 2 * 0 + _ ≤ _; exact Nat.le_of_eq rfl) (hb hby dc27_48) (fun _ _ => ⟨rfl, e0, (by decide : 0 + 1 ≤ _), (by decide : 0 + 2 ≤ _)⟩)
      dsimp only [Pt.U, Pt.locs, Pt.cells, Pt.slots] at X128 l128 y128 z128 st128 hQ128
      subst l128 y128 z128
      obtain ⟨rfl, N128q, K128, l128_, w128, U128, mm128, ww128⟩ := hQ128
      have N128 := Fr.app N0 N128q
      have Vm128 := (Vm).keep K128 nin
      have nin128 : b2 ∉ w128 := fun q => (ww128 b2 q).elim nin (fun z => Nat.lt_irrefl _ (Nat.lt_of_lt_of_le (Vm).lt z))
      have O128 : Old Z n0 T128.heap := (O0).keep K128 U0.wge
      obtain ⟨cl129, Ar129, q129, S129, N129_, H129, G129⟩ := id Vm128
      have hin129 : ¬ ((1 : Int32) < 0 ∨ cl129.slots.size ≤ ((1 : Int32)).toNatClampNeg) := inb_of S129 ⟨by decide, by decide⟩
      have hat129 : cl129.slots[((1 : Int32)).toNatClampNeg]? = some (.long m1) := H129.at hin129 rfl
      obtain ⟨cl130, Ar130, q130, S130, N130_, H130, G130⟩ := id Vm128
      have hin130 : ¬ ((1 : Int32) < 0 ∨ cl130.slots.size ≤ ((1 : Int32)).toNatClampNeg) := inb_of S130 ⟨by decide, by decide⟩
      obtain ⟨T131, h131, X131, e131, W131, st131⟩ := stJ X128 hx hZ rfl Ar130 (j := (1 : Int32)) hin130 (g := (mkF m 65 #[vR a1, vR b2, vI p1, vI u1, vI (1 : Int32), vJ (own_bt u1), .second, .unset] [(.long (m1 &&& ((own_bt u1) ^^^ (-1 : Int64)))), (.int (1 : Int32)), (.ref b2)])) rfl rfl (hb hby dc27_65)
      have V131 : Arv Z h131 b2 km .long (2 : Int32) [(.long m0), (.long (m1 &&& ((own_bt u1) ^^^ (-1 : Int64))))] (.long (0 : Int64)) := Arv.set Ar130 q130 S130 N130_ H130 G130 rfl W131 1 rfl (Nat.le_of_ble_eq_true rfl)
      have N131 := Fr.snoc X131 N128 g2
      have pre132 : ∀ t, Steps p.tables e below (T131.setTop (mkF m 66 #[vR a1, vR b2, vI p1, vI u1, vI (1 : Int32), vJ (own_bt u1), .second, .unset] [])) t → Steps p.tables e below (s₁.setTop (entryFrame m #[(.ref a1), (.ref b2), (.int p1)] 8)) t := fun t kt => pre119 t (by
          show Steps p.tables e below (s₁.setTop (mkF m 24 #[vR a1, vR b2, vI p1, vI u1, vI (1 : Int32), vJ (own_bt u1), .second, .unset] [(.int (p1 &&& (128 : Int32)))])) _
          refine XS.ifYes X0.here hx rfl (pc0 := 24) (pc' := 46) rfl (hb hby dc27_24) rfl ((if0 _ _).trans (feq hc120).2) (by decide) (by decide) ?_
          refine XS.aloadN X0.here hx rfl (hb hby dc27_46) rfl rfl ?_
          refine XS.iloadN X0.here hx rfl (hb hby dc27_47) rfl ?_
          refine st128.trans ?_
          refine XS.aloadN X128.here hx rfl (hb hby dc27_51) rfl rfl ?_
          refine XS.iload X128.here hx rfl (hb hby dc27_52) rfl ?_
          refine XS.aloadN X128.here hx rfl (hb hby dc27_54) rfl rfl ?_
          refine XS.iload X128.here hx rfl (hb hby dc27_55) rfl ?_
          refine X128.laload hx (j := (1 : Int32)) (v := (.long m1)) Ar129.1 (State.isArrayOf_alike hZ.alike Ar129.2.1) Ar129.2.2 hin129 hat129 (g := (mkF m 57 #[vR a1, vR b2, vI p1, vI u1, vI (1 : Int32), vJ (own_bt u1), .second, .unset] [(.int (1 : Int32)), (.ref b2), (.int (1 : Int32)), (.ref b2)])) rfl rfl (hb hby dc27_57) _ ?_
          refine XS.lload X128.here hx rfl (hb hby dc27_58) rfl ?_
          show Steps p.tables e below (T128.setTop (mkF m 60 #[vR a1, vR b2, vI p1, vI u1, vI (1 : Int32), vJ (own_bt u1), .second, .unset] [(.long (own_bt u1)), (.long m1), (.int (1 : Int32)), (.ref b2)])) _
          refine X128.ldc2Long hx hown (mvT hZ (wq hw 122 rfl)) (g := (mkF m 60 #[vR a1, vR b2, vI p1, vI u1, vI (1 : Int32), vJ (own_bt u1), .second, .unset] [(.long (own_bt u1)), (.long m1), (.int (1 : Int32)), (.ref b2)])) rfl (hb hby dc27_60) _ ?_
          refine XS.lxor X128.here hx rfl (hb hby dc27_63) rfl ?_
          refine XS.land X128.here hx rfl (hb hby dc27_64) rfl ?_
          refine st131 _ ?_
          exact kt)
      have Uz : Us Z h131 n0 a1 (i1 + 1) l128_ w128 := U128.kp (Keep.of_wr W131) (fun x hx q => nin128 (List.mem_singleton.mp q ▸ hx))
      have mk2 : Mk l128_ m0 (m1 &&& ((own_bt u1) ^^^ (-1 : Int64))) := by
        have q := Mk.del hu mk mm128
        rw [own_c0n hk102a, own_c1n hk102a] at q; exact q
      have O134 : Old Z n0 h131 := (O128.wr W131 g2)
      obtain ⟨z7, Gt⟩ := stT hx hZ hw hby hml hown (vI p1) (vI u1) (vI (1 : Int32)) (vJ (own_bt u1)) (.second) a1 b2 _ _ _ (i1 + 1) l128_ w128 ⟨_, _, X131, e131, N131, O134, pre132⟩ Uz (by omega) V131 mk2 (by decide) (by decide) (by decide) (by decide)
      obtain ⟨T133, L133, X133, e133, N133, O133, pre133⟩ := Gt
      obtain ⟨fs, hr, hrun, hended, hW, hsame⟩ := X133.leave (v := some (.int (1 : Int32))) (fun h => by rw [Bd.returns] at h; cases h)
      refine ⟨_, _, pre133 _ ?_, hrun, hended, _, _, rfl, ?_, ⟨_, rfl⟩, hW, hsame.mono (by decide) (by decide)⟩
      · skip
        show Steps p.tables e below (T133.setTop (mkF m 103 #[vR a1, vR b2, vI p1, vI u1, vI (1 : Int32), vJ (own_bt u1), .second, vI z7] [(.int (1 : Int32))])) _
        exact retN X133 hx (t := .boolean) Bd.returns (by simp) (hb hby dc27_103) hr
      · show Q_st Z a1 b2 i1 h0 n0 _ T133.heap _
        rw [e133]
        exact ⟨rfl, N133, O133, l128_, w128, _, _, _, Uz, V131, mk2, nin128⟩
theorem own_wlt {Z : State} {h : Heap} {n0 : Nat} {a1 : Addr} {i1 : Nat} {l1 : List Int32} {w1 : List Addr} (F : Us Z h n0 a1 i1 l1 w1) {x : Addr} (hx : x ∈ w1) : x < h.size := by
  obtain ⟨E, ga, C, hl, r⟩ := F
  rcases r with ⟨b1, rfl, gb, ne, Fn, Fb, ⟨kb, nb⟩, hs⟩ | ⟨c1, d1, m0, m1, rfl, gc, gd, n1, n2, Fn, Fb, B, r⟩
  · have lb : b1 < h.size := by rcases nb with ⟨t0, e, Vb⟩ | ⟨t0, t1, e, Vb⟩ | ⟨t0, e, Vb⟩ | ⟨t0, t1, e, Vb⟩ | ⟨t0, t1, e, Vb⟩ | ⟨t0, t1, t2, t3, e, Vb⟩ | ⟨t0, t1, t2, t3, e, Vb⟩ | ⟨t0, t1, t2, t3, e, Vb⟩ <;> exact Vb.lt
    exact (allS (P := fun x => x < h.size) E.lt (allS lb all0)) x hx
  · exact (allS (P := fun x => x < h.size) E.lt (allS B.exa.lt (allS B.ltd all0))) x hx
theorem ef_13 (m : MethodId) (x0 : Int32) (x1 : Int32) (x2 : Int32) (x3 : Int32) (x4 : Int32) : entryFrame m #[(.int x0), (.int x1), (.int x2), (.int x3), (.int x4)] maxLocals = mkF m 0 #[.val (.int x0), .val (.int x1), .val (.int x2), .val (.int x3), .val (.int x4), .unset, .unset, .unset] [] := by first | (simp [entryFrame, mkF, argsToLocals, Value.category, maxLocals]; done) | rfl
theorem pd_13 : parseMethodDescriptor "(Lcom/example/corral/corral/ownership/Units;[JI)Z" = some ⟨[(.object "com/example/corral/corral/ownership/Units"), (.array .long), .int], some .boolean⟩ := by decide +kernel
theorem rm0 (l : Launch) (Z : State) (a0 : Array Value) (hw : HwT a0 Z) (ws : List Jvm.Cond) (i0 i1 i2 i3 i4 : Int32) (h0 : Heap) (n0 : Nat) (O0 : Old Z n0 h0) (SB : Sta Z Z.heap sB "$assertionsDisabled" "Z" (.int (1 : Int32))) :
    MetFree l x (head1 (Jvm.Cond.code x code maxLocals ret :: ws) room_1) (fun a U => a = #[(.int i0), (.int i1), (.int i2), (.int i3), (.int i4)] ∧ Z.Warmed39 U.vm ∧ U.heap = h0) (fun _ _ _ _ _ => True) (fun _ U o U' => ∃ v L, o = .returned v ∧ QL n0 v U'.heap L ∧ FrameEnd U o U' L room_1.cells room_1.slots) := by
  refine MetFree.of_bodySF (plainFor_of_name pn_5) hisR ?_
  intro p e s m args below meth c s₁ Bd hml0 hP hK
  obtain ⟨rfl, hZ, hh⟩ := hP
  have hx := Bd.exec
  have hby := Bd.bytes
  have hml : c.maxLocals = 8 := hml0
  have hown : s.vm.findClass "com/example/corral/corral/ownership/UnitsIsEmptyPinLaw" = some m.cls := findClass_of_methodNamed Bd.named
  have hnm := (name_of_methodNamed Bd.named Bd.method).1
  have X0 : Stand p l e room_1 s m #[(.int i0), (.int i1), (.int i2), (.int i3), (.int i4)] below meth c s₁ [] 0 0 := Stand.of_body Bd
  have e0 : s₁.heap = h0 := by rw [← hh, Bd.state]; rfl
  have N0 := Fr.nil n0
  have pre0 : ∀ t, Steps p.tables e below (s₁.setTop (mkF m 0 #[vI i0, vI i1, vI i2, vI i3, vI i4, .unset, .unset, .unset] [])) t → Steps p.tables e below (s₁.setTop (entryFrame m #[(.int i0), (.int i1), (.int i2), (.int i3), (.int i4)] maxLocals)) t := fun t k => castTop (ef_13 m i0 i1 i2 i3 i4) k
  obtain ⟨T101, h101, X101, e101, E101, A101, D101, -, st101⟩ := newO X0 hx hZ hown (wq hw 0 rfl) (wq hw 1 rfl) (wq hw 2 rfl) e0 (g := (mkF m 0 #[vI i0, vI i1, vI i2, vI i3, vI i4, .unset, .unset, .unset] [])) rfl (hb hby at_0) (by decide) (by decide)
  obtain ⟨b101, g101⟩ : ∃ z, z = h0.size := ⟨_, rfl⟩
  rw [← g101] at A101 D101 st101
  have gb101 : n0 ≤ b101 := by rw [g101, ← O0.1]; exact O0.2.1
  have F101_numbers : Fld Z h101 b101 sU "numbers" "[I" .null := D101 (Or.inl (wq hw 11 rfl)) (ty := (.array .int)) (by decide)
  have F101_count : Fld Z h101 b101 sU "count" "I" (.int (0 : Int32)) := D101 (Or.inl (wq hw 19 rfl)) (ty := .int) (by decide)
  have F101_bits : Fld Z h101 b101 sU "bits" "Ljava/util/BitSet;" .null := D101 (Or.inl (wq hw 30 rfl)) (ty := (.object sB)) (by decide)
  have O102 : Old Z n0 h101 := (O0.ext E101)
  obtain ⟨_, _, ⟨T103, L103, k103, n103⟩, -, X103, ⟨Lc103, hQ103, l103, y103, z103⟩, st103⟩ := X101.specialBack hx (y := y_22) rfl hown (mvT hZ (wq hw 3 rfl)) (mvT hZ (wq hw 4 rfl)) (mvT hZ (wq hw 5 rfl)) (by decide) (backOf (W := 1) (rmUi l Z a0 hw [] b101 h101 n0 O102 A101 F101_numbers F101_bits F101_count gb101) hZ (wq hw 5 rfl) (wq hw 2 rfl) (by decide) (by decide)) (g := (mkF m 4 #[vI i0, vI i1, vI i2, vI i3, vI i4, .unset, .unset, .unset] [(.ref b101), (.ref b101)])) rfl (by rw [hml]; rfl) (Steps.refl _) (a := b101) (argsL := []) (rest := [(.ref b101)]) (lenOf pd_4 rfl) rfl (by show 2 * 0 + _ ≤ _; exact Nat.le_of_eq rfl) (hb hby at_4) (fun _ _ => ⟨rfl, e101, (by decide : 1 + 1 ≤ _), (by decide : 3 + 1 ≤ _)⟩)
  dsimp only [Pt.U, Pt.locs, Pt.cells, Pt.slots] at X103 l103 y103 z103 st103 hQ103
  subst l103 y103 z103
  obtain ⟨rfl, N103q, K103, w103, U103, ww103⟩ := hQ103
  have N103 := Fr.app N0 N103q
  have O103 : Old Z n0 T103.heap := (O102).keep K103 (allS gb101 all0)
  obtain ⟨T104, h104, k104, X104, e104, E104, A104, st104⟩ := newP X103 hx hZ (wq hw 12 rfl) rfl (g := (mkF m 10 #[vI i0, vI i1, vI i2, vI i3, vI i4, vR b101, .unset, .unset] [(.int (2 : Int32))])) rfl (hb hby at_10) rfl (by decide) (cap := 2) (by decide) (by decide) (by decide) (by decide)
  obtain ⟨b104, g104⟩ : ∃ z, z = T103.heap.size := ⟨_, rfl⟩
  rw [← g104] at A104 st104
  have gb104 : n0 ≤ b104 := by rw [g104, ← O103.1]; exact O103.2.1
  have ne104_b101 : b101 ≠ b104 := by rw [g104]; exact Nat.ne_of_lt (U103.1).lt
  have V104 : Arv Z h104 b104 k104 .long (2 : Int32) [(.long (0 : Int64)), (.long (0 : Int64))] (.long (0 : Int64)) := (Arv.new A104 (by decide)).pad (pad_rep [] (.long (0 : Int64)) 2)
  have Uy : Us Z h104 n0 b101 0 [] w103 := U103.kp (Keep.ext (Keep.refl _ []) E104) (fun _ _ => nin0)
  have O105 : Old Z n0 h104 := (O103.ext E104)
  obtain ⟨cq106, kq106, q106a, q106b, q106c⟩ := isOf hZ e104 Uy.1
  obtain ⟨_, _, ⟨T106, L106, k106, n106⟩, -, X106, ⟨Lc106, hQ106, l106, y106, z106⟩, st106⟩ := X104.virtualBack hx (y := y_23) (z := y_23) hown (mvT hZ (wq hw 13 rfl)) (mvT hZ (wq hw 14 rfl)) (notFace_of_selects (args := #[]) (mvT hZ (wq hw 16 rfl))) (mvT hZ (wq hw 16 rfl)) (mvT hZ (wq hw 15 rfl)) (by decide) (backOf (W := 0) (rmEm1 l Z a0 hw [] b101 (0 : Int32) h104 n0 O105 Uy.cnt rfl) hZ (wq hw 17 rfl) (wq hw 2 rfl) (by decide) (by decide)) q106a q106c (g := (mkF m 16 #[vI i0, vI i1, vI i2, vI i3, vI i4, vR b101, vR b104, .unset] [(.ref b101)])) rfl (by rw [hml]; rfl) (Steps.refl _) (argsL := []) (rest := []) (lenOf pd_12 rfl) rfl (by show 2 * 0 + _ ≤ _; exact Nat.le_of_eq rfl) (hb hby at_16) (fun _ _ => ⟨rfl, e104, (by decide : 3 + 0 ≤ _), (by decide : 6 + 0 ≤ _)⟩)
  dsimp only [Pt.U, Pt.locs, Pt.cells, Pt.slots] at X106 l106 y106 z106 st106 hQ106
  subst l106 y106 z106
  obtain ⟨rfl, N106q, hh106⟩ := hQ106
  have N106 := Fr.app N103 N106q
  have nin0_ : b104 ∉ w103 := fun q => Nat.lt_irrefl _ (Nat.lt_of_le_of_lt (Nat.le_of_eq g104.symm) (own_wlt U103  q))
  obtain ⟨_, _, ⟨T107, L107, k107, n107⟩, -, X107, ⟨Lc107, hQ107, l107, y107, z107⟩, st107⟩ := Jvm.LawKit.callS X106 hx (y := y_27) hown (mvT hZ (wq hw 20 rfl)) (mvT hZ (wq hw 21 rfl)) (mvT hZ (wq hw 22 rfl)) (mvT hZ (wq hw 23 rfl)) (by decide) (backOf (W := 1) (rmStE l Z a0 hw [] b101 b104 i0 0 [] w103 k104 (0 : Int64) (0 : Int64) h104 n0 O105 Uy (by decide) V104 Mk.zero nin0_ gb104 SB) hZ (wq hw 23 rfl) (wq hw 22 rfl) (by decide) (by decide)) (g := (mkF m 28 #[vI i0, vI i1, vI i2, vI i3, vI i4, vR b101, vR b104, vI (1 : Int32)] [(.int i0), (.ref b104), (.ref b101), (.int (1 : Int32))])) rfl (by rw [hml]; rfl) (argsL := [(.ref b101), (.ref b104), (.int i0)]) (rest := [(.int (1 : Int32))]) (lenOf pd_13 rfl) rfl (by show 2 * 0 + _ ≤ _; exact Nat.le_of_eq rfl) (hb hby at_28) (fun _ _ => ⟨rfl, hh106, (by decide : 3 + 3 ≤ _), (by decide : 6 + 6 ≤ _)⟩)
  dsimp only [Pt.U, Pt.locs, Pt.cells, Pt.slots] at X107 l107 y107 z107 st107 hQ107
  subst l107 y107 z107
  obtain ⟨rfl, N107q, O107, l107_, w107, k2107, m0107, m1107, U107, Vm107, mk107, nin107⟩ := hQ107
  have N107 := Fr.app N106 N107q
  obtain ⟨_, _, ⟨T108, L108, k108, n108⟩, -, X108, ⟨Lc108, hQ108, l108, y108, z108⟩, st108⟩ := Jvm.LawKit.callS X107 hx (y := y_27) hown (mvT hZ (wq hw 20 rfl)) (mvT hZ (wq hw 21 rfl)) (mvT hZ (wq hw 22 rfl)) (mvT hZ (wq hw 23 rfl)) (by decide) (backOf (W := 1) (rmStE l Z a0 hw [] b101 b104 i1 1 l107_ w107 k2107 m0107 m1107 T107.heap n0 O107 U107 (by decide) Vm107 mk107 nin107 gb104 SB) hZ (wq hw 23 rfl) (wq hw 22 rfl) (by decide) (by decide)) (g := (mkF m 41 #[vI i0, vI i1, vI i2, vI i3, vI i4, vR b101, vR b104, vI (1 : Int32)] [(.int i1), (.ref b104), (.ref b101), (.int (1 : Int32))])) rfl (by rw [hml]; rfl) (argsL := [(.ref b101), (.ref b104), (.int i1)]) (rest := [(.int (1 : Int32))]) (lenOf pd_13 rfl) rfl (by show 2 * 0 + _ ≤ _; exact Nat.le_of_eq rfl) (hb hby at_41) (fun _ _ => ⟨rfl, rfl, (by decide : 6 + 3 ≤ _), (by decide : 12 + 6 ≤ _)⟩)
  dsimp only [Pt.U, Pt.locs, Pt.cells, Pt.slots] at X108 l108 y108 z108 st108 hQ108
  subst l108 y108 z108
  obtain ⟨rfl, N108q, O108, l108_, w108, k2108, m0108, m1108, U108, Vm108, mk108, nin108⟩ := hQ108
  have N108 := Fr.app N107 N108q
  obtain ⟨_, _, ⟨T109, L109, k109, n109⟩, -, X109, ⟨Lc109, hQ109, l109, y109, z109⟩, st109⟩ := Jvm.LawKit.callS X108 hx (y := y_27) hown (mvT hZ (wq hw 20 rfl)) (mvT hZ (wq hw 21 rfl)) (mvT hZ (wq hw 22 rfl)) (mvT hZ (wq hw 23 rfl)) (by decide) (backOf (W := 1) (rmStE l Z a0 hw [] b101 b104 i2 2 l108_ w108 k2108 m0108 m1108 T108.heap n0 O108 U108 (by decide) Vm108 mk108 nin108 gb104 SB) hZ (wq hw 23 rfl) (wq hw 22 rfl) (by decide) (by decide)) (g := (mkF m 54 #[vI i0, vI i1, vI i2, vI i3, vI i4, vR b101, vR b104, vI (1 : Int32)] [(.int i2), (.ref b104), (.ref b101), (.int (1 : Int32))])) rfl (by rw [hml]; rfl) (argsL := [(.ref b101), (.ref b104), (.int i2)]) (rest := [(.int (1 : Int32))]) (lenOf pd_13 rfl) rfl (by show 2 * 0 + _ ≤ _; exact Nat.le_of_eq rfl) (hb hby at_54) (fun _ _ => ⟨rfl, rfl, (by decide : 9 + 3 ≤ _), (by decide : 18 + 6 ≤ _)⟩)
  dsimp only [Pt.U, Pt.locs, Pt.cells, Pt.slots] at X109 l109 y109 z109 st109 hQ109
  subst l109 y109 z109
  obtain ⟨rfl, N109q, O109, l109_, w109, k2109, m0109, m1109, U109, Vm109, mk109, nin109⟩ := hQ109
  have N109 := Fr.app N108 N109q
  obtain ⟨_, _, ⟨T110, L110, k110, n110⟩, -, X110, ⟨Lc110, hQ110, l110, y110, z110⟩, st110⟩ := Jvm.LawKit.callS X109 hx (y := y_27) hown (mvT hZ (wq hw 20 rfl)) (mvT hZ (wq hw 21 rfl)) (mvT hZ (wq hw 22 rfl)) (mvT hZ (wq hw 23 rfl)) (by decide) (backOf (W := 1) (rmStE l Z a0 hw [] b101 b104 i3 3 l109_ w109 k2109 m0109 m1109 T109.heap n0 O109 U109 (by decide) Vm109 mk109 nin109 gb104 SB) hZ (wq hw 23 rfl) (wq hw 22 rfl) (by decide) (by decide)) (g := (mkF m 67 #[vI i0, vI i1, vI i2, vI i3, vI i4, vR b101, vR b104, vI (1 : Int32)] [(.int i3), (.ref b104), (.ref b101), (.int (1 : Int32))])) rfl (by rw [hml]; rfl) (argsL := [(.ref b101), (.ref b104), (.int i3)]) (rest := [(.int (1 : Int32))]) (lenOf pd_13 rfl) rfl (by show 2 * 0 + _ ≤ _; exact Nat.le_of_eq rfl) (hb hby at_67) (fun _ _ => ⟨rfl, rfl, (by decide : 12 + 3 ≤ _), (by decide : 24 + 6 ≤ _)⟩)
  dsimp only [Pt.U, Pt.locs, Pt.cells, Pt.slots] at X110 l110 y110 z110 st110 hQ110
  subst l110 y110 z110
  obtain ⟨rfl, N110q, O110, l110_, w110, k2110, m0110, m1110, U110, Vm110, mk110, nin110⟩ := hQ110
  have N110 := Fr.app N109 N110q
  obtain ⟨_, _, ⟨T111, L111, k111, n111⟩, -, X111, ⟨Lc111, hQ111, l111, y111, z111⟩, st111⟩ := Jvm.LawKit.callS X110 hx (y := y_27) hown (mvT hZ (wq hw 20 rfl)) (mvT hZ (wq hw 21 rfl)) (mvT hZ (wq hw 22 rfl)) (mvT hZ (wq hw 23 rfl)) (by decide) (backOf (W := 1) (rmStL l Z a0 hw [] b101 b104 i4 4 l110_ w110 k2110 m0110 m1110 T110.heap n0 O110 U110 (by decide) Vm110 mk110 nin110 gb104 SB) hZ (wq hw 23 rfl) (wq hw 22 rfl) (by decide) (by decide)) (g := (mkF m 81 #[vI i0, vI i1, vI i2, vI i3, vI i4, vR b101, vR b104, vI (1 : Int32)] [(.int i4), (.ref b104), (.ref b101), (.int (1 : Int32))])) rfl (by rw [hml]; rfl) (argsL := [(.ref b101), (.ref b104), (.int i4)]) (rest := [(.int (1 : Int32))]) (lenOf pd_13 rfl) rfl (by show 2 * 0 + _ ≤ _; exact Nat.le_of_eq rfl) (hb hby at_81) (fun _ _ => ⟨rfl, rfl, (by decide : 15 + 7 ≤ _), (by decide : 30 + 14 ≤ _)⟩)
  dsimp only [Pt.U, Pt.locs, Pt.cells, Pt.slots] at X111 l111 y111 z111 st111 hQ111
  subst l111 y111 z111
  obtain ⟨rfl, N111q, O111, l111_, w111, k2111, m0111, m1111, U111, Vm111, mk111, nin111⟩ := hQ111
  have N111 := Fr.app N110 N111q
  obtain ⟨fs, hr, hrun, hended, hW, hsame⟩ := X111.leave (v := some (.int (1 : Int32))) (fun h => by rw [Bd.returns] at h; cases h)
  refine ⟨_, _, pre0 _ ?_, hrun, hended, _, _, rfl, ?_, ⟨_, rfl⟩, hW, hsame.mono (by decide) (by decide)⟩
  · skip
    show Steps p.tables e below (s₁.setTop (mkF m 0 #[vI i0, vI i1, vI i2, vI i3, vI i4, .unset, .unset, .unset] [])) _
    refine st101 _ ?_
    refine XS.dup X101.here hx rfl (hb hby at_3) rfl rfl ?_
    refine st103.trans ?_
    refine XS.astore X103.here hx rfl (hb hby at_7) rfl rfl (l' := #[vI i0, vI i1, vI i2, vI i3, vI i4, vR b101, .unset, .unset]) rfl ?_
    refine XS.iconst X103.here hx rfl (hb hby at_9) ?_
    refine st104 _ ?_
    refine XS.astore X104.here hx rfl (hb hby at_12) rfl rfl (l' := #[vI i0, vI i1, vI i2, vI i3, vI i4, vR b101, vR b104, .unset]) rfl ?_
    refine XS.aload X104.here hx rfl (hb hby at_14) rfl rfl ?_
    refine st106.trans ?_
    refine XS.istore X106.here hx rfl (hb hby at_19) rfl (l' := #[vI i0, vI i1, vI i2, vI i3, vI i4, vR b101, vR b104, vI (1 : Int32)]) rfl ?_
    refine XS.iload X106.here hx rfl (hb hby at_21) rfl ?_
    show Steps p.tables e below (T106.setTop (mkF m 23 #[vI i0, vI i1, vI i2, vI i3, vI i4, vR b101, vR b104, vI (1 : Int32)] [(.int (1 : Int32))])) _
    refine XS.aload X106.here hx rfl (hb hby at_23) rfl rfl ?_
    refine XS.aload X106.here hx rfl (hb hby at_25) rfl rfl ?_
    refine XS.iloadN X106.here hx rfl (hb hby at_27) rfl ?_
    refine st107 _ ?_
    refine XS.iand X107.here hx rfl (hb hby at_31) rfl ?_
    refine XS.istore X107.here hx rfl (hb hby at_32) rfl (l' := #[vI i0, vI i1, vI i2, vI i3, vI i4, vR b101, vR b104, vI (1 : Int32)]) rfl ?_
    refine XS.iload X107.here hx rfl (hb hby at_34) rfl ?_
    refine XS.aload X107.here hx rfl (hb hby at_36) rfl rfl ?_
    refine XS.aload X107.here hx rfl (hb hby at_38) rfl rfl ?_
    refine XS.iloadN X107.here hx rfl (hb hby at_40) rfl ?_
    refine st108 _ ?_
    refine XS.iand X108.here hx rfl (hb hby at_44) rfl ?_
    show Steps p.tables e below (T108.setTop (mkF m 45 #[vI i0, vI i1, vI i2, vI i3, vI i4, vR b101, vR b104, vI (1 : Int32)] [(.int (1 : Int32))])) _
    refine XS.istore X108.here hx rfl (hb hby at_45) rfl (l' := #[vI i0, vI i1, vI i2, vI i3, vI i4, vR b101, vR b104, vI (1 : Int32)]) rfl ?_
    refine XS.iload X108.here hx rfl (hb hby at_47) rfl ?_
    refine XS.aload X108.here hx rfl (hb hby at_49) rfl rfl ?_
    refine XS.aload X108.here hx rfl (hb hby at_51) rfl rfl ?_
    refine XS.iloadN X108.here hx rfl (hb hby at_53) rfl ?_
    refine st109 _ ?_
    refine XS.iand X109.here hx rfl (hb hby at_57) rfl ?_
    refine XS.istore X109.here hx rfl (hb hby at_58) rfl (l' := #[vI i0, vI i1, vI i2, vI i3, vI i4, vR b101, vR b104, vI (1 : Int32)]) rfl ?_
    refine XS.iload X109.here hx rfl (hb hby at_60) rfl ?_
    refine XS.aload X109.here hx rfl (hb hby at_62) rfl rfl ?_
    refine XS.aload X109.here hx rfl (hb hby at_64) rfl rfl ?_
    refine XS.iloadN X109.here hx rfl (hb hby at_66) rfl ?_
    show Steps p.tables e below (T109.setTop (mkF m 67 #[vI i0, vI i1, vI i2, vI i3, vI i4, vR b101, vR b104, vI (1 : Int32)] [(.int i3), (.ref b104), (.ref b101), (.int (1 : Int32))])) _
    refine st110 _ ?_
    refine XS.iand X110.here hx rfl (hb hby at_70) rfl ?_
    refine XS.istore X110.here hx rfl (hb hby at_71) rfl (l' := #[vI i0, vI i1, vI i2, vI i3, vI i4, vR b101, vR b104, vI (1 : Int32)]) rfl ?_
    refine XS.iload X110.here hx rfl (hb hby at_73) rfl ?_
    refine XS.aload X110.here hx rfl (hb hby at_75) rfl rfl ?_
    refine XS.aload X110.here hx rfl (hb hby at_77) rfl rfl ?_
    refine XS.iload X110.here hx rfl (hb hby at_79) rfl ?_
    refine st111 _ ?_
    refine XS.iand X111.here hx rfl (hb hby at_84) rfl ?_
    refine XS.istore X111.here hx rfl (hb hby at_85) rfl (l' := #[vI i0, vI i1, vI i2, vI i3, vI i4, vR b101, vR b104, vI (1 : Int32)]) rfl ?_
    refine XS.iload X111.here hx rfl (hb hby at_87) rfl ?_
    exact retN X111 hx (t := .boolean) Bd.returns (by simp) (hb hby at_89) hr
  · show QL n0 _ T111.heap _
    exact ⟨rfl, N111⟩
set_option maxRecDepth 65536 in
set_option maxHeartbeats 40000000 in
theorem comes_1 {Post : Tables → Env → Array Value → State → Outcome → State → Prop} (hpost : ∀ tb e args s v u, (limb_1_1.after args s (.returned v) u = true ∧ limb_1_2.after args s (.returned v) u = true ∧ True) → FrameEnd s (.returned v) u (Jvm.fieldLocs frame_1_writes args s ++ Jvm.arrayLocs frame_1_arrays args s ++ Jvm.staticLocs frame_1_statics s) 24 128 → Post tb e args s (.returned v) u) :
    ArmFor flags0 classFile x code maxLocals ret World_1 tables_1 room_1 Calls_1 rest_1 Pre_1 Post := by
  intro l hfl _ _ p e ha hc hk s m args below hf hA hF happ hP
  obtain ⟨hcalls, hrest, hpre⟩ := hP
  obtain ⟨-, -, -, hnamed, -, -, -, hat⟩ := (Spec.applies_iff hf).mp happ
  obtain ⟨hg, hn⟩ := and_e (Cond.before_iff.mp (show (Jvm.Cond.and given_1 narrow_1).before args s = true from hpre))
  obtain ⟨g0, r0⟩ := and_e hg
  obtain ⟨g1, r1⟩ := and_e r0
  obtain ⟨g2, r2⟩ := and_e r1
  obtain ⟨g3, r3⟩ := and_e r2
  obtain ⟨g4, r4⟩ := and_e r3
  obtain ⟨w0, w1, w2, w3, w4, rfl⟩ : ∃ w0 w1 w2 w3 w4 : Value, args = #[w0, w1, w2, w3, w4] := by
    have hs : args.size = 5 := by simpa [Cond.value, given_1] using g0
    obtain ⟨L⟩ := args
    match L, hs with
    | [w0, w1, w2, w3, w4], _ => exact ⟨w0, w1, w2, w3, w4, rfl⟩
  have hw := fun d (hd : d ∈ tables_1) => atoms_spec (ws := Jvm.Cond.code x code maxLocals ret :: tables_1) hat d (List.mem_cons_of_mem _ hd)
  have hfit : Fit s := fun {y c} hc i hi => by
    obtain ⟨ha, rfl⟩ := Array.getElem?_eq_some_iff.mp hc
    have q := List.all_eq_true.mp ((Array.all_eq_true_iff_forall_mem.mp hF) _ (Array.getElem_mem ha)) i (List.mem_range.mpr hi)
    simpa [Array.getElem?_eq_getElem hi] using q
  obtain ⟨hsets, hown0⟩ := atoms_of _ (rest_1_c_eq ▸ (show rest_1_c.before _ s = true from hrest))
  have hr0 := Cond.before_iff.mp hown0
  obtain ⟨i0, ei0⟩ := is_v g1
  obtain rfl : w0 = (.int i0) := Option.some.inj ei0
  obtain ⟨i1, ei1⟩ := is_v g2
  obtain rfl : w1 = (.int i1) := Option.some.inj ei1
  obtain ⟨i2, ei2⟩ := is_v g3
  obtain rfl : w2 = (.int i2) := Option.some.inj ei2
  obtain ⟨i3, ei3⟩ := is_v g4
  obtain rfl : w3 = (.int i3) := Option.some.inj ei3
  obtain ⟨i4, ei4⟩ := is_v r4
  obtain rfl : w4 = (.int i4) := Option.some.inj ei4
  have SB := own_sI ⟨(wq hw 71 rfl), hsets _ (List.mem_of_getElem? (i := 0) rfl)⟩ (Cond.before_iff.mp (hsets _ (List.mem_of_getElem? (i := 2) rfl)))
  obtain ⟨n, o, h1, h2, h3, _, L, rfl, ⟨rfl, N⟩, hq⟩ := rm0 l s _ hw tables_1 i0 i1 i2 i3 i4 s.heap s.heap.size (Old.start s) SB p e ha hc hk s m _ below hf ((Spec.applies_iff_loose hf).mp happ).1 ⟨rfl, State.Warmed39.refl s, rfl⟩ trivial
  refine ⟨n, _, h1, h2, h3, hpost _ _ _ _ _ _ ⟨Cond.after_iff.mpr rfl, Cond.after_iff.mpr (eq_i res_at (Term.int_eval (1)) rfl), trivial⟩ ⟨hq.1, hq.2.1, (hq.2.2.sift fun y hy => Or.inr (N y hy)).mono (by decide) (by decide)⟩⟩
theorem main_1_1 : Claimed_1_1 := comes_1 fun _ _ _ _ _ _ h hF => ⟨h.1, hF⟩
theorem main_1_2 : Claimed_1_2 := comes_1 fun _ _ _ _ _ _ h hF => ⟨h.2.1, hF⟩
end Jvm.Pilot.@@N@@
namespace Jvm.Pilot.@@N@@
open Jvm Jvm.ClassFile Sem Op Lib Jvm.Free Jvm.Stand Jvm.Pilot.@@N@@.Jvm.D
/-! MADE BY PROGRAM (witnessworld.py) out of the Statement's table words and the real class files: 21 classes; the members and pool entries that the words name. The judged class is class 1, her method 1. -/
namespace start1
open Jvm.ClassFile
def u (s : String) : CpInfo := .utf8 (stringToUtf16 s)
/-- a pool by its gaps: so many unusable entries, then the entry; so many at the end -/
def gap : Nat → List CpInfo → List CpInfo
  | 0, r => r
  | n + 1, r => .unusable :: gap n r
def poolList (es : List (Nat × CpInfo)) (last : Nat) : List CpInfo := es.foldr (fun e r => gap e.1 (e.2 :: r)) (gap last [])
def pool (es : List (Nat × CpInfo)) (last : Nat) : Array CpInfo := ⟨poolList es last⟩
def fileOf (pool : Array CpInfo) (this : Nat) (attrs : Array Attribute := #[]) (ms : Array MethodInfo := #[]) (fl : Nat := 33) (sup : Nat := 0) (ifs : Array Nat := #[]) (fds : Array FieldInfo := #[]) : ClassFile where
  minorVersion := 0
  majorVersion := 65
  constantPool := pool
  accessFlags := fl
  thisClass := this
  superClass := sup
  interfaces := ifs
  fields := fds
  methods := ms
  attributes := attrs
def plain (name : String) (sup : Option ClassId) : Class where
  name := name
  kind := .ordinary
  loader := none
  accessFlags := 33
  super := sup
  interfaces := #[]
  cf := none
  fields := #[]
  methods := #[]
  instanceTypes := #[]
  staticTypes := #[]
  resolved := #[]
  callSites := []
  init := .initialized
  statics := none
  mirror := none

def pool0 : Array CpInfo := pool [(5, u "<init>"), (0, u "()V"), (1, .class_ 10), (1, u "java/lang/Object")] 113

def k0c0 : Code := { maxStack := 0, maxLocals := 1, code := object_method_1_code, exceptionTable := #[], attributes := #[] }
def k0m0 : Method := { name := "<init>", desc := "()V", sig := { parameters := [], returnType := none }, accessFlags := 1, code := some k0c0 }
/-- java/lang/Object -/
def k0 : Class := { plain "java/lang/Object" none with
  accessFlags := 33
  interfaces := #[]
  cf := some (fileOf pool0 8 #[] #[{ accessFlags := 1, nameIndex := 5, descriptorIndex := 6, attributes := #[] }] 33 0 #[] #[])
  fields := #[]
  methods := #[k0m0]
  instanceTypes := #[]
  staticTypes := #[]
  resolved := Array.replicate 124 none
  statics := none }

def pool1 : Array CpInfo := pool [(2, .class_ 4), (0, .nameAndType 5 6), (0, u "java/lang/Object"), (0, u "<init>"), (0, u "()V"), (0, .class_ 8), (0, u "com/example/corral/corral/ownership/Units"), (0, .methodref 7 3), (0, .methodref 7 11), (0, .nameAndType 12 13), (0, u "isEmpty"), (0, u "()Z"), (0, .methodref 15 16), (0, .class_ 17), (0, .nameAndType 18 19), (0, u "com/example/corral/corral/ownership/UnitsIsEmptyPinLaw"), (0, u "step"), (0, u "(Lcom/example/corral/corral/ownership/Units;[JI)Z"), (0, .methodref 7 21), (0, .nameAndType 22 23), (0, u "add"), (0, u "(I)V"), (0, .methodref 7 25), (0, .nameAndType 26 23), (0, u "remove"), (0, .long 18446744073709551615), (3, u "law"), (0, u "(IIIII)Z")] 3

def k1m0 : Method := { name := "<init>", desc := "()V", sig := { parameters := [], returnType := none }, accessFlags := 1, code := none }
def k1c1 : Code := { maxStack := 4, maxLocals := 8, code := code, exceptionTable := #[], attributes := #[] }
def k1m1 : Method := { name := "law", desc := "(IIIII)Z", sig := { parameters := [.int, .int, .int, .int, .int], returnType := some .boolean }, accessFlags := 9, code := some k1c1 }
def k1c2 : Code := { maxStack := 8, maxLocals := 8, code := method_3_code, exceptionTable := #[], attributes := #[] }
def k1m2 : Method := { name := "step", desc := "(Lcom/example/corral/corral/ownership/Units;[JI)Z", sig := { parameters := [(.object "com/example/corral/corral/ownership/Units"), (.array .long), .int], returnType := some .boolean }, accessFlags := 10, code := some k1c2 }
/-- com/example/corral/corral/ownership/UnitsIsEmptyPinLaw -/
def k1 : Class := { plain "com/example/corral/corral/ownership/UnitsIsEmptyPinLaw" (some 0) with
  accessFlags := 49
  interfaces := #[]
  cf := some (fileOf pool1 15 #[] #[{ accessFlags := 1, nameIndex := 5, descriptorIndex := 6, attributes := #[] }, { accessFlags := 9, nameIndex := 31, descriptorIndex := 32, attributes := #[] }, { accessFlags := 10, nameIndex := 18, descriptorIndex := 19, attributes := #[] }] 49 2 #[] #[])
  fields := #[]
  methods := #[k1m0, k1m1, k1m2]
  instanceTypes := #[]
  staticTypes := #[]
  resolved := Array.replicate 36 none
  statics := none }

def pool2 : Array CpInfo := pool [(3, .methodref 4 5), (0, .class_ 6), (0, .nameAndType 7 8), (0, u "java/lang/Object"), (0, u "<init>"), (0, u "()V"), (0, .fieldref 10 11), (0, .class_ 12), (0, .nameAndType 13 14), (0, u "com/example/corral/corral/ownership/Units"), (0, u "numbers"), (0, u "[I"), (0, .fieldref 10 16), (0, .nameAndType 17 18), (0, u "count"), (0, u "I"), (0, .fieldref 10 20), (0, .nameAndType 21 22), (0, u "bits"), (0, u "Ljava/util/BitSet;"), (1, .class_ 26), (1, u "java/util/BitSet"), (1, u "(I)I"), (0, .methodref 10 30), (0, .nameAndType 31 28), (0, u "find"), (0, .methodref 24 33), (0, .nameAndType 34 35), (0, u "get"), (0, u "(I)Z"), (0, .methodref 24 37), (0, .nameAndType 38 39), (0, u "set"), (0, u "(I)V"), (0, .methodref 41 42), (0, .class_ 43), (0, .nameAndType 44 45), (0, u "java/lang/Math"), (0, u "max"), (0, u "(II)I"), (0, .methodref 10 47), (0, .nameAndType 48 49), (0, u "bitBytes"), (0, u "(I)J"), (0, .methodref 10 51), (0, .nameAndType 52 8), (0, u "toBits"), (0, .methodref 10 54), (0, .nameAndType 55 39), (0, u "add"), (0, .methodref 57 58), (0, .class_ 59), (0, .nameAndType 60 61), (0, u "java/util/Arrays"), (0, u "copyOf"), (0, u "([II)[I"), (0, .methodref 63 64), (0, .class_ 65), (0, .nameAndType 66 67), (0, u "java/lang/System"), (0, u "arraycopy"), (0, u "(Ljava/lang/Object;ILjava/lang/Object;II)V"), (0, .methodref 24 69), (0, .nameAndType 70 39), (0, u "clear"), (0, .methodref 24 72), (0, .nameAndType 73 74), (0, u "length"), (0, u "()I"), (3, .methodref 57 79), (0, .nameAndType 80 81), (0, u "binarySearch"), (0, u "([IIII)I"), (0, .methodref 24 5), (2, .long 64), (1, .long 8), (1, u "NUMBER_BYTES"), (2, u "SPARSER"), (3, u "isEmpty"), (0, u "()Z"), (2, u "remove")] 3

def k2c0 : Code := { maxStack := 2, maxLocals := 1, code := prog_25_method_1_code, exceptionTable := #[], attributes := #[] }
def k2m0 : Method := { name := "<init>", desc := "()V", sig := { parameters := [], returnType := none }, accessFlags := 0, code := some k2c0 }
def k2c1 : Code := { maxStack := 1, maxLocals := 1, code := prog_25_method_3_code, exceptionTable := #[], attributes := #[] }
def k2m1 : Method := { name := "isEmpty", desc := "()Z", sig := { parameters := [], returnType := some .boolean }, accessFlags := 0, code := some k2c1 }
def k2c2 : Code := { maxStack := 6, maxLocals := 5, code := prog_25_method_5_code, exceptionTable := #[], attributes := #[] }
def k2m2 : Method := { name := "add", desc := "(I)V", sig := { parameters := [.int], returnType := none }, accessFlags := 0, code := some k2c2 }
def k2c3 : Code := { maxStack := 6, maxLocals := 3, code := prog_25_method_6_code, exceptionTable := #[], attributes := #[] }
def k2m3 : Method := { name := "remove", desc := "(I)V", sig := { parameters := [.int], returnType := none }, accessFlags := 0, code := some k2c3 }
def k2c4 : Code := { maxStack := 4, maxLocals := 2, code := prog_25_method_7_code, exceptionTable := #[], attributes := #[] }
def k2m4 : Method := { name := "find", desc := "(I)I", sig := { parameters := [.int], returnType := some .int }, accessFlags := 2, code := some k2c4 }
def k2c5 : Code := { maxStack := 3, maxLocals := 2, code := prog_25_method_8_code, exceptionTable := #[], attributes := #[] }
def k2m5 : Method := { name := "toBits", desc := "()V", sig := { parameters := [], returnType := none }, accessFlags := 2, code := some k2c5 }
def k2c6 : Code := { maxStack := 4, maxLocals := 1, code := prog_25_method_10_code, exceptionTable := #[], attributes := #[] }
def k2m6 : Method := { name := "bitBytes", desc := "(I)J", sig := { parameters := [.int], returnType := some .long }, accessFlags := 10, code := some k2c6 }
/-- com/example/corral/corral/ownership/Units -/
def k2 : Class := { plain "com/example/corral/corral/ownership/Units" (some 0) with
  accessFlags := 48
  interfaces := #[]
  cf := some (fileOf pool2 10 #[] #[{ accessFlags := 0, nameIndex := 7, descriptorIndex := 8, attributes := #[] }, { accessFlags := 0, nameIndex := 96, descriptorIndex := 97, attributes := #[] }, { accessFlags := 0, nameIndex := 55, descriptorIndex := 39, attributes := #[] }, { accessFlags := 0, nameIndex := 100, descriptorIndex := 39, attributes := #[] }, { accessFlags := 2, nameIndex := 31, descriptorIndex := 28, attributes := #[] }, { accessFlags := 2, nameIndex := 52, descriptorIndex := 8, attributes := #[] }, { accessFlags := 10, nameIndex := 48, descriptorIndex := 49, attributes := #[] }] 48 4 #[] #[{ accessFlags := 26, nameIndex := 89, descriptorIndex := 18, attributes := #[] }, { accessFlags := 26, nameIndex := 92, descriptorIndex := 18, attributes := #[] }, { accessFlags := 2, nameIndex := 13, descriptorIndex := 14, attributes := #[] }, { accessFlags := 2, nameIndex := 21, descriptorIndex := 22, attributes := #[] }, { accessFlags := 2, nameIndex := 17, descriptorIndex := 18, attributes := #[] }])
  fields := #[{ name := "NUMBER_BYTES", type := .int, accessFlags := 26, slot := 0, constantValue := 0 }, { name := "SPARSER", type := .int, accessFlags := 26, slot := 1, constantValue := 0 }, { name := "numbers", type := (.array .int), accessFlags := 2, slot := 0, constantValue := 0 }, { name := "bits", type := (.object "java/util/BitSet"), accessFlags := 2, slot := 1, constantValue := 0 }, { name := "count", type := .int, accessFlags := 2, slot := 2, constantValue := 0 }]
  methods := #[k2m0, k2m1, k2m2, k2m3, k2m4, k2m5, k2m6]
  instanceTypes := #[(.array .int), (.object "java/util/BitSet"), .int]
  staticTypes := #[.int, .int]
  resolved := Array.replicate 104 none
  statics := none }

def pool3 : Array CpInfo := pool [(2, .class_ 4), (1, u "java/lang/Object"), (0, u "<init>"), (0, u "()V"), (6, .methodref 14 15), (0, .class_ 16), (0, .nameAndType 17 18), (0, u "java/util/Arrays"), (0, u "rangeCheck"), (0, u "(III)V"), (55, .class_ 76), (1, u "java/util/Arrays$NaturalOrder"), (36, .class_ 115), (1, u "java/util/Arrays$LegacyMergeSort"), (1, u "Z"), (32, .methodref 151 152), (0, .class_ 153), (0, .nameAndType 154 155), (0, u "java/lang/System"), (0, u "arraycopy"), (0, u "(Ljava/lang/Object;ILjava/lang/Object;II)V"), (51, u "binarySearch0"), (1, .methodref 14 210), (0, .nameAndType 207 211), (0, u "([IIII)I"), (90, u "copyOf"), (1, .methodref 305 306), (0, .class_ 307), (0, .nameAndType 308 309), (0, u "java/lang/Math"), (0, u "min"), (0, u "(II)I"), (65, .class_ 376), (0, u "java/util/Arrays$ArrayList"), (68, u "$assertionsDisabled"), (269, u "MIN_ARRAY_SORT_GRAN"), (0, u "I"), (2, u "INSERTIONSORT_THRESHOLD"), (74, u "binarySearch"), (76, u "([II)[I"), (0, u "([JI)[J"), (102, .class_ 976), (0, u "java/util/Arrays$ArrayItr")] 52

def k3m0 : Method := { name := "<init>", desc := "()V", sig := { parameters := [], returnType := none }, accessFlags := 2, code := none }
def k3c1 : Code := { maxStack := 4, maxLocals := 3, code := jdk_65_method_30_code, exceptionTable := #[], attributes := #[] }
def k3m1 : Method := { name := "rangeCheck", desc := "(III)V", sig := { parameters := [.int, .int, .int], returnType := none }, accessFlags := 8, code := some k3c1 }
def k3c2 : Code := { maxStack := 4, maxLocals := 4, code := jdk_65_method_58_code, exceptionTable := #[], attributes := #[] }
def k3m2 : Method := { name := "binarySearch", desc := "([IIII)I", sig := { parameters := [(.array .int), .int, .int, .int], returnType := some .int }, accessFlags := 9, code := some k3c2 }
def k3c3 : Code := { maxStack := 2, maxLocals := 8, code := jdk_65_method_59_code, exceptionTable := #[], attributes := #[] }
def k3m3 : Method := { name := "binarySearch0", desc := "([IIII)I", sig := { parameters := [(.array .int), .int, .int, .int], returnType := some .int }, accessFlags := 10, code := some k3c3 }
def k3c4 : Code := { maxStack := 6, maxLocals := 3, code := jdk_65_method_123_code, exceptionTable := #[], attributes := #[] }
def k3m4 : Method := { name := "copyOf", desc := "([II)[I", sig := { parameters := [(.array .int), .int], returnType := some (.array .int) }, accessFlags := 9, code := some k3c4 }
def k3c5 : Code := { maxStack := 6, maxLocals := 3, code := jdk_65_method_124_code, exceptionTable := #[], attributes := #[] }
def k3m5 : Method := { name := "copyOf", desc := "([JI)[J", sig := { parameters := [(.array .long), .int], returnType := some (.array .long) }, accessFlags := 9, code := some k3c5 }
/-- java/util/Arrays -/
def k3 : Class := { plain "java/util/Arrays" (some 0) with
  accessFlags := 49
  interfaces := #[]
  cf := some (fileOf pool3 14 #[.nestMembers #[975, 375, 113, 74]] #[{ accessFlags := 2, nameIndex := 5, descriptorIndex := 6, attributes := #[] }, { accessFlags := 8, nameIndex := 17, descriptorIndex := 18, attributes := #[] }, { accessFlags := 9, nameIndex := 794, descriptorIndex := 211, attributes := #[] }, { accessFlags := 10, nameIndex := 207, descriptorIndex := 211, attributes := #[] }, { accessFlags := 9, nameIndex := 302, descriptorIndex := 871, attributes := #[] }, { accessFlags := 9, nameIndex := 302, descriptorIndex := 872, attributes := #[] }] 49 2 #[] #[{ accessFlags := 26, nameIndex := 715, descriptorIndex := 716, attributes := #[] }, { accessFlags := 26, nameIndex := 719, descriptorIndex := 716, attributes := #[] }, { accessFlags := 4120, nameIndex := 445, descriptorIndex := 117, attributes := #[] }])
  fields := #[{ name := "MIN_ARRAY_SORT_GRAN", type := .int, accessFlags := 26, slot := 0, constantValue := 0 }, { name := "INSERTIONSORT_THRESHOLD", type := .int, accessFlags := 26, slot := 1, constantValue := 0 }, { name := "$assertionsDisabled", type := .boolean, accessFlags := 4120, slot := 2, constantValue := 0 }]
  methods := #[k3m0, k3m1, k3m2, k3m3, k3m4, k3m5]
  instanceTypes := #[]
  staticTypes := #[.int, .int, .boolean]
  resolved := Array.replicate 1029 none
  statics := none }

def pool4 : Array CpInfo := pool [(2, .class_ 4), (1, u "java/lang/Object"), (0, u "<init>"), (0, u "()V"), (1, .class_ 10), (1, u "java/lang/System"), (0, u "allowSecurityManager"), (0, u "I"), (16, u "cons"), (0, u "Ljava/io/Console;"), (77, .class_ 110), (1, u "java/lang/System$CallersHolder"), (43, u "initialErrStream"), (0, u "Ljava/io/PrintStream;"), (19, u "security"), (0, u "Ljava/lang/SecurityManager;"), (31, .class_ 209), (0, u "java/lang/System$1"), (7, u "props"), (0, u "Ljava/util/Properties;"), (2, u "lineSeparator"), (0, u "Ljava/lang/String;"), (96, .class_ 321), (1, u "java/lang/System$LoggerFinder"), (5, .class_ 328), (0, u "java/lang/System$Logger"), (67, u "err"), (2, u "out"), (91, u "notSupportedJnuEncoding"), (15, u "in"), (17, u "initialIn"), (0, u "Ljava/io/InputStream;"), (35, u "bootLayer"), (0, u "Ljava/lang/ModuleLayer;"), (99, .class_ 664), (0, u "java/lang/System$2"), (9, u "NEVER"), (2, u "MAYBE"), (49, u "arraycopy"), (0, u "(Ljava/lang/Object;ILjava/lang/Object;II)V"), (72, .class_ 802), (0, u "java/lang/System$Logger$Level")] 31

def k4m0 : Method := { name := "<init>", desc := "()V", sig := { parameters := [], returnType := none }, accessFlags := 2, code := none }
def k4m1 : Method := { name := "arraycopy", desc := "(Ljava/lang/Object;ILjava/lang/Object;II)V", sig := { parameters := [(.object "java/lang/Object"), .int, (.object "java/lang/Object"), .int, .int], returnType := none }, accessFlags := 265, code := none }
/-- java/lang/System -/
def k4 : Class := { plain "java/lang/System" (some 0) with
  accessFlags := 49
  interfaces := #[]
  cf := some (fileOf pool4 8 #[.nestMembers #[319, 327, 801, 108, 663, 208]] #[{ accessFlags := 2, nameIndex := 5, descriptorIndex := 6, attributes := #[] }, { accessFlags := 265, nameIndex := 727, descriptorIndex := 728, attributes := #[] }] 49 2 #[] #[{ accessFlags := 25, nameIndex := 507, descriptorIndex := 526, attributes := #[] }, { accessFlags := 25, nameIndex := 399, descriptorIndex := 155, attributes := #[] }, { accessFlags := 25, nameIndex := 396, descriptorIndex := 155, attributes := #[] }, { accessFlags := 10, nameIndex := 525, descriptorIndex := 526, attributes := #[] }, { accessFlags := 26, nameIndex := 674, descriptorIndex := 12, attributes := #[] }, { accessFlags := 26, nameIndex := 677, descriptorIndex := 12, attributes := #[] }, { accessFlags := 10, nameIndex := 11, descriptorIndex := 12, attributes := #[] }, { accessFlags := 74, nameIndex := 175, descriptorIndex := 176, attributes := #[] }, { accessFlags := 10, nameIndex := 491, descriptorIndex := 222, attributes := #[] }, { accessFlags := 74, nameIndex := 29, descriptorIndex := 30, attributes := #[] }, { accessFlags := 74, nameIndex := 154, descriptorIndex := 155, attributes := #[] }, { accessFlags := 10, nameIndex := 217, descriptorIndex := 218, attributes := #[] }, { accessFlags := 10, nameIndex := 221, descriptorIndex := 222, attributes := #[] }, { accessFlags := 8, nameIndex := 562, descriptorIndex := 563, attributes := #[] }])
  fields := #[{ name := "in", type := (.object "java/io/InputStream"), accessFlags := 25, slot := 0, constantValue := 0 }, { name := "out", type := (.object "java/io/PrintStream"), accessFlags := 25, slot := 1, constantValue := 0 }, { name := "err", type := (.object "java/io/PrintStream"), accessFlags := 25, slot := 2, constantValue := 0 }, { name := "initialIn", type := (.object "java/io/InputStream"), accessFlags := 10, slot := 3, constantValue := 0 }, { name := "NEVER", type := .int, accessFlags := 26, slot := 4, constantValue := 0 }, { name := "MAYBE", type := .int, accessFlags := 26, slot := 5, constantValue := 0 }, { name := "allowSecurityManager", type := .int, accessFlags := 10, slot := 6, constantValue := 0 }, { name := "security", type := (.object "java/lang/SecurityManager"), accessFlags := 74, slot := 7, constantValue := 0 }, { name := "notSupportedJnuEncoding", type := (.object "java/lang/String"), accessFlags := 10, slot := 8, constantValue := 0 }, { name := "cons", type := (.object "java/io/Console"), accessFlags := 74, slot := 9, constantValue := 0 }, { name := "initialErrStream", type := (.object "java/io/PrintStream"), accessFlags := 74, slot := 10, constantValue := 0 }, { name := "props", type := (.object "java/util/Properties"), accessFlags := 10, slot := 11, constantValue := 0 }, { name := "lineSeparator", type := (.object "java/lang/String"), accessFlags := 10, slot := 12, constantValue := 0 }, { name := "bootLayer", type := (.object "java/lang/ModuleLayer"), accessFlags := 8, slot := 13, constantValue := 0 }]
  methods := #[k4m0, k4m1]
  instanceTypes := #[]
  staticTypes := #[(.object "java/io/InputStream"), (.object "java/io/PrintStream"), (.object "java/io/PrintStream"), (.object "java/io/InputStream"), .int, .int, .int, (.object "java/lang/SecurityManager"), (.object "java/lang/String"), (.object "java/io/Console"), (.object "java/io/PrintStream"), (.object "java/util/Properties"), (.object "java/lang/String"), (.object "java/lang/ModuleLayer")]
  resolved := Array.replicate 834 none
  statics := none }

def pool5 : Array CpInfo := pool [(1, .class_ 2), (0, u "java/lang/Math"), (1, .class_ 6), (1, u "java/lang/Object"), (0, u "<init>"), (0, u "()V"), (89, .class_ 100), (1, u "java/lang/Math$RandomNumberGeneratorHolder"), (71, u "negativeZeroFloatBits"), (0, u "J"), (2, u "negativeZeroDoubleBits"), (21, u "max"), (2, u "min"), (43, u "$assertionsDisabled"), (0, u "Z"), (88, u "(II)I"), (2, u "twoToTheDoubleScaleDown"), (0, u "D"), (4, u "twoToTheDoubleScaleUp"), (9, u "E"), (3, u "PI"), (2, u "TAU"), (2, u "DEGREES_TO_RADIANS"), (0, u "RADIANS_TO_DEGREES")] 94

def k5m0 : Method := { name := "<init>", desc := "()V", sig := { parameters := [], returnType := none }, accessFlags := 2, code := none }
def k5c1 : Code := { maxStack := 2, maxLocals := 2, code := jdk_29_method_65_code, exceptionTable := #[], attributes := #[] }
def k5m1 : Method := { name := "max", desc := "(II)I", sig := { parameters := [.int, .int], returnType := some .int }, accessFlags := 9, code := some k5c1 }
def k5c2 : Code := { maxStack := 2, maxLocals := 2, code := jdk_29_method_69_code, exceptionTable := #[], attributes := #[] }
def k5m2 : Method := { name := "min", desc := "(II)I", sig := { parameters := [.int, .int], returnType := some .int }, accessFlags := 9, code := some k5c2 }
/-- java/lang/Math -/
def k5 : Class := { plain "java/lang/Math" (some 0) with
  accessFlags := 49
  interfaces := #[]
  cf := some (fileOf pool5 1 #[.nestMembers #[98]] #[{ accessFlags := 2, nameIndex := 7, descriptorIndex := 8, attributes := #[] }, { accessFlags := 9, nameIndex := 198, descriptorIndex := 335, attributes := #[] }, { accessFlags := 9, nameIndex := 201, descriptorIndex := 335, attributes := #[] }] 49 4 #[] #[{ accessFlags := 25, nameIndex := 354, descriptorIndex := 339, attributes := #[] }, { accessFlags := 25, nameIndex := 358, descriptorIndex := 339, attributes := #[] }, { accessFlags := 25, nameIndex := 361, descriptorIndex := 339, attributes := #[] }, { accessFlags := 26, nameIndex := 364, descriptorIndex := 339, attributes := #[] }, { accessFlags := 26, nameIndex := 365, descriptorIndex := 339, attributes := #[] }, { accessFlags := 26, nameIndex := 172, descriptorIndex := 173, attributes := #[] }, { accessFlags := 26, nameIndex := 176, descriptorIndex := 173, attributes := #[] }, { accessFlags := 8, nameIndex := 344, descriptorIndex := 339, attributes := #[] }, { accessFlags := 8, nameIndex := 338, descriptorIndex := 339, attributes := #[] }, { accessFlags := 4120, nameIndex := 245, descriptorIndex := 246, attributes := #[] }])
  fields := #[{ name := "E", type := .double, accessFlags := 25, slot := 0, constantValue := 0 }, { name := "PI", type := .double, accessFlags := 25, slot := 1, constantValue := 0 }, { name := "TAU", type := .double, accessFlags := 25, slot := 2, constantValue := 0 }, { name := "DEGREES_TO_RADIANS", type := .double, accessFlags := 26, slot := 3, constantValue := 0 }, { name := "RADIANS_TO_DEGREES", type := .double, accessFlags := 26, slot := 4, constantValue := 0 }, { name := "negativeZeroFloatBits", type := .long, accessFlags := 26, slot := 5, constantValue := 0 }, { name := "negativeZeroDoubleBits", type := .long, accessFlags := 26, slot := 6, constantValue := 0 }, { name := "twoToTheDoubleScaleUp", type := .double, accessFlags := 8, slot := 7, constantValue := 0 }, { name := "twoToTheDoubleScaleDown", type := .double, accessFlags := 8, slot := 8, constantValue := 0 }, { name := "$assertionsDisabled", type := .boolean, accessFlags := 4120, slot := 9, constantValue := 0 }]
  methods := #[k5m0, k5m1, k5m2]
  instanceTypes := #[]
  staticTypes := #[.double, .double, .double, .double, .double, .long, .long, .double, .double, .boolean]
  resolved := Array.replicate 460 none
  statics := none }

def pool6 : Array CpInfo := pool [(1, .class_ 2), (0, u "java/lang/Cloneable"), (0, .class_ 4), (0, u "java/lang/Object")] 2

/-- java/lang/Cloneable -/
def k6 : Class := { plain "java/lang/Cloneable" (some 0) with
  accessFlags := 1537
  interfaces := #[]
  cf := some (fileOf pool6 1 #[] #[] 1537 3 #[] #[])
  fields := #[]
  methods := #[]
  instanceTypes := #[]
  staticTypes := #[]
  resolved := Array.replicate 7 none
  statics := none }

def pool7 : Array CpInfo := pool [(1, .class_ 2), (0, u "java/io/Serializable"), (0, .class_ 4), (0, u "java/lang/Object")] 2

/-- java/io/Serializable -/
def k7 : Class := { plain "java/io/Serializable" (some 0) with
  accessFlags := 1537
  interfaces := #[]
  cf := some (fileOf pool7 1 #[] #[] 1537 3 #[] #[])
  fields := #[]
  methods := #[]
  instanceTypes := #[]
  staticTypes := #[]
  resolved := Array.replicate 7 none
  statics := none }

def pool8 : Array CpInfo := pool [(1, .class_ 2), (0, u "java/util/BitSet"), (0, .fieldref 1 4), (0, .nameAndType 5 6), (0, u "$assertionsDisabled"), (0, u "Z"), (0, .fieldref 1 8), (0, .nameAndType 9 10), (0, u "wordsInUse"), (0, u "I"), (0, .fieldref 1 12), (0, .nameAndType 13 14), (0, u "words"), (0, u "[J"), (3, .nameAndType 19 20), (0, u "<init>"), (0, u "()V"), (0, .methodref 22 18), (0, .class_ 23), (0, u "java/lang/Object"), (0, .fieldref 1 25), (0, .nameAndType 26 6), (0, u "sizeIsSticky"), (0, .methodref 1 28), (0, .nameAndType 29 30), (0, u "initWords"), (0, u "(I)V"), (21, .methodref 1 53), (0, .nameAndType 54 55), (0, u "wordIndex"), (0, u "(I)I"), (0, .methodref 1 57), (0, .nameAndType 58 20), (0, u "checkInvariants"), (0, .methodref 60 61), (0, .class_ 62), (0, .nameAndType 63 64), (0, u "java/util/Arrays"), (0, u "copyOf"), (0, u "([JI)[J"), (12, u "()I"), (2, u "get"), (52, .methodref 134 135), (0, .class_ 136), (0, .nameAndType 137 138), (0, u "java/lang/Math"), (0, u "max"), (0, u "(II)I"), (0, .methodref 1 140), (0, .nameAndType 141 30), (0, u "ensureCapacity"), (13, .methodref 1 156), (0, .nameAndType 157 30), (0, u "expandTo"), (0, .methodref 1 159), (0, .nameAndType 160 20), (0, u "recalculateWordsInUse"), (4, .long 18446744073709551615), (3, u "set"), (2, u "clear"), (6, u "length"), (3, .class_ 185), (1, u "java/lang/Long"), (1, u "(J)I"), (2, .methodref 183 191), (0, .nameAndType 192 187), (0, u "numberOfLeadingZeros"), (76, .class_ 270), (0, u "java/util/BitSet$1BitSetSpliterator"), (22, u "serialPersistentFields"), (0, u "[Ljava/io/ObjectStreamField;"), (0, .class_ 296), (0, u "java/lang/Cloneable"), (0, .class_ 298), (0, u "java/io/Serializable"), (0, u "ADDRESS_BITS_PER_WORD"), (2, u "BITS_PER_WORD"), (1, u "BIT_INDEX_MASK"), (1, u "WORD_MASK"), (0, u "J"), (0, u "serialVersionUID"), (42, u "(I)Z")] 65

def k8c0 : Code := { maxStack := 2, maxLocals := 1, code := jdk_92_method_1_code, exceptionTable := #[], attributes := #[] }
def k8m0 : Method := { name := "wordIndex", desc := "(I)I", sig := { parameters := [.int], returnType := some .int }, accessFlags := 10, code := some k8c0 }
def k8c1 : Code := { maxStack := 4, maxLocals := 1, code := jdk_92_method_2_code, exceptionTable := #[], attributes := #[] }
def k8m1 : Method := { name := "checkInvariants", desc := "()V", sig := { parameters := [], returnType := none }, accessFlags := 2, code := some k8c1 }
def k8c2 : Code := { maxStack := 4, maxLocals := 2, code := jdk_92_method_3_code, exceptionTable := #[], attributes := #[] }
def k8m2 : Method := { name := "recalculateWordsInUse", desc := "()V", sig := { parameters := [], returnType := none }, accessFlags := 2, code := some k8c2 }
def k8c3 : Code := { maxStack := 2, maxLocals := 1, code := jdk_92_method_4_code, exceptionTable := #[], attributes := #[] }
def k8m3 : Method := { name := "<init>", desc := "()V", sig := { parameters := [], returnType := none }, accessFlags := 1, code := some k8c3 }
def k8c4 : Code := { maxStack := 3, maxLocals := 2, code := jdk_92_method_6_code, exceptionTable := #[], attributes := #[] }
def k8m4 : Method := { name := "initWords", desc := "(I)V", sig := { parameters := [.int], returnType := none }, accessFlags := 2, code := some k8c4 }
def k8c5 : Code := { maxStack := 3, maxLocals := 3, code := jdk_92_method_14_code, exceptionTable := #[], attributes := #[] }
def k8m5 : Method := { name := "ensureCapacity", desc := "(I)V", sig := { parameters := [.int], returnType := none }, accessFlags := 2, code := some k8c5 }
def k8c6 : Code := { maxStack := 2, maxLocals := 3, code := jdk_92_method_15_code, exceptionTable := #[], attributes := #[] }
def k8m6 : Method := { name := "expandTo", desc := "(I)V", sig := { parameters := [.int], returnType := none }, accessFlags := 2, code := some k8c6 }
def k8c7 : Code := { maxStack := 7, maxLocals := 3, code := jdk_92_method_19_code, exceptionTable := #[], attributes := #[] }
def k8m7 : Method := { name := "set", desc := "(I)V", sig := { parameters := [.int], returnType := none }, accessFlags := 1, code := some k8c7 }
def k8c8 : Code := { maxStack := 8, maxLocals := 3, code := jdk_92_method_23_code, exceptionTable := #[], attributes := #[] }
def k8m8 : Method := { name := "clear", desc := "(I)V", sig := { parameters := [.int], returnType := none }, accessFlags := 1, code := some k8c8 }
def k8c9 : Code := { maxStack := 5, maxLocals := 3, code := jdk_92_method_26_code, exceptionTable := #[], attributes := #[] }
def k8m9 : Method := { name := "get", desc := "(I)Z", sig := { parameters := [.int], returnType := some .boolean }, accessFlags := 1, code := some k8c9 }
def k8c10 : Code := { maxStack := 5, maxLocals := 1, code := jdk_92_method_32_code, exceptionTable := #[], attributes := #[] }
def k8m10 : Method := { name := "length", desc := "()I", sig := { parameters := [], returnType := some .int }, accessFlags := 1, code := some k8c10 }
/-- java/util/BitSet -/
def k8 : Class := { plain "java/util/BitSet" (some 0) with
  accessFlags := 33
  interfaces := #[6, 7]
  cf := some (fileOf pool8 1 #[.nestMembers #[269]] #[{ accessFlags := 10, nameIndex := 54, descriptorIndex := 55, attributes := #[] }, { accessFlags := 2, nameIndex := 58, descriptorIndex := 20, attributes := #[] }, { accessFlags := 2, nameIndex := 160, descriptorIndex := 20, attributes := #[] }, { accessFlags := 1, nameIndex := 19, descriptorIndex := 20, attributes := #[] }, { accessFlags := 2, nameIndex := 29, descriptorIndex := 30, attributes := #[] }, { accessFlags := 2, nameIndex := 141, descriptorIndex := 30, attributes := #[] }, { accessFlags := 2, nameIndex := 157, descriptorIndex := 30, attributes := #[] }, { accessFlags := 1, nameIndex := 169, descriptorIndex := 30, attributes := #[] }, { accessFlags := 1, nameIndex := 172, descriptorIndex := 30, attributes := #[] }, { accessFlags := 1, nameIndex := 80, descriptorIndex := 351, attributes := #[] }, { accessFlags := 1, nameIndex := 179, descriptorIndex := 77, attributes := #[] }] 33 22 #[295, 297] #[{ accessFlags := 26, nameIndex := 299, descriptorIndex := 10, attributes := #[] }, { accessFlags := 26, nameIndex := 302, descriptorIndex := 10, attributes := #[] }, { accessFlags := 26, nameIndex := 304, descriptorIndex := 10, attributes := #[] }, { accessFlags := 26, nameIndex := 306, descriptorIndex := 307, attributes := #[] }, { accessFlags := 26, nameIndex := 293, descriptorIndex := 294, attributes := #[] }, { accessFlags := 2, nameIndex := 13, descriptorIndex := 14, attributes := #[] }, { accessFlags := 130, nameIndex := 9, descriptorIndex := 10, attributes := #[] }, { accessFlags := 130, nameIndex := 26, descriptorIndex := 6, attributes := #[] }, { accessFlags := 26, nameIndex := 308, descriptorIndex := 307, attributes := #[] }, { accessFlags := 4120, nameIndex := 5, descriptorIndex := 6, attributes := #[] }])
  fields := #[{ name := "ADDRESS_BITS_PER_WORD", type := .int, accessFlags := 26, slot := 0, constantValue := 0 }, { name := "BITS_PER_WORD", type := .int, accessFlags := 26, slot := 1, constantValue := 0 }, { name := "BIT_INDEX_MASK", type := .int, accessFlags := 26, slot := 2, constantValue := 0 }, { name := "WORD_MASK", type := .long, accessFlags := 26, slot := 3, constantValue := 0 }, { name := "serialPersistentFields", type := (.array (.object "java/io/ObjectStreamField")), accessFlags := 26, slot := 4, constantValue := 0 }, { name := "words", type := (.array .long), accessFlags := 2, slot := 0, constantValue := 0 }, { name := "wordsInUse", type := .int, accessFlags := 130, slot := 1, constantValue := 0 }, { name := "sizeIsSticky", type := .boolean, accessFlags := 130, slot := 2, constantValue := 0 }, { name := "serialVersionUID", type := .long, accessFlags := 26, slot := 5, constantValue := 0 }, { name := "$assertionsDisabled", type := .boolean, accessFlags := 4120, slot := 6, constantValue := 0 }]
  methods := #[k8m0, k8m1, k8m2, k8m3, k8m4, k8m5, k8m6, k8m7, k8m8, k8m9, k8m10]
  instanceTypes := #[(.array .long), .int, .boolean]
  staticTypes := #[.int, .int, .int, .long, (.array (.object "java/io/ObjectStreamField")), .long, .boolean]
  resolved := Array.replicate 417 none
  statics := some 0 }

def pool9 : Array CpInfo := pool [(2, .class_ 4), (1, u "java/lang/Object"), (0, u "<init>"), (0, u "()V"), (1, .class_ 10), (1, u "java/lang/Number"), (2, .class_ 14), (0, u "java/io/Serializable"), (0, u "serialVersionUID"), (0, u "J")] 20

def k9m0 : Method := { name := "<init>", desc := "()V", sig := { parameters := [], returnType := none }, accessFlags := 1, code := none }
/-- java/lang/Number -/
def k9 : Class := { plain "java/lang/Number" (some 0) with
  accessFlags := 1057
  interfaces := #[7]
  cf := some (fileOf pool9 8 #[] #[{ accessFlags := 1, nameIndex := 5, descriptorIndex := 6, attributes := #[] }] 1057 2 #[13] #[{ accessFlags := 26, nameIndex := 15, descriptorIndex := 16, attributes := #[] }])
  fields := #[{ name := "serialVersionUID", type := .long, accessFlags := 26, slot := 0, constantValue := 0 }]
  methods := #[k9m0]
  instanceTypes := #[]
  staticTypes := #[.long]
  resolved := Array.replicate 37 none
  statics := none }

def pool10 : Array CpInfo := pool [(1, .class_ 2), (0, u "java/lang/Comparable"), (0, .class_ 4), (0, u "java/lang/Object")] 7

/-- java/lang/Comparable -/
def k10 : Class := { plain "java/lang/Comparable" (some 0) with
  accessFlags := 1537
  interfaces := #[]
  cf := some (fileOf pool10 1 #[] #[] 1537 3 #[] #[])
  fields := #[]
  methods := #[]
  instanceTypes := #[]
  staticTypes := #[]
  resolved := Array.replicate 12 none
  statics := none }

def pool11 : Array CpInfo := pool [(1, .class_ 2), (0, u "java/lang/constant/Constable"), (0, .class_ 4), (0, u "java/lang/Object")] 6

/-- java/lang/constant/Constable -/
def k11 : Class := { plain "java/lang/constant/Constable" (some 0) with
  accessFlags := 1537
  interfaces := #[]
  cf := some (fileOf pool11 1 #[] #[] 1537 3 #[] #[])
  fields := #[]
  methods := #[]
  instanceTypes := #[]
  staticTypes := #[]
  resolved := Array.replicate 11 none
  statics := none }

def pool12 : Array CpInfo := pool [(1, .class_ 2), (0, u "java/lang/constant/ConstantDesc"), (0, .class_ 4), (0, u "java/lang/Object")] 32

/-- java/lang/constant/ConstantDesc -/
def k12 : Class := { plain "java/lang/constant/ConstantDesc" (some 0) with
  accessFlags := 1537
  interfaces := #[]
  cf := some (fileOf pool12 1 #[] #[] 1537 3 #[] #[])
  fields := #[]
  methods := #[]
  instanceTypes := #[]
  staticTypes := #[]
  resolved := Array.replicate 37 none
  statics := none }

def pool13 : Array CpInfo := pool [(1, .class_ 2), (0, u "java/lang/Long"), (15, .class_ 20), (1, u "java/lang/Integer"), (79, u "numberOfLeadingZeros"), (0, u "(J)I"), (133, .class_ 237), (1, u "java/lang/Long$LongCache"), (33, .class_ 272), (0, u "java/lang/Number"), (2, u "value"), (0, u "J"), (31, .methodref 18 309), (0, .nameAndType 100 310), (0, u "(I)I"), (50, u "TYPE"), (0, u "Ljava/lang/Class;"), (0, .class_ 364), (0, u "java/lang/Comparable"), (0, .class_ 366), (0, u "java/lang/constant/Constable"), (0, .class_ 368), (0, u "java/lang/constant/ConstantDesc"), (0, u "MIN_VALUE"), (1, u "MAX_VALUE"), (4, u "SIZE"), (0, u "I"), (1, u "BYTES"), (1, u "serialVersionUID")] 142

def k13c0 : Code := { maxStack := 3, maxLocals := 3, code := jdk_35_method_48_code, exceptionTable := #[], attributes := #[] }
def k13m0 : Method := { name := "numberOfLeadingZeros", desc := "(J)I", sig := { parameters := [.long], returnType := some .int }, accessFlags := 9, code := some k13c0 }
/-- java/lang/Long -/
def k13 : Class := { plain "java/lang/Long" (some 9) with
  accessFlags := 49
  interfaces := #[10, 11, 12]
  cf := some (fileOf pool13 1 #[.nestMembers #[235]] #[{ accessFlags := 9, nameIndex := 100, descriptorIndex := 101, attributes := #[] }] 49 271 #[363, 365, 367] #[{ accessFlags := 25, nameIndex := 369, descriptorIndex := 276, attributes := #[] }, { accessFlags := 25, nameIndex := 371, descriptorIndex := 276, attributes := #[] }, { accessFlags := 25, nameIndex := 361, descriptorIndex := 362, attributes := #[] }, { accessFlags := 18, nameIndex := 275, descriptorIndex := 276, attributes := #[] }, { accessFlags := 25, nameIndex := 376, descriptorIndex := 377, attributes := #[] }, { accessFlags := 25, nameIndex := 379, descriptorIndex := 377, attributes := #[] }, { accessFlags := 26, nameIndex := 381, descriptorIndex := 276, attributes := #[] }])
  fields := #[{ name := "MIN_VALUE", type := .long, accessFlags := 25, slot := 0, constantValue := 0 }, { name := "MAX_VALUE", type := .long, accessFlags := 25, slot := 1, constantValue := 0 }, { name := "TYPE", type := (.object "java/lang/Class"), accessFlags := 25, slot := 2, constantValue := 0 }, { name := "value", type := .long, accessFlags := 18, slot := 0, constantValue := 0 }, { name := "SIZE", type := .int, accessFlags := 25, slot := 3, constantValue := 0 }, { name := "BYTES", type := .int, accessFlags := 25, slot := 4, constantValue := 0 }, { name := "serialVersionUID", type := .long, accessFlags := 26, slot := 5, constantValue := 0 }]
  methods := #[k13m0]
  instanceTypes := #[.long]
  staticTypes := #[.long, .long, (.object "java/lang/Class"), .int, .int, .long]
  resolved := Array.replicate 524 none
  statics := none }

def pool14 : Array CpInfo := pool [(1, .class_ 2), (0, u "java/lang/Integer"), (16, u "digits"), (0, u "[C"), (32, u "numberOfLeadingZeros"), (0, u "(I)I"), (30, u "DigitOnes"), (0, u "[B"), (2, u "DigitTens"), (99, .class_ 190), (0, u "java/lang/Integer$IntegerCache"), (3, u "I"), (8, .class_ 204), (0, u "java/lang/Number"), (2, u "value"), (56, .integer 65536), (37, u "TYPE"), (0, u "Ljava/lang/Class;"), (0, .class_ 305), (0, u "java/lang/Comparable"), (0, .class_ 307), (0, u "java/lang/constant/Constable"), (0, .class_ 309), (0, u "java/lang/constant/ConstantDesc"), (0, u "MIN_VALUE"), (1, u "MAX_VALUE"), (3, u "SIZE"), (1, u "BYTES"), (1, u "serialVersionUID"), (0, u "J")] 131

def k14c0 : Code := { maxStack := 3, maxLocals := 2, code := jdk_33_method_47_code, exceptionTable := #[], attributes := #[] }
def k14m0 : Method := { name := "numberOfLeadingZeros", desc := "(I)I", sig := { parameters := [.int], returnType := some .int }, accessFlags := 9, code := some k14c0 }
/-- java/lang/Integer -/
def k14 : Class := { plain "java/lang/Integer" (some 9) with
  accessFlags := 49
  interfaces := #[10, 11, 12]
  cf := some (fileOf pool14 1 #[.nestMembers #[189]] #[{ accessFlags := 9, nameIndex := 53, descriptorIndex := 54, attributes := #[] }] 49 203 #[304, 306, 308] #[{ accessFlags := 25, nameIndex := 310, descriptorIndex := 194, attributes := #[] }, { accessFlags := 25, nameIndex := 312, descriptorIndex := 194, attributes := #[] }, { accessFlags := 25, nameIndex := 302, descriptorIndex := 303, attributes := #[] }, { accessFlags := 24, nameIndex := 19, descriptorIndex := 20, attributes := #[] }, { accessFlags := 24, nameIndex := 89, descriptorIndex := 86, attributes := #[] }, { accessFlags := 24, nameIndex := 85, descriptorIndex := 86, attributes := #[] }, { accessFlags := 18, nameIndex := 207, descriptorIndex := 194, attributes := #[] }, { accessFlags := 25, nameIndex := 316, descriptorIndex := 194, attributes := #[] }, { accessFlags := 25, nameIndex := 318, descriptorIndex := 194, attributes := #[] }, { accessFlags := 26, nameIndex := 320, descriptorIndex := 321, attributes := #[] }])
  fields := #[{ name := "MIN_VALUE", type := .int, accessFlags := 25, slot := 0, constantValue := 0 }, { name := "MAX_VALUE", type := .int, accessFlags := 25, slot := 1, constantValue := 0 }, { name := "TYPE", type := (.object "java/lang/Class"), accessFlags := 25, slot := 2, constantValue := 0 }, { name := "digits", type := (.array .char), accessFlags := 24, slot := 3, constantValue := 0 }, { name := "DigitTens", type := (.array .byte), accessFlags := 24, slot := 4, constantValue := 0 }, { name := "DigitOnes", type := (.array .byte), accessFlags := 24, slot := 5, constantValue := 0 }, { name := "value", type := .int, accessFlags := 18, slot := 0, constantValue := 0 }, { name := "SIZE", type := .int, accessFlags := 25, slot := 6, constantValue := 0 }, { name := "BYTES", type := .int, accessFlags := 25, slot := 7, constantValue := 0 }, { name := "serialVersionUID", type := .long, accessFlags := 26, slot := 8, constantValue := 0 }]
  methods := #[k14m0]
  instanceTypes := #[.int]
  staticTypes := #[.int, .int, (.object "java/lang/Class"), (.array .char), (.array .byte), (.array .byte), .int, .int, .long]
  resolved := Array.replicate 453 none
  statics := none }

/-- the primitive byte -/
def k15 : Class := { plain "byte" none with kind := .primitive 'B', accessFlags := 0x411 }
/-- [B -/
def k16 : Class := { plain "[B" (some 0) with kind := .array 15 .byte, interfaces := #[6, 7], accessFlags := 1041 }

/-- the primitive int -/
def k17 : Class := { plain "int" none with kind := .primitive 'I', accessFlags := 0x411 }
/-- [I -/
def k18 : Class := { plain "[I" (some 0) with kind := .array 17 .int, interfaces := #[6, 7], accessFlags := 1041 }

/-- the primitive long -/
def k19 : Class := { plain "long" none with kind := .primitive 'J', accessFlags := 0x411 }
/-- [J -/
def k20 : Class := { plain "[J" (some 0) with kind := .array 19 .long, interfaces := #[6, 7], accessFlags := 1041 }

def heap : Heap := #[{ cls := 8, slots := #[.int 0, .int 0, .int 0, .long 0, .null, .long 0, .int 1], vm := .statics 8 }]
def classes : Array Class := #[k0, k1, k2, k3, k4, k5, k6, k7, k8, k9, k10, k11, k12, k13, k14, k15, k16, k17, k18, k19, k20]
def interned : List (Array UInt16 × Addr) := []
def slotsUsed : Nat := 7
def theMethod : MethodId := ⟨1, 1⟩
def args0 : Array Value := #[.int 5, .int 5, .int 5, .int 5, .int 5]
def aboutOver (below : List Frame) : State where
  vm := { classes := classes, interned := interned.toArray }
  heap := heap
  slotsUsed := slotsUsed
  threads := #[{ frames := .invoking theMethod args0 :: below }]
def below0 : List Frame := [.native { method := ⟨0, 0⟩, args := #[] }]
def about1 : State := aboutOver below0
def p0 : Program := .bare "" "" ""
def e0 : Env := launch0.env 0 0 0
theorem w_frames : about1.frames = Frame.invoking theMethod args0 :: below0 := rfl
set_option maxRecDepth 65536 in
theorem w_args : argsFit about1.vm theMethod args0 = true := by decide +kernel
set_option maxRecDepth 65536 in
theorem w_heap : heapFits about1 = true := by decide +kernel
set_option maxRecDepth 65536 in
theorem w_runnable : about1.curStatus? = some .runnable := by decide +kernel
set_option maxRecDepth 65536 in
theorem w_alone : about1.alone = true := by decide +kernel
set_option maxRecDepth 65536 in
theorem w_named : about1.methodNamed? x = some theMethod := by decide +kernel
set_option maxRecDepth 65536 in
theorem w_hears : about1.hears theMethod below0 = true := by decide +kernel
set_option maxRecDepth 65536 in
theorem w_ripe : about1.ripe theMethod args0 below0 = true := by decide +kernel
theorem w_running : about1.status = .running := rfl
set_option maxRecDepth 65536 in
theorem w_room : about1.hasRoom e0.platform room_1 = true :=
  launch0.hasRoom_least _ room_1 (by decide +kernel) (by decide +kernel) (by decide +kernel) (by decide +kernel) (by decide +kernel) (by decide +kernel)
theorem allAtoms_all (ts : List Jvm.Cond) (a : Array Jvm.Value) (st : Jvm.State) : (allAtoms ts).before a st = ts.all (fun c => c.before a st) := by
  induction ts with
  | nil => rfl
  | cons c t ih =>
    show (Jvm.Cond.and c (allAtoms t)).before a st = _
    rw [Jvm.Cond.before_and, ih, List.all_cons]
def words1 : List Jvm.Cond := Jvm.Cond.code x code maxLocals ret :: tables_1
/-- a 'code' word, met by the world's own term for the bytes: nothing is compared byte by byte -/
theorem code_word {y : MethodName} {bytes : ByteArray} {mx : Nat} {rt : Option FieldType} {a : Array Value} {s : State} {m : MethodId} {meth : Method} {c : Code} (h1 : s.methodNamed? y = some m) (h2 : s.vm.method? m = some meth) (h3 : meth.code = some c) (h4 : c.code = bytes)
    (h5 : (c.maxLocals == mx && c.exceptionTable.isEmpty && decide (c.maxStack ≤ mostOperands) && decide (meth.sig.returnType = rt) && !meth.locks && decide (parseMethodDescriptor y.desc = some meth.sig)) = true) : (Jvm.Cond.code y bytes mx rt).before a s = true := by
  simp only [Bool.and_eq_true, beq_iff_eq, Bool.not_eq_true', decide_eq_true_eq] at h5
  obtain ⟨⟨⟨⟨⟨g1, g2⟩, g3⟩, g4⟩, g5⟩, g6⟩ := h5
  simp [Cond.before, Cond.holds, Cond.value, h1, h2, h3, h4, g1, g2, g3, g4, g5, g6]
def isCode : Jvm.Cond → Bool
  | .code _ _ _ _ => true
  | _ => false
theorem all_split {L : List Jvm.Cond} {P : Jvm.Cond → Bool} (h1 : L.all (fun c => isCode c || P c) = true) (h2 : ∀ c ∈ L.filter isCode, P c = true) : L.all P = true := by
  refine List.all_eq_true.mpr fun c hc => ?_
  have h := List.all_eq_true.mp h1 c hc
  rcases Bool.eq_false_or_eq_true (isCode c) with hi | hi
  · exact h2 c (List.mem_filter.mpr ⟨hc, hi⟩)
  · simpa [hi] using h
set_option maxRecDepth 65536 in
theorem w_c0 : (Jvm.Cond.code x code maxLocals ret).before args0 about1 = true := code_word (m := ⟨1, 1⟩) (meth := k1m1) (c := k1c1) (by decide +kernel) rfl rfl rfl (by decide +kernel)
set_option maxRecDepth 65536 in
theorem w_c1 : (Jvm.Cond.code ({ cls := "com/example/corral/corral/ownership/Units", name := "<init>", desc := "()V" } : Jvm.MethodName) prog_25_method_1_code (1 : Nat) (Option.none : Option Jvm.ClassFile.FieldType)).before args0 about1 = true := code_word (m := ⟨2, 0⟩) (meth := k2m0) (c := k2c0) (by decide +kernel) rfl rfl rfl (by decide +kernel)
set_option maxRecDepth 65536 in
theorem w_c2 : (Jvm.Cond.code ({ cls := "java/lang/Object", name := "<init>", desc := "()V" } : Jvm.MethodName) object_method_1_code (1 : Nat) (Option.none : Option Jvm.ClassFile.FieldType)).before args0 about1 = true := code_word (m := ⟨0, 0⟩) (meth := k0m0) (c := k0c0) (by decide +kernel) rfl rfl rfl (by decide +kernel)
set_option maxRecDepth 65536 in
theorem w_c3 : (Jvm.Cond.code ({ cls := "com/example/corral/corral/ownership/Units", name := "isEmpty", desc := "()Z" } : Jvm.MethodName) prog_25_method_3_code (1 : Nat) (Option.some Jvm.ClassFile.FieldType.boolean)).before args0 about1 = true := code_word (m := ⟨2, 1⟩) (meth := k2m1) (c := k2c1) (by decide +kernel) rfl rfl rfl (by decide +kernel)
set_option maxRecDepth 65536 in
theorem w_c4 : (Jvm.Cond.code ({ cls := "com/example/corral/corral/ownership/UnitsIsEmptyPinLaw", name := "step", desc := "(Lcom/example/corral/corral/ownership/Units;[JI)Z" } : Jvm.MethodName) method_3_code (8 : Nat) (Option.some Jvm.ClassFile.FieldType.boolean)).before args0 about1 = true := code_word (m := ⟨1, 2⟩) (meth := k1m2) (c := k1c2) (by decide +kernel) rfl rfl rfl (by decide +kernel)
set_option maxRecDepth 65536 in
theorem w_c5 : (Jvm.Cond.code ({ cls := "com/example/corral/corral/ownership/Units", name := "add", desc := "(I)V" } : Jvm.MethodName) prog_25_method_5_code (5 : Nat) (Option.none : Option Jvm.ClassFile.FieldType)).before args0 about1 = true := code_word (m := ⟨2, 2⟩) (meth := k2m2) (c := k2c2) (by decide +kernel) rfl rfl rfl (by decide +kernel)
set_option maxRecDepth 65536 in
theorem w_c6 : (Jvm.Cond.code ({ cls := "com/example/corral/corral/ownership/Units", name := "find", desc := "(I)I" } : Jvm.MethodName) prog_25_method_7_code (2 : Nat) (Option.some Jvm.ClassFile.FieldType.int)).before args0 about1 = true := code_word (m := ⟨2, 4⟩) (meth := k2m4) (c := k2c4) (by decide +kernel) rfl rfl rfl (by decide +kernel)
set_option maxRecDepth 65536 in
theorem w_c7 : (Jvm.Cond.code ({ cls := "java/util/Arrays", name := "binarySearch", desc := "([IIII)I" } : Jvm.MethodName) jdk_65_method_58_code (4 : Nat) (Option.some Jvm.ClassFile.FieldType.int)).before args0 about1 = true := code_word (m := ⟨3, 2⟩) (meth := k3m2) (c := k3c2) (by decide +kernel) rfl rfl rfl (by decide +kernel)
set_option maxRecDepth 65536 in
theorem w_c8 : (Jvm.Cond.code ({ cls := "java/util/Arrays", name := "rangeCheck", desc := "(III)V" } : Jvm.MethodName) jdk_65_method_30_code (3 : Nat) (Option.none : Option Jvm.ClassFile.FieldType)).before args0 about1 = true := code_word (m := ⟨3, 1⟩) (meth := k3m1) (c := k3c1) (by decide +kernel) rfl rfl rfl (by decide +kernel)
set_option maxRecDepth 65536 in
theorem w_c9 : (Jvm.Cond.code ({ cls := "java/util/Arrays", name := "binarySearch0", desc := "([IIII)I" } : Jvm.MethodName) jdk_65_method_59_code (8 : Nat) (Option.some Jvm.ClassFile.FieldType.int)).before args0 about1 = true := code_word (m := ⟨3, 3⟩) (meth := k3m3) (c := k3c3) (by decide +kernel) rfl rfl rfl (by decide +kernel)
set_option maxRecDepth 65536 in
theorem w_c10 : (Jvm.Cond.code ({ cls := "com/example/corral/corral/ownership/Units", name := "bitBytes", desc := "(I)J" } : Jvm.MethodName) prog_25_method_10_code (1 : Nat) (Option.some Jvm.ClassFile.FieldType.long)).before args0 about1 = true := code_word (m := ⟨2, 6⟩) (meth := k2m6) (c := k2c6) (by decide +kernel) rfl rfl rfl (by decide +kernel)
set_option maxRecDepth 65536 in
theorem w_c11 : (Jvm.Cond.code ({ cls := "java/lang/Math", name := "max", desc := "(II)I" } : Jvm.MethodName) jdk_29_method_65_code (2 : Nat) (Option.some Jvm.ClassFile.FieldType.int)).before args0 about1 = true := code_word (m := ⟨5, 1⟩) (meth := k5m1) (c := k5c1) (by decide +kernel) rfl rfl rfl (by decide +kernel)
set_option maxRecDepth 65536 in
theorem w_c12 : (Jvm.Cond.code ({ cls := "java/util/Arrays", name := "copyOf", desc := "([II)[I" } : Jvm.MethodName) jdk_65_method_123_code (3 : Nat) (Option.some (Jvm.ClassFile.FieldType.array Jvm.ClassFile.FieldType.int))).before args0 about1 = true := code_word (m := ⟨3, 4⟩) (meth := k3m4) (c := k3c4) (by decide +kernel) rfl rfl rfl (by decide +kernel)
set_option maxRecDepth 65536 in
theorem w_c13 : (Jvm.Cond.code ({ cls := "java/lang/Math", name := "min", desc := "(II)I" } : Jvm.MethodName) jdk_29_method_69_code (2 : Nat) (Option.some Jvm.ClassFile.FieldType.int)).before args0 about1 = true := code_word (m := ⟨5, 2⟩) (meth := k5m2) (c := k5c2) (by decide +kernel) rfl rfl rfl (by decide +kernel)
set_option maxRecDepth 65536 in
theorem w_c14 : (Jvm.Cond.code ({ cls := "com/example/corral/corral/ownership/Units", name := "toBits", desc := "()V" } : Jvm.MethodName) prog_25_method_8_code (2 : Nat) (Option.none : Option Jvm.ClassFile.FieldType)).before args0 about1 = true := code_word (m := ⟨2, 5⟩) (meth := k2m5) (c := k2c5) (by decide +kernel) rfl rfl rfl (by decide +kernel)
set_option maxRecDepth 65536 in
theorem w_c15 : (Jvm.Cond.code ({ cls := "java/util/BitSet", name := "<init>", desc := "()V" } : Jvm.MethodName) jdk_92_method_4_code (1 : Nat) (Option.none : Option Jvm.ClassFile.FieldType)).before args0 about1 = true := code_word (m := ⟨8, 3⟩) (meth := k8m3) (c := k8c3) (by decide +kernel) rfl rfl rfl (by decide +kernel)
set_option maxRecDepth 65536 in
theorem w_c16 : (Jvm.Cond.code ({ cls := "java/util/BitSet", name := "initWords", desc := "(I)V" } : Jvm.MethodName) jdk_92_method_6_code (2 : Nat) (Option.none : Option Jvm.ClassFile.FieldType)).before args0 about1 = true := code_word (m := ⟨8, 4⟩) (meth := k8m4) (c := k8c4) (by decide +kernel) rfl rfl rfl (by decide +kernel)
set_option maxRecDepth 65536 in
theorem w_c17 : (Jvm.Cond.code ({ cls := "java/util/BitSet", name := "wordIndex", desc := "(I)I" } : Jvm.MethodName) jdk_92_method_1_code (1 : Nat) (Option.some Jvm.ClassFile.FieldType.int)).before args0 about1 = true := code_word (m := ⟨8, 0⟩) (meth := k8m0) (c := k8c0) (by decide +kernel) rfl rfl rfl (by decide +kernel)
set_option maxRecDepth 65536 in
theorem w_c18 : (Jvm.Cond.code ({ cls := "java/util/BitSet", name := "set", desc := "(I)V" } : Jvm.MethodName) jdk_92_method_19_code (3 : Nat) (Option.none : Option Jvm.ClassFile.FieldType)).before args0 about1 = true := code_word (m := ⟨8, 7⟩) (meth := k8m7) (c := k8c7) (by decide +kernel) rfl rfl rfl (by decide +kernel)
set_option maxRecDepth 65536 in
theorem w_c19 : (Jvm.Cond.code ({ cls := "java/util/BitSet", name := "expandTo", desc := "(I)V" } : Jvm.MethodName) jdk_92_method_15_code (3 : Nat) (Option.none : Option Jvm.ClassFile.FieldType)).before args0 about1 = true := code_word (m := ⟨8, 6⟩) (meth := k8m6) (c := k8c6) (by decide +kernel) rfl rfl rfl (by decide +kernel)
set_option maxRecDepth 65536 in
theorem w_c20 : (Jvm.Cond.code ({ cls := "java/util/BitSet", name := "ensureCapacity", desc := "(I)V" } : Jvm.MethodName) jdk_92_method_14_code (3 : Nat) (Option.none : Option Jvm.ClassFile.FieldType)).before args0 about1 = true := code_word (m := ⟨8, 5⟩) (meth := k8m5) (c := k8c5) (by decide +kernel) rfl rfl rfl (by decide +kernel)
set_option maxRecDepth 65536 in
theorem w_c21 : (Jvm.Cond.code ({ cls := "java/util/BitSet", name := "checkInvariants", desc := "()V" } : Jvm.MethodName) jdk_92_method_2_code (1 : Nat) (Option.none : Option Jvm.ClassFile.FieldType)).before args0 about1 = true := code_word (m := ⟨8, 1⟩) (meth := k8m1) (c := k8c1) (by decide +kernel) rfl rfl rfl (by decide +kernel)
set_option maxRecDepth 65536 in
theorem w_c22 : (Jvm.Cond.code ({ cls := "java/util/BitSet", name := "get", desc := "(I)Z" } : Jvm.MethodName) jdk_92_method_26_code (3 : Nat) (Option.some Jvm.ClassFile.FieldType.boolean)).before args0 about1 = true := code_word (m := ⟨8, 9⟩) (meth := k8m9) (c := k8c9) (by decide +kernel) rfl rfl rfl (by decide +kernel)
set_option maxRecDepth 65536 in
theorem w_c23 : (Jvm.Cond.code ({ cls := "com/example/corral/corral/ownership/Units", name := "remove", desc := "(I)V" } : Jvm.MethodName) prog_25_method_6_code (3 : Nat) (Option.none : Option Jvm.ClassFile.FieldType)).before args0 about1 = true := code_word (m := ⟨2, 3⟩) (meth := k2m3) (c := k2c3) (by decide +kernel) rfl rfl rfl (by decide +kernel)
set_option maxRecDepth 65536 in
theorem w_c24 : (Jvm.Cond.code ({ cls := "java/util/Arrays", name := "copyOf", desc := "([JI)[J" } : Jvm.MethodName) jdk_65_method_124_code (3 : Nat) (Option.some (Jvm.ClassFile.FieldType.array Jvm.ClassFile.FieldType.long))).before args0 about1 = true := code_word (m := ⟨3, 5⟩) (meth := k3m5) (c := k3c5) (by decide +kernel) rfl rfl rfl (by decide +kernel)
set_option maxRecDepth 65536 in
theorem w_c25 : (Jvm.Cond.code ({ cls := "java/util/BitSet", name := "clear", desc := "(I)V" } : Jvm.MethodName) jdk_92_method_23_code (3 : Nat) (Option.none : Option Jvm.ClassFile.FieldType)).before args0 about1 = true := code_word (m := ⟨8, 8⟩) (meth := k8m8) (c := k8c8) (by decide +kernel) rfl rfl rfl (by decide +kernel)
set_option maxRecDepth 65536 in
theorem w_c26 : (Jvm.Cond.code ({ cls := "java/util/BitSet", name := "recalculateWordsInUse", desc := "()V" } : Jvm.MethodName) jdk_92_method_3_code (2 : Nat) (Option.none : Option Jvm.ClassFile.FieldType)).before args0 about1 = true := code_word (m := ⟨8, 2⟩) (meth := k8m2) (c := k8c2) (by decide +kernel) rfl rfl rfl (by decide +kernel)
set_option maxRecDepth 65536 in
theorem w_c27 : (Jvm.Cond.code ({ cls := "java/util/BitSet", name := "length", desc := "()I" } : Jvm.MethodName) jdk_92_method_32_code (1 : Nat) (Option.some Jvm.ClassFile.FieldType.int)).before args0 about1 = true := code_word (m := ⟨8, 10⟩) (meth := k8m10) (c := k8c10) (by decide +kernel) rfl rfl rfl (by decide +kernel)
set_option maxRecDepth 65536 in
theorem w_c28 : (Jvm.Cond.code ({ cls := "java/lang/Long", name := "numberOfLeadingZeros", desc := "(J)I" } : Jvm.MethodName) jdk_35_method_48_code (3 : Nat) (Option.some Jvm.ClassFile.FieldType.int)).before args0 about1 = true := code_word (m := ⟨13, 0⟩) (meth := k13m0) (c := k13c0) (by decide +kernel) rfl rfl rfl (by decide +kernel)
set_option maxRecDepth 65536 in
theorem w_c29 : (Jvm.Cond.code ({ cls := "java/lang/Integer", name := "numberOfLeadingZeros", desc := "(I)I" } : Jvm.MethodName) jdk_33_method_47_code (2 : Nat) (Option.some Jvm.ClassFile.FieldType.int)).before args0 about1 = true := code_word (m := ⟨14, 0⟩) (meth := k14m0) (c := k14c0) (by decide +kernel) rfl rfl rfl (by decide +kernel)
def codes1 : List Jvm.Cond := [Jvm.Cond.code x code maxLocals ret, Jvm.Cond.code ({ cls := "com/example/corral/corral/ownership/Units", name := "<init>", desc := "()V" } : Jvm.MethodName) prog_25_method_1_code (1 : Nat) (Option.none : Option Jvm.ClassFile.FieldType), Jvm.Cond.code ({ cls := "java/lang/Object", name := "<init>", desc := "()V" } : Jvm.MethodName) object_method_1_code (1 : Nat) (Option.none : Option Jvm.ClassFile.FieldType), Jvm.Cond.code ({ cls := "com/example/corral/corral/ownership/Units", name := "isEmpty", desc := "()Z" } : Jvm.MethodName) prog_25_method_3_code (1 : Nat) (Option.some Jvm.ClassFile.FieldType.boolean), Jvm.Cond.code ({ cls := "com/example/corral/corral/ownership/UnitsIsEmptyPinLaw", name := "step", desc := "(Lcom/example/corral/corral/ownership/Units;[JI)Z" } : Jvm.MethodName) method_3_code (8 : Nat) (Option.some Jvm.ClassFile.FieldType.boolean), Jvm.Cond.code ({ cls := "com/example/corral/corral/ownership/Units", name := "add", desc := "(I)V" } : Jvm.MethodName) prog_25_method_5_code (5 : Nat) (Option.none : Option Jvm.ClassFile.FieldType), Jvm.Cond.code ({ cls := "com/example/corral/corral/ownership/Units", name := "find", desc := "(I)I" } : Jvm.MethodName) prog_25_method_7_code (2 : Nat) (Option.some Jvm.ClassFile.FieldType.int), Jvm.Cond.code ({ cls := "java/util/Arrays", name := "binarySearch", desc := "([IIII)I" } : Jvm.MethodName) jdk_65_method_58_code (4 : Nat) (Option.some Jvm.ClassFile.FieldType.int), Jvm.Cond.code ({ cls := "java/util/Arrays", name := "rangeCheck", desc := "(III)V" } : Jvm.MethodName) jdk_65_method_30_code (3 : Nat) (Option.none : Option Jvm.ClassFile.FieldType), Jvm.Cond.code ({ cls := "java/util/Arrays", name := "binarySearch0", desc := "([IIII)I" } : Jvm.MethodName) jdk_65_method_59_code (8 : Nat) (Option.some Jvm.ClassFile.FieldType.int), Jvm.Cond.code ({ cls := "com/example/corral/corral/ownership/Units", name := "bitBytes", desc := "(I)J" } : Jvm.MethodName) prog_25_method_10_code (1 : Nat) (Option.some Jvm.ClassFile.FieldType.long), Jvm.Cond.code ({ cls := "java/lang/Math", name := "max", desc := "(II)I" } : Jvm.MethodName) jdk_29_method_65_code (2 : Nat) (Option.some Jvm.ClassFile.FieldType.int), Jvm.Cond.code ({ cls := "java/util/Arrays", name := "copyOf", desc := "([II)[I" } : Jvm.MethodName) jdk_65_method_123_code (3 : Nat) (Option.some (Jvm.ClassFile.FieldType.array Jvm.ClassFile.FieldType.int)), Jvm.Cond.code ({ cls := "java/lang/Math", name := "min", desc := "(II)I" } : Jvm.MethodName) jdk_29_method_69_code (2 : Nat) (Option.some Jvm.ClassFile.FieldType.int), Jvm.Cond.code ({ cls := "com/example/corral/corral/ownership/Units", name := "toBits", desc := "()V" } : Jvm.MethodName) prog_25_method_8_code (2 : Nat) (Option.none : Option Jvm.ClassFile.FieldType), Jvm.Cond.code ({ cls := "java/util/BitSet", name := "<init>", desc := "()V" } : Jvm.MethodName) jdk_92_method_4_code (1 : Nat) (Option.none : Option Jvm.ClassFile.FieldType), Jvm.Cond.code ({ cls := "java/util/BitSet", name := "initWords", desc := "(I)V" } : Jvm.MethodName) jdk_92_method_6_code (2 : Nat) (Option.none : Option Jvm.ClassFile.FieldType), Jvm.Cond.code ({ cls := "java/util/BitSet", name := "wordIndex", desc := "(I)I" } : Jvm.MethodName) jdk_92_method_1_code (1 : Nat) (Option.some Jvm.ClassFile.FieldType.int), Jvm.Cond.code ({ cls := "java/util/BitSet", name := "set", desc := "(I)V" } : Jvm.MethodName) jdk_92_method_19_code (3 : Nat) (Option.none : Option Jvm.ClassFile.FieldType), Jvm.Cond.code ({ cls := "java/util/BitSet", name := "expandTo", desc := "(I)V" } : Jvm.MethodName) jdk_92_method_15_code (3 : Nat) (Option.none : Option Jvm.ClassFile.FieldType), Jvm.Cond.code ({ cls := "java/util/BitSet", name := "ensureCapacity", desc := "(I)V" } : Jvm.MethodName) jdk_92_method_14_code (3 : Nat) (Option.none : Option Jvm.ClassFile.FieldType), Jvm.Cond.code ({ cls := "java/util/BitSet", name := "checkInvariants", desc := "()V" } : Jvm.MethodName) jdk_92_method_2_code (1 : Nat) (Option.none : Option Jvm.ClassFile.FieldType), Jvm.Cond.code ({ cls := "java/util/BitSet", name := "get", desc := "(I)Z" } : Jvm.MethodName) jdk_92_method_26_code (3 : Nat) (Option.some Jvm.ClassFile.FieldType.boolean), Jvm.Cond.code ({ cls := "com/example/corral/corral/ownership/Units", name := "remove", desc := "(I)V" } : Jvm.MethodName) prog_25_method_6_code (3 : Nat) (Option.none : Option Jvm.ClassFile.FieldType), Jvm.Cond.code ({ cls := "java/util/Arrays", name := "copyOf", desc := "([JI)[J" } : Jvm.MethodName) jdk_65_method_124_code (3 : Nat) (Option.some (Jvm.ClassFile.FieldType.array Jvm.ClassFile.FieldType.long)), Jvm.Cond.code ({ cls := "java/util/BitSet", name := "clear", desc := "(I)V" } : Jvm.MethodName) jdk_92_method_23_code (3 : Nat) (Option.none : Option Jvm.ClassFile.FieldType), Jvm.Cond.code ({ cls := "java/util/BitSet", name := "recalculateWordsInUse", desc := "()V" } : Jvm.MethodName) jdk_92_method_3_code (2 : Nat) (Option.none : Option Jvm.ClassFile.FieldType), Jvm.Cond.code ({ cls := "java/util/BitSet", name := "length", desc := "()I" } : Jvm.MethodName) jdk_92_method_32_code (1 : Nat) (Option.some Jvm.ClassFile.FieldType.int), Jvm.Cond.code ({ cls := "java/lang/Long", name := "numberOfLeadingZeros", desc := "(J)I" } : Jvm.MethodName) jdk_35_method_48_code (3 : Nat) (Option.some Jvm.ClassFile.FieldType.int), Jvm.Cond.code ({ cls := "java/lang/Integer", name := "numberOfLeadingZeros", desc := "(I)I" } : Jvm.MethodName) jdk_33_method_47_code (2 : Nat) (Option.some Jvm.ClassFile.FieldType.int)]
set_option maxRecDepth 65536 in
theorem codes_eq : words1.filter isCode = codes1 := rfl
theorem w_codes : ∀ c ∈ words1.filter isCode, c.before args0 about1 = true := by
  rw [codes_eq]
  intro c hc
  simp only [codes1, List.mem_cons, List.not_mem_nil, or_false] at hc
  rcases hc with rfl | rfl | rfl | rfl | rfl | rfl | rfl | rfl | rfl | rfl | rfl | rfl | rfl | rfl | rfl | rfl | rfl | rfl | rfl | rfl | rfl | rfl | rfl | rfl | rfl | rfl | rfl | rfl | rfl | rfl
  · exact w_c0
  · exact w_c1
  · exact w_c2
  · exact w_c3
  · exact w_c4
  · exact w_c5
  · exact w_c6
  · exact w_c7
  · exact w_c8
  · exact w_c9
  · exact w_c10
  · exact w_c11
  · exact w_c12
  · exact w_c13
  · exact w_c14
  · exact w_c15
  · exact w_c16
  · exact w_c17
  · exact w_c18
  · exact w_c19
  · exact w_c20
  · exact w_c21
  · exact w_c22
  · exact w_c23
  · exact w_c24
  · exact w_c25
  · exact w_c26
  · exact w_c27
  · exact w_c28
  · exact w_c29
set_option maxRecDepth 65536 in
theorem w_t1 : (words1.take 24).all (fun c => isCode c || c.before args0 about1) = true := by decide +kernel
set_option maxRecDepth 65536 in
theorem w_t2 : ((words1.drop 24).take 24).all (fun c => isCode c || c.before args0 about1) = true := by decide +kernel
set_option maxRecDepth 65536 in
theorem w_t3 : (((words1.drop 24).drop 24).take 24).all (fun c => isCode c || c.before args0 about1) = true := by decide +kernel
set_option maxRecDepth 65536 in
theorem w_t4 : ((((words1.drop 24).drop 24).drop 24).take 24).all (fun c => isCode c || c.before args0 about1) = true := by decide +kernel
set_option maxRecDepth 65536 in
theorem w_t5 : (((((words1.drop 24).drop 24).drop 24).drop 24).take 24).all (fun c => isCode c || c.before args0 about1) = true := by decide +kernel
set_option maxRecDepth 65536 in
theorem w_t6 : ((((((words1.drop 24).drop 24).drop 24).drop 24).drop 24).take 24).all (fun c => isCode c || c.before args0 about1) = true := by decide +kernel
set_option maxRecDepth 65536 in
theorem w_t7 : ((((((words1.drop 24).drop 24).drop 24).drop 24).drop 24).drop 24).all (fun c => isCode c || c.before args0 about1) = true := by decide +kernel
theorem w_tables : (allAtoms (Jvm.Cond.code x code maxLocals ret :: tables_1)).before args0 about1 = true := by
  rw [allAtoms_all]
  show words1.all (fun c => c.before args0 about1) = true
  refine all_split ?_ w_codes
  rw [← List.take_append_drop 24 words1, List.all_append, w_t1, ← List.take_append_drop 24 (words1.drop 24), List.all_append, w_t2, ← List.take_append_drop 24 ((words1.drop 24).drop 24), List.all_append, w_t3, ← List.take_append_drop 24 (((words1.drop 24).drop 24).drop 24), List.all_append, w_t4, ← List.take_append_drop 24 ((((words1.drop 24).drop 24).drop 24).drop 24), List.all_append, w_t5, ← List.take_append_drop 24 (((((words1.drop 24).drop 24).drop 24).drop 24).drop 24), List.all_append, w_t6, w_t7]
  rfl
set_option maxRecDepth 65536 in
theorem w_rest : rest_1_c.before args0 about1 = true := by decide +kernel
set_option maxRecDepth 65536 in
theorem w_case : (Jvm.Cond.and given_1 narrow_1).before args0 about1 = true := by decide +kernel
theorem w_applies : (headSpec (Jvm.Cond.code x code maxLocals ret :: tables_1) room_1).applies x e0.platform about1 = true :=
  (Spec.applies_iff w_frames).mpr ⟨w_running, w_runnable, w_alone, w_named, w_hears, w_ripe, w_room, w_tables⟩
theorem atStart : AtStart classFile x code maxLocals ret World_1 tables_1 room_1 Calls_1 rest_1 Pre_1 launch0 p0 e0 about1 theMethod args0 below0 :=
  ⟨lists_1, trivial, launch0.admits_env _ _ _, launch0.least_env, fairChoices_fair.cas, fairChoices_fair.clock, w_frames, w_args, w_heap, w_applies, trivial, w_rest, w_case⟩
end start1
theorem witness_1 : WitnessClaimed_1 := ⟨start1.p0, start1.e0, start1.about1, start1.theMethod, start1.args0, start1.below0, start1.atStart⟩
end Jvm.Pilot.@@N@@
