import JvmDerived
import JvmDerived.Pilot.@@N@@Statement
import JvmDerived.Pilot.@@N@@Code
set_option linter.unusedVariables false
set_option linter.unusedSimpArgs false
namespace Jvm.RoadKit
open Sem ClassFile Op Lib Jvm.Stand Jvm.Free Jvm.LawKit
section New
variable {p : Program} {l : Launch} {e : Env} {R : Room} {s : State} {m : MethodId} {args : Array Value} {below : List Frame} {meth : Method} {c : Code} {T : State} {locs : List Loc} {cells slots : Nat}
theorem retI (X : Stand p l e R s m args below meth c T locs cells slots) (hx : p.tables.exec = Jvm.exec) {pc : Nat} {Ls : Array Slot} {z : Int32} {rest : List Value} (hret : meth.sig.returnType = some .int) (hd : decode c.code pc = .ok (.ireturn, 1)) {fs : List Frame}
    (hl : ∀ (f : JFrame) (acts : List Action), f.method = m → f.locked = none → f.entered = [] → (doReturn e (T.setTop f) acts (some (.int z))).1 = T.setFrames fs) : Steps p.tables e below (T.setTop (mkF m pc Ls (.int z :: rest))) (T.setFrames fs) := by
  have hm' : T.vm.method? m = some meth := X.method'
  have hn : narrow .int (.int z) = .int z := rfl
  show Steps p.tables e below (T.setTop { method := m, pc := pc, locals := Ls, stack := _ :: rest, locked := none }) _
  jvm_step X.here [X.here.top, hx, hd, hm', hret, hn]
  first | (intro acts; rw [hl _ acts rfl rfl rfl]) | rw [hl _ _ rfl rfl rfl]
  exact Steps.refl _
end New
end Jvm.RoadKit
namespace Jvm.Pilot.@@N@@
open Jvm Jvm.ClassFile Sem Op Lib Jvm.Free Jvm.Stand Jvm.LawKit Jvm.RoadKit Bundle Jvm.Pilot.@@N@@.Jvm.D
def QL (n0 : Nat) (v : Option Value) (h : Heap) (L : List Loc) : Prop := v = some (.int 1) ∧ Fr n0 L
def Lv (Z : State) (h : Heap) (b : Addr) (n : Nat) (f : Int32 → Int64) : Prop := ∃ c : Cell, Arr Z h b c .long ∧ c.slots.size = n ∧ ∀ j : Int32, ¬ (j < 0 ∨ c.slots.size ≤ j.toNatClampNeg) → c.slots[j.toNatClampNeg]? = some (.long (f j))
def upd (f : Int32 → Int64) (i : Int32) (x : Int64) : Int32 → Int64 := fun j => if j = i then x else f j
section OwnL
variable {Z : State} {h h' : Heap} {a b : Addr} {n sl : Nat} {f : Int32 → Int64} {v : Value} {ws : List Addr}
theorem Lv.lt (F : Lv Z h b n f) : b < h.size := by obtain ⟨c, A, -⟩ := F; exact A.lt
theorem Lv.ext (F : Lv Z h b n f) (E : Ext h h') : Lv Z h' b n f := by obtain ⟨c, A, r⟩ := F; exact ⟨c, A.ext E, r⟩
theorem Lv.other (F : Lv Z h b n f) (W : Wr h h' a sl v) (q : b ≠ a) : Lv Z h' b n f := by obtain ⟨c, A, r⟩ := F; exact ⟨c, A.other W q, r⟩
theorem Lv.keep (F : Lv Z h b n f) (K : Keep h h' ws) (q : b ∉ ws) : Lv Z h' b n f := by obtain ⟨c, A, r⟩ := F; exact ⟨c, ⟨K.2.1 b c A.1 q, A.2⟩, r⟩
theorem Lv.set {c : Cell} {i : Int32} {x : Int64} (A : Arr Z h b c .long) (S : c.slots.size = n) (H : ∀ j : Int32, ¬ (j < 0 ∨ c.slots.size ≤ j.toNatClampNeg) → c.slots[j.toNatClampNeg]? = some (.long (f j))) (hi : ¬ (i < 0 ∨ c.slots.size ≤ i.toNatClampNeg)) (W : Wr h h' b i.toNatClampNeg (.long x)) : Lv Z h' b n (upd f i x) := by
  refine ⟨c.setSlot i.toNatClampNeg (.long x), A.same W, (sz_set _ _ _).trans S, fun j hj => ?_⟩
  rw [sz_set] at hj
  by_cases e : j = i
  · simp only [upd, if_pos e]; exact get_hit hi e
  · simp only [upd, if_neg e]; rw [get_miss (fun q => hi (Or.inl q)) (fun q => hj (Or.inl q)) e]; exact H j hj
end OwnL
def La (Z : State) (h : Heap) (b : Addr) (ty : FieldType) (n : Int32) (xs : List Int32) : Prop := ∃ kc, Arv Z h b kc ty n (xs.map Value.int) (.int 0) ∧ xs.length = n.toNatClampNeg
section OwnA
variable {Z : State} {h h' : Heap} {a b : Addr} {ty : FieldType} {n : Int32} {sl : Nat} {xs : List Int32} {v : Value} {ws : List Addr}
theorem La.lt (F : La Z h b ty n xs) : b < h.size := by obtain ⟨c, A, -⟩ := F; exact A.lt
theorem La.ext (F : La Z h b ty n xs) (E : Ext h h') : La Z h' b ty n xs := by obtain ⟨c, A, r⟩ := F; exact ⟨c, A.ext E, r⟩
theorem La.other (F : La Z h b ty n xs) (W : Wr h h' a sl v) (q : b ≠ a) : La Z h' b ty n xs := by obtain ⟨c, A, r⟩ := F; exact ⟨c, A.other W q, r⟩
theorem La.keep (F : La Z h b ty n xs) (K : Keep h h' ws) (q : b ∉ ws) : La Z h' b ty n xs := by obtain ⟨c, A, r⟩ := F; exact ⟨c, A.keep K q, r⟩
theorem La.zero {kc : ClassId} {z : Nat} (A : Arr Z h b (newA kc ty n) ty) (hn : ¬ n < 0) (hz : n.toNatClampNeg = z) (hd : defaultValue ty = .int 0) : La Z h b ty n (List.replicate z 0) := by
  refine ⟨kc, ?_, by rw [List.length_replicate, hz]⟩
  have q := Arv.new A hn
  rw [hd] at q
  have e : (List.replicate z (0 : Int32)).map Value.int = [] ++ List.replicate z (.int 0) := by simp
  rw [e]; exact q.pad (pad_rep [] _ z)
theorem La.at {j : Int32} (F : La Z h b ty n xs) (q : ¬ j < 0 ∧ j < n) : ∃ cl : Cell, Arr Z h b cl ty ∧ ¬ (j < 0 ∨ cl.slots.size ≤ j.toNatClampNeg) ∧ cl.slots[j.toNatClampNeg]? = some (.int (xs.getD j.toNatClampNeg 0)) := by
  obtain ⟨kc, ⟨cl, A, -, S, -, H, -⟩, hl⟩ := F
  refine ⟨cl, A, inb_of S q, H.at (inb_of S q) ?_⟩
  rw [List.getD_eq_getElem?_getD, List.getElem?_map, List.getD_eq_getElem?_getD]
  cases xs[j.toNatClampNeg]? <;> rfl
theorem La.up {j : Int32} (F : La Z h b ty n xs) (q : ¬ j < 0 ∧ j < n) : ∃ cl : Cell, Arr Z h b cl ty ∧ ¬ (j < 0 ∨ cl.slots.size ≤ j.toNatClampNeg) ∧ ∀ (x : Int32), fits ty (.int x) = true → ∀ h'', Wr h h'' b j.toNatClampNeg (.int x) → La Z h'' b ty n (xs.set j.toNatClampNeg x) := by
  obtain ⟨kc, ⟨cl, A, q1, S, q3, H, G⟩, hl⟩ := F
  have hin := inb_of S q
  refine ⟨cl, A, hin, fun x hx h'' W => ⟨kc, ?_, by rw [List.length_set]; exact hl⟩⟩
  rw [List.map_set]
  exact Arv.set A q1 S q3 H G hx W _ rfl (by rw [List.length_map, hl, ← S]; exact Nat.lt_of_not_le fun y => hin (Or.inr y))
end OwnA
def updI (f : Int32 → Int32) (i : Int32) (x : Int32) : Int32 → Int32 := fun j => if j = i then x else f j
def own_u (x : Int64) : Nat := (x ^^^ (-9223372036854775808 : Int64)).toBitVec.toNat
theorem own_u_lt (x : Int64) : own_u x < 2 ^ 64 := (x ^^^ (-9223372036854775808 : Int64)).toBitVec.isLt
theorem own_u_int (x : Int64) : (own_u x : Int) = x.toInt + 9223372036854775808 := by
  have e : own_u x = x.toBitVec.toNat ^^^ 2 ^ 63 := by
    show (x.toBitVec ^^^ (-9223372036854775808 : Int64).toBitVec).toNat = _
    rw [BitVec.toNat_xor]; rfl
  have h1 : own_u x % 2 ^ 63 = x.toBitVec.toNat % 2 ^ 63 := by
    rw [e, Nat.xor_mod_two_pow]; simp
  have h2 : own_u x / 2 ^ 63 = (x.toBitVec.toNat / 2 ^ 63) ^^^ 1 := by
    rw [e, Nat.xor_div_two_pow]
  have h3 := x.toBitVec.isLt
  have h4 : x.toInt = x.toBitVec.toInt := rfl
  rw [h4, BitVec.toInt_eq_toNat_cond]
  have h5 : x.toBitVec.toNat / 2 ^ 63 = 0 ∨ x.toBitVec.toNat / 2 ^ 63 = 1 := by omega
  rcases h5 with q | q
  · rw [q] at h2; rw [if_pos (by omega)]; have : (0 ^^^ 1 : Nat) = 1 := rfl; omega
  · rw [q] at h2; rw [if_neg (by omega)]; have : (1 ^^^ 1 : Nat) = 0 := rfl; omega
def own_b (n d : Nat) : Nat := n / 2 ^ (8 * d) % 256
def own_L (d : Nat) (x : Int64) : Nat := own_u x % 2 ^ (8 * d)
theorem own_L_lt (d : Nat) (x : Int64) : own_L d x < 2 ^ (8 * d) := Nat.mod_lt _ (Nat.two_pow_pos _)
theorem own_L_succ (d : Nat) (x : Int64) : own_L (d + 1) x = own_L d x + 2 ^ (8 * d) * own_b (own_u x) d := by
  unfold own_L own_b
  rw [show 2 ^ (8 * (d + 1)) = 2 ^ (8 * d) * 256 by rw [show 8 * (d + 1) = 8 * d + 8 by omega, Nat.pow_add], Nat.mod_mul]
theorem own_lt2 {P a b i j : Nat} (ha : a < P) (h : i < j) : a + P * i ≤ b + P * j := by
  have q : P * (i + 1) ≤ P * j := Nat.mul_le_mul_left P h
  rw [Nat.mul_succ] at q; omega
theorem own_Lle {d : Nat} {x y : Int64} (h : own_L d x ≤ own_L d y) (hb : own_b (own_u x) d ≤ own_b (own_u y) d) : own_L (d + 1) x ≤ own_L (d + 1) y := by
  rw [own_L_succ, own_L_succ]
  rcases Nat.lt_or_ge (own_b (own_u x) d) (own_b (own_u y) d) with q | q
  · exact own_lt2 (own_L_lt d x) q
  · rw [Nat.le_antisymm hb q]; omega
theorem own_Llt {d : Nat} {x y : Int64} (hb : own_b (own_u x) d < own_b (own_u y) d) : own_L (d + 1) x ≤ own_L (d + 1) y := by
  rw [own_L_succ, own_L_succ]; exact own_lt2 (own_L_lt d x) hb
theorem own_L8 {x y : Int64} (h : own_L 8 x ≤ own_L 8 y) : x.toInt ≤ y.toInt := by
  unfold own_L at h
  rw [Nat.mod_eq_of_lt (own_u_lt x), Nat.mod_eq_of_lt (own_u_lt y)] at h
  have := own_u_int x; have := own_u_int y; omega
def own_dg (x : Int64) (sh : Int32) : Int32 := (((((x ^^^ (-9223372036854775808 : Int64)).toUInt64 >>> (sh &&& 0x3f).toInt64.toUInt64).toInt64).toInt32) &&& (255 : Int32))
theorem own_sh {sh : Int32} {d : Nat} (hd : d < 8) (hs : sh.toInt = 8 * (d : Int)) : (sh &&& 0x3f).toInt64.toUInt64.toNat = 8 * d := by
  have h1 := c_mask sh 0x3f 6 (by decide) (by decide)
  have h2 : (sh &&& 0x3f).toInt = 8 * (d : Int) := by rw [h1, hs]; omega
  have h3 : (sh &&& 0x3f).toInt64.toInt = 8 * (d : Int) := by rw [Int32.toInt_toInt64]; exact h2
  show (sh &&& 0x3f).toInt64.toBitVec.toNat = 8 * d
  have h4 : (sh &&& 0x3f).toInt64.toInt = (sh &&& 0x3f).toInt64.toBitVec.toInt := rfl
  have h5 := (sh &&& 0x3f).toInt64.toBitVec.isLt
  rw [h4, BitVec.toInt_eq_toNat_cond] at h3
  split at h3 <;> omega
theorem own_dg_val (x : Int64) {sh : Int32} {d : Nat} (hd : d < 8) (hs : sh.toInt = 8 * (d : Int)) : (own_dg x sh).toInt = (own_b (own_u x) d : Int) := by
  unfold own_dg own_b
  have h1 := c_mask ((((x ^^^ (-9223372036854775808 : Int64)).toUInt64 >>> (sh &&& 0x3f).toInt64.toUInt64).toInt64).toInt32) 255 8 (by decide) (by decide)
  rw [h1]
  have h2 := c_l2i (((x ^^^ (-9223372036854775808 : Int64)).toUInt64 >>> (sh &&& 0x3f).toInt64.toUInt64).toInt64)
  have h3 : ((x ^^^ (-9223372036854775808 : Int64)).toUInt64 >>> (sh &&& 0x3f).toInt64.toUInt64).toNat = own_u x / 2 ^ (8 * d) := by
    rw [UInt64.toNat_shiftRight, own_sh hd hs, Nat.mod_eq_of_lt (by omega), Nat.shiftRight_eq_div_pow]; rfl
  generalize ((x ^^^ (-9223372036854775808 : Int64)).toUInt64 >>> (sh &&& 0x3f).toInt64.toUInt64) = q at h2 h3 ⊢
  rw [← h3]
  have h4 : q.toInt64.toInt = q.toBitVec.toInt := rfl
  have h5 : q.toNat = q.toBitVec.toNat := rfl
  have h6 := q.toBitVec.isLt
  rw [BitVec.toInt_eq_toNat_cond] at h4
  split at h4 <;> omega
theorem own_dg_rng (x : Int64) (sh : Int32) : 0 ≤ (own_dg x sh).toInt ∧ (own_dg x sh).toInt < 256 := by
  have h1 := c_mask ((((x ^^^ (-9223372036854775808 : Int64)).toUInt64 >>> (sh &&& 0x3f).toInt64.toUInt64).toInt64).toInt32) 255 8 (by decide) (by decide)
  unfold own_dg; omega
-- the byte test
theorem own_by (v : Int64) {sh : Int32} {d : Nat} (hd : d < 8) (hs : sh.toInt = 8 * (d : Int)) : (((v.toUInt64 >>> (sh &&& 0x3f).toInt64.toUInt64).toInt64) &&& (255 : Int64)) = (0 : Int64) ↔ own_b v.toBitVec.toNat d = 0 := by
  have h1 := c_maskL ((v.toUInt64 >>> (sh &&& 0x3f).toInt64.toUInt64).toInt64) 255 8 (by decide) (by decide)
  have h3 : (v.toUInt64 >>> (sh &&& 0x3f).toInt64.toUInt64).toNat = v.toBitVec.toNat / 2 ^ (8 * d) := by
    rw [UInt64.toNat_shiftRight, own_sh hd hs, Nat.mod_eq_of_lt (by omega), Nat.shiftRight_eq_div_pow]; rfl
  rw [← Int64.toInt_inj, h1]
  generalize (v.toUInt64 >>> (sh &&& 0x3f).toInt64.toUInt64) = q at h3 ⊢
  unfold own_b; rw [← h3]
  have h4 : q.toInt64.toInt = q.toBitVec.toInt := rfl
  have h5 : q.toNat = q.toBitVec.toNat := rfl
  have h6 := q.toBitVec.isLt
  have h7 : (0 : Int64).toInt = 0 := rfl
  rw [BitVec.toInt_eq_toNat_cond] at h4
  rw [h7]
  split at h4 <;> omega
theorem own_b_or {a b d : Nat} (h : own_b (a ||| b) d = 0) : own_b a d = 0 ∧ own_b b d = 0 := by
  unfold own_b at *
  rw [Nat.or_div_two_pow, show 256 = 2 ^ 8 from rfl, Nat.or_mod_two_pow] at h
  exact Nat.or_eq_zero_iff.mp h
theorem own_b_xor {a b d : Nat} (h : own_b (a ^^^ b) d = 0) : own_b a d = own_b b d := by
  unfold own_b at *
  rw [Nat.xor_div_two_pow, show 256 = 2 ^ 8 from rfl, Nat.xor_mod_two_pow] at h
  generalize a / 2 ^ (8 * d) % 2 ^ 8 = u at h ⊢
  generalize b / 2 ^ (8 * d) % 2 ^ 8 = t at h ⊢
  have q : (u ^^^ t) ^^^ t = 0 ^^^ t := by rw [h]
  rw [Nat.xor_assoc, Nat.xor_self, Nat.xor_zero, Nat.zero_xor] at q; exact q
theorem own_b_u {x y : Int64} {d : Nat} (h : own_b (x.toBitVec.toNat) d = own_b (y.toBitVec.toNat) d) : own_b (own_u x) d = own_b (own_u y) d := by
  have e : ∀ z : Int64, own_u z = z.toBitVec.toNat ^^^ 2 ^ 63 := fun z => by
    show (z.toBitVec ^^^ (-9223372036854775808 : Int64).toBitVec).toNat = _
    rw [BitVec.toNat_xor]; rfl
  rw [e, e]; unfold own_b at *
  rw [Nat.xor_div_two_pow, Nat.xor_div_two_pow, show 256 = 2 ^ 8 from rfl, Nat.xor_mod_two_pow, Nat.xor_mod_two_pow, show 2 ^ 8 = 256 from rfl, h]
def own_v2 (k0 k1 : Int64) : Int64 := (((0 : Int64) ||| (k0 ^^^ k0)) ||| (k1 ^^^ k0))
def own_v3 (k0 k1 k2 : Int64) : Int64 := ((((0 : Int64) ||| (k0 ^^^ k0)) ||| (k1 ^^^ k0)) ||| (k2 ^^^ k0))
theorem own_or_n (a b : Int64) : (a ||| b).toBitVec.toNat = a.toBitVec.toNat ||| b.toBitVec.toNat := by
  show (a.toBitVec ||| b.toBitVec).toNat = _; rw [BitVec.toNat_or]
theorem own_xor_n (a b : Int64) : (a ^^^ b).toBitVec.toNat = a.toBitVec.toNat ^^^ b.toBitVec.toNat := by
  show (a.toBitVec ^^^ b.toBitVec).toNat = _; rw [BitVec.toNat_xor]
theorem own_v2_b {k0 k1 : Int64} {d : Nat} (h : own_b (own_v2 k0 k1).toBitVec.toNat d = 0) : own_b (own_u k1) d = own_b (own_u k0) d := by
  unfold own_v2 at h; rw [own_or_n] at h
  have q := (own_b_or h).2; rw [own_xor_n] at q; exact own_b_u (own_b_xor q)
theorem own_v3_b {k0 k1 k2 : Int64} {d : Nat} (h : own_b (own_v3 k0 k1 k2).toBitVec.toNat d = 0) : own_b (own_u k1) d = own_b (own_u k0) d ∧ own_b (own_u k2) d = own_b (own_u k0) d := by
  unfold own_v3 at h; rw [own_or_n] at h
  have q := own_b_or h; rw [own_xor_n, own_or_n] at q
  have q2 := (own_b_or q.1).2; rw [own_xor_n] at q2
  exact ⟨own_b_u (own_b_xor q2), own_b_u (own_b_xor q.2)⟩
-- prefix sums
def inc (f : Int32 → Int32) (i : Int32) : Int32 → Int32 := updI f i (f i + (1 : Int32))
def own_pre (f : Int32 → Int32) : Nat → Int32
  | 0 => 0
  | n + 1 => own_pre f n + f (Int32.ofNat n)
theorem own_ofNat {n : Nat} (h : n < 2147483648) : (Int32.ofNat n).toInt = n := Int32.toInt_ofNat_of_lt h
theorem own_pre_0 (n : Nat) : own_pre (fun _ => (0 : Int32)) n = 0 := by
  induction n with
  | zero => rfl
  | succ n ih => show own_pre _ n + 0 = 0; rw [ih]; rfl
theorem own_pre_inc (f : Int32 → Int32) {i : Int32} (hi : 0 ≤ i.toInt) (n : Nat) (hn : n ≤ 256) : own_pre (inc f i) n = own_pre f n + if i.toInt < n then 1 else 0 := by
  induction n with
  | zero => show (0 : Int32) = 0 + _; rw [if_neg (by omega)]; rfl
  | succ n ih =>
    show own_pre (inc f i) n + inc f i (Int32.ofNat n) = (own_pre f n + f (Int32.ofNat n)) + _
    rw [ih (by omega)]
    have hn' := own_ofNat (n := n) (by omega)
    by_cases q : Int32.ofNat n = i
    · have e : inc f i (Int32.ofNat n) = f (Int32.ofNat n) + 1 := by simp [inc, updI, q]
      rw [q] at hn'
      rw [e, if_neg (by omega), if_pos (by omega), Int32.add_zero, Int32.add_assoc]
    · have e : inc f i (Int32.ofNat n) = f (Int32.ofNat n) := by simp [inc, updI, q]
      have q' : i.toInt ≠ n := fun z => q (Int32.toInt_inj.mp (hn'.trans z.symm))
      rw [e]
      by_cases r : i.toInt < n
      · rw [if_pos r, if_pos (by omega)]; rw [Int32.add_assoc, Int32.add_assoc, Int32.add_comm 1]
      · rw [if_neg r, if_neg (by omega), Int32.add_zero, Int32.add_zero]
-- the digits that vary
def DS (v : Int64) (n : Nat) : List Nat := (List.range n).filter fun i => decide (own_b v.toBitVec.toNat i ≠ 0)
theorem DS_succ (v : Int64) (n : Nat) : DS v (n + 1) = DS v n ++ if own_b v.toBitVec.toNat n ≠ 0 then [n] else [] := by
  unfold DS; rw [List.range_succ, List.filter_append]; congr 1
  by_cases q : own_b v.toBitVec.toNat n = 0 <;> simp [q]
theorem DS_len (v : Int64) (n : Nat) : (DS v n).length ≤ n := by
  have := List.length_filter_le (fun i => decide (own_b v.toBitVec.toNat i ≠ 0)) (List.range n)
  rw [List.length_range] at this; exact this
theorem DS_mem {v : Int64} {n d : Nat} : d ∈ DS v n ↔ d < n ∧ own_b v.toBitVec.toNat d ≠ 0 := by
  unfold DS; rw [List.mem_filter, List.mem_range, decide_eq_true_iff]
theorem DS_pw (v : Int64) (n : Nat) : (DS v n).Pairwise (· < ·) := List.Pairwise.filter _ List.pairwise_lt_range
theorem own_getD {l : List Nat} {p : Nat} (h : p < l.length) : l.getD p 8 = l[p] := by simp [List.getD_eq_getElem?_getD, h]
theorem own_getD' {l : List Nat} {p : Nat} (h : l.length ≤ p) : l.getD p 8 = 8 := by simp [List.getD_eq_getElem?_getD, h]
theorem DS_lt {v : Int64} {p : Nat} (h : p < (DS v 8).length) : (DS v 8).getD p 8 < 8 := by
  rw [own_getD h]; exact (DS_mem.mp (List.getElem_mem h)).1
theorem DS_gap {v : Int64} {p : Nat} (h : p < (DS v 8).length) : (DS v 8).getD p 8 < (DS v 8).getD (p + 1) 8 ∧ (DS v 8).getD (p + 1) 8 ≤ 8 ∧ ∀ d, (DS v 8).getD p 8 < d → d < (DS v 8).getD (p + 1) 8 → own_b v.toBitVec.toNat d = 0 := by
  have pw := List.pairwise_iff_getElem.mp (DS_pw v 8)
  have up : (DS v 8).getD p 8 < (DS v 8).getD (p + 1) 8 ∧ (DS v 8).getD (p + 1) 8 ≤ 8 := by
    rcases Nat.lt_or_ge (p + 1) (DS v 8).length with q | q
    · exact ⟨by rw [own_getD h, own_getD q]; exact pw p (p + 1) h q (Nat.lt_succ_self p), Nat.le_of_lt (DS_lt q)⟩
    · rw [own_getD' q]; exact ⟨DS_lt h, Nat.le_refl _⟩
  refine ⟨up.1, up.2, fun d h1 h2 => ?_⟩
  refine Classical.byContradiction fun hne => ?_
  have hm : d ∈ DS v 8 := DS_mem.mpr ⟨by omega, hne⟩
  obtain ⟨i, hi, rfl⟩ := List.mem_iff_getElem.mp hm
  rw [own_getD h] at h1
  rcases Nat.lt_trichotomy i p with q | q | q
  · have := pw i p hi h q; omega
  · subst q; omega
  · rcases Nat.lt_or_ge (p + 1) (DS v 8).length with r | r
    · rw [own_getD r] at h2
      rcases Nat.lt_or_ge (p + 1) i with t | t
      · have := pw (p + 1) i r hi t; omega
      · have : i = p + 1 := by omega
        subst this; omega
    · omega
theorem DS_first {v : Int64} : (DS v 8).getD 0 8 ≤ 8 ∧ ∀ d, d < (DS v 8).getD 0 8 → own_b v.toBitVec.toNat d = 0 := by
  have pw := List.pairwise_iff_getElem.mp (DS_pw v 8)
  rcases Nat.eq_zero_or_pos (DS v 8).length with q | q
  · rw [own_getD' (by omega)]
    refine ⟨Nat.le_refl _, fun d hd => Classical.byContradiction fun hne => ?_⟩
    have := List.length_pos_of_mem (DS_mem (v := v).mpr ⟨hd, hne⟩); omega
  · refine ⟨Nat.le_of_lt (DS_lt q), fun d hd => Classical.byContradiction fun hne => ?_⟩
    have hm : d ∈ DS v 8 := DS_mem.mpr ⟨by have := DS_lt q; omega, hne⟩
    obtain ⟨i, hi, rfl⟩ := List.mem_iff_getElem.mp hm
    rw [own_getD q] at hd
    rcases Nat.eq_zero_or_pos i with r | r
    · subst r; omega
    · have := pw 0 i q hi r; omega
def Dg (v : Int64) (n : Nat) (P : Int32) (xs : List Int32) : Prop := P.toInt = (DS v n).length ∧ xs.length = 8 ∧ ∀ j, j < (DS v n).length → (xs.getD j 0).toInt = 8 * ((DS v n).getD j 8 : Int)
theorem Dg.start (v : Int64) : Dg v 0 (0 : Int32) (List.replicate 8 0) := ⟨rfl, rfl, fun j h => absurd h (Nat.not_lt_zero _)⟩
theorem own_mul8 {D : Int32} {n : Nat} (hD : D.toInt = n) (hn : n < 8) : ((8 : Int32) * D).toInt = 8 * (n : Int) := by
  have h1 := c_imul 8 D; have h2 := rng32 ((8 : Int32) * D); have e : (8 : Int32).toInt = 8 := rfl; rw [e, hD] at h1; omega
theorem Dg.no {v : Int64} {n : Nat} {P : Int32} {xs : List Int32} (h : Dg v n P xs) (q : own_b v.toBitVec.toNat n = 0) : Dg v (n + 1) P xs := by
  unfold Dg at *; rw [DS_succ, if_neg (by simpa using q), List.append_nil]; exact h
theorem Dg.yes {v : Int64} {n : Nat} {P D : Int32} {xs : List Int32} (h : Dg v n P xs) (hn : n < 8) (hD : D.toInt = n) (q : ¬ own_b v.toBitVec.toNat n = 0) : Dg v (n + 1) (P + (1 : Int32)) (xs.set P.toNatClampNeg ((8 : Int32) * D)) := by
  obtain ⟨h1, h2, h3⟩ := h
  have hl := DS_len v n
  have e1 : (P + (1 : Int32)).toInt = (DS v n).length + 1 := by
    have a := c_iadd P 1; have b := rng32 (P + 1); have e : (1 : Int32).toInt = 1 := rfl; rw [e] at a; omega
  have e2 : P.toNatClampNeg = (DS v n).length := by show P.toInt.toNat = _; omega
  unfold Dg
  rw [DS_succ, if_pos q, List.length_append, e1, e2]
  refine ⟨rfl, by rw [List.length_set]; exact h2, fun j hj => ?_⟩
  rcases Nat.lt_or_ge j (DS v n).length with r | r
  · have a : (xs.set (DS v n).length ((8 : Int32) * D)).getD j 0 = xs.getD j 0 := by
      rw [List.getD_eq_getElem?_getD, List.getElem?_set_ne (by omega), ← List.getD_eq_getElem?_getD]
    have b : (DS v n ++ [n]).getD j 8 = (DS v n).getD j 8 := by
      rw [List.getD_eq_getElem?_getD, List.getElem?_append_left r, ← List.getD_eq_getElem?_getD]
    rw [a, b]; exact h3 j r
  · have j' : j = (DS v n).length := by simp at hj; omega
    subst j'
    have a : (xs.set (DS v n).length ((8 : Int32) * D)).getD (DS v n).length 0 = (8 : Int32) * D := by
      rw [List.getD_eq_getElem?_getD, List.getElem?_set_self (by omega)]; rfl
    have b : (DS v n ++ [n]).getD (DS v n).length 8 = n := by
      rw [List.getD_eq_getElem?_getD, List.getElem?_append_right (Nat.le_refl _)]; simp
    rw [a, b]; exact own_mul8 hD hn
theorem Dg.in8 {v : Int64} {n : Nat} {P : Int32} {xs : List Int32} (h : Dg v n P xs) (hn : n ≤ 8) : 0 ≤ P.toInt ∧ P.toInt ≤ n := by
  have hl := DS_len v n; have := h.1; omega
-- three
def P3 (x0 x1 x2 k0 k1 k2 : Int64) : Prop := (x0 = k0 ∧ x1 = k1 ∧ x2 = k2) ∨ (x0 = k0 ∧ x1 = k2 ∧ x2 = k1) ∨ (x0 = k1 ∧ x1 = k0 ∧ x2 = k2) ∨ (x0 = k1 ∧ x1 = k2 ∧ x2 = k0) ∨ (x0 = k2 ∧ x1 = k0 ∧ x2 = k1) ∨ (x0 = k2 ∧ x1 = k1 ∧ x2 = k0)
theorem P3.trans {x0 x1 x2 y0 y1 y2 k0 k1 k2 : Int64} (h : P3 x0 x1 x2 y0 y1 y2) (g : P3 y0 y1 y2 k0 k1 k2) : P3 x0 x1 x2 k0 k1 k2 := by
  unfold P3 at *
  rcases h with ⟨rfl, rfl, rfl⟩ | ⟨rfl, rfl, rfl⟩ | ⟨rfl, rfl, rfl⟩ | ⟨rfl, rfl, rfl⟩ | ⟨rfl, rfl, rfl⟩ | ⟨rfl, rfl, rfl⟩ <;> rcases g with ⟨h0, h1, h2⟩ | ⟨h0, h1, h2⟩ | ⟨h0, h1, h2⟩ | ⟨h0, h1, h2⟩ | ⟨h0, h1, h2⟩ | ⟨h0, h1, h2⟩ <;> simp [h0, h1, h2]
def Ok3 (k0 k1 k2 w : Int64) (d : Nat) (f : Int32 → Int64) : Prop := P3 (f 0) (f 2) (f 4) k0 k1 k2 ∧ (f 1 = f 0 ^^^ w ∧ f 3 = f 2 ^^^ w ∧ f 5 = f 4 ^^^ w) ∧ own_L d (f 0) ≤ own_L d (f 2) ∧ own_L d (f 2) ≤ own_L d (f 4)
def own_3 (r : Int32) : Prop := 0 ≤ r.toInt ∧ r.toInt < 3
theorem own_ite {a b : Int} {P : Prop} [Decidable P] (h : (a : Int) = if P then 1 else 0) : (P ∧ a = 1) ∨ (¬ P ∧ a = 0) := by
  by_cases q : P
  · rw [if_pos q] at h; exact Or.inl ⟨q, h⟩
  · rw [if_neg q] at h; exact Or.inr ⟨q, h⟩
theorem own_cnt3 {e0 e1 e2 : Int32} (h0 : 0 ≤ e0.toInt) (h1 : 0 ≤ e1.toInt) (h2 : 0 ≤ e2.toInt) (n : Nat) (hn : n ≤ 256) :
    (own_pre (inc (inc (inc (fun _ => (0 : Int32)) e0) e1) e2) n).toInt = (if e0.toInt < n then 1 else 0) + (if e1.toInt < n then 1 else 0) + (if e2.toInt < n then 1 else 0) := by
  rw [own_pre_inc _ h2 n hn, own_pre_inc _ h1 n hn, own_pre_inc _ h0 n hn, own_pre_0]
  by_cases a : e0.toInt < n <;> by_cases b : e1.toInt < n <;> by_cases c : e2.toInt < n <;> simp only [a, b, c, if_true, if_false] <;> rfl
theorem own_inc_at (f : Int32 → Int32) (i j : Int32) (h : 0 ≤ (f j).toInt ∧ (f j).toInt < 100) : (inc f i j).toInt = (f j).toInt + if j.toInt = i.toInt then 1 else 0 := by
  by_cases q : j = i
  · subst q
    have e : inc f j j = f j + 1 := by simp [inc, updI]
    rw [e, if_pos rfl]
    have a := c_iadd (f j) 1; have b := rng32 (f j + 1); have e : (1 : Int32).toInt = 1 := rfl; rw [e] at a; omega
  · have e : inc f i j = f j := by simp [inc, updI, q]
    rw [e, if_neg (fun z => q (Int32.toInt_inj.mp z))]; omega
theorem own_perm3 {x0 x1 x2 k0 k1 k2 : Int64} (h : P3 x0 x1 x2 k0 k1 k2) (q : Int64 → Int) : q k0 + q k1 + q k2 = q x0 + q x1 + q x2 := by
  rcases h with ⟨rfl, rfl, rfl⟩ | ⟨rfl, rfl, rfl⟩ | ⟨rfl, rfl, rfl⟩ | ⟨rfl, rfl, rfl⟩ | ⟨rfl, rfl, rfl⟩ | ⟨rfl, rfl, rfl⟩ <;> omega
def Pos3 (d0 d1 d2 s0 s1 s2 : Int) : Prop := (s0 = 0 ∧ s1 = 1 ∧ s2 = 2 ∧ d0 ≤ d1 ∧ d1 ≤ d2) ∨ (s0 = 0 ∧ s1 = 2 ∧ s2 = 1 ∧ d0 ≤ d2 ∧ d2 < d1) ∨ (s0 = 1 ∧ s1 = 0 ∧ s2 = 2 ∧ d1 < d0 ∧ d0 ≤ d2) ∨ (s0 = 1 ∧ s1 = 2 ∧ s2 = 0 ∧ d2 < d0 ∧ d0 ≤ d1) ∨ (s0 = 2 ∧ s1 = 0 ∧ s2 = 1 ∧ d1 ≤ d2 ∧ d2 < d0) ∨ (s0 = 2 ∧ s1 = 1 ∧ s2 = 0 ∧ d2 < d1 ∧ d1 < d0)
theorem own_tri (a b : Int) : ∃ i j k : Int, (if a < b then (1 : Int) else 0) = i ∧ (if b < a then (1 : Int) else 0) = j ∧ (if b = a then (1 : Int) else 0) = k ∧ (0 ≤ i ∧ i ≤ 1 ∧ 0 ≤ j ∧ j ≤ 1 ∧ 0 ≤ k ∧ k ≤ 1) ∧ ((a < b ∧ i = 1 ∧ j = 0 ∧ k = 0) ∨ (a = b ∧ i = 0 ∧ j = 0 ∧ k = 1) ∨ (b < a ∧ i = 0 ∧ j = 1 ∧ k = 0)) := by
  refine ⟨_, _, _, rfl, rfl, rfl, ?_, ?_⟩
  · refine ⟨?_, ?_, ?_, ?_, ?_, ?_⟩ <;> split <;> decide
  rcases Int.lt_trichotomy a b with p | p | p
  · exact Or.inl ⟨p, if_pos p, if_neg (by omega), if_neg (by omega)⟩
  · exact Or.inr (Or.inl ⟨p, if_neg (by omega), if_neg (by omega), if_pos p.symm⟩)
  · exact Or.inr (Or.inr ⟨p, if_neg (by omega), if_pos p, if_neg (by omega)⟩)
set_option maxHeartbeats 4000000 in
theorem own_pos3 {S : Int32 → Int32} {d0 d1 d2 : Int32} (hc : ∀ b : Int32, b = d0 ∨ b = d1 ∨ b = d2 → (S b).toInt = (if d0.toInt < b.toInt then 1 else 0) + (if d1.toInt < b.toInt then 1 else 0) + (if d2.toInt < b.toInt then 1 else 0)) :
    Pos3 d0.toInt d1.toInt d2.toInt (S d0).toInt (inc S d0 d1).toInt (inc (inc S d0) d1 d2).toInt := by
  have a0 := hc d0 (Or.inl rfl)
  have a1 := hc d1 (Or.inr (Or.inl rfl))
  have a2 := hc d2 (Or.inr (Or.inr rfl))
  obtain ⟨i1, j1, e1, x1, y1, z1, ⟨m1, m1b, m1c, m1d, m1e, m1f⟩, t1⟩ := own_tri d0.toInt d1.toInt
  obtain ⟨i2, j2, e2, x2, y2, z2, ⟨m2, m2b, m2c, m2d, m2e, m2f⟩, t2⟩ := own_tri d0.toInt d2.toInt
  obtain ⟨i3, j3, e3, x3, y3, z3, ⟨m3, m3b, m3c, m3d, m3e, m3f⟩, t3⟩ := own_tri d1.toInt d2.toInt
  have n0 : (if d0.toInt < d0.toInt then (1 : Int) else 0) = 0 := if_neg (Int.lt_irrefl _)
  have n1 : (if d1.toInt < d1.toInt then (1 : Int) else 0) = 0 := if_neg (Int.lt_irrefl _)
  have n2 : (if d2.toInt < d2.toInt then (1 : Int) else 0) = 0 := if_neg (Int.lt_irrefl _)
  rw [n0, y1, y2] at a0
  rw [x1, n1, y3] at a1
  rw [x2, x3, n2] at a2
  have c1 := own_inc_at S d0 d1 (by omega)
  have c2 := own_inc_at S d0 d2 (by omega)
  rw [z1] at c1; rw [z2] at c2
  have c3 := own_inc_at (inc S d0) d1 d2 (by omega)
  rw [z3] at c3
  unfold Pos3
  generalize (inc (inc S d0) d1 d2).toInt = u3 at *
  generalize (inc S d0 d1).toInt = u1 at *
  generalize (inc S d0 d2).toInt = u2 at *
  generalize (S d0).toInt = s0 at *
  generalize (S d1).toInt = s1 at *
  generalize (S d2).toInt = s2 at *
  generalize d0.toInt = v0 at *
  generalize d1.toInt = v1 at *
  generalize d2.toInt = v2 at *
  clear hc n0 n1 n2 x1 y1 z1 x2 y2 z2 x3 y3 z3
  rcases t1 with ⟨p, rfl, rfl, rfl⟩ | ⟨p, rfl, rfl, rfl⟩ | ⟨p, rfl, rfl, rfl⟩ <;> rcases t2 with ⟨q, rfl, rfl, rfl⟩ | ⟨q, rfl, rfl, rfl⟩ | ⟨q, rfl, rfl, rfl⟩ <;> rcases t3 with ⟨r, rfl, rfl, rfl⟩ | ⟨r, rfl, rfl, rfl⟩ | ⟨r, rfl, rfl, rfl⟩ <;> first | (exfalso; omega) | exact Or.inl ⟨by omega, by omega, by omega, by omega, by omega⟩ | exact Or.inr (Or.inl ⟨by omega, by omega, by omega, by omega, by omega⟩) | exact Or.inr (Or.inr (Or.inl ⟨by omega, by omega, by omega, by omega, by omega⟩)) | exact Or.inr (Or.inr (Or.inr (Or.inl ⟨by omega, by omega, by omega, by omega, by omega⟩))) | exact Or.inr (Or.inr (Or.inr (Or.inr (Or.inl ⟨by omega, by omega, by omega, by omega, by omega⟩)))) | exact Or.inr (Or.inr (Or.inr (Or.inr (Or.inr (⟨by omega, by omega, by omega, by omega, by omega⟩)))))
-- two
def P2 (x0 x1 k0 k1 : Int64) : Prop := (x0 = k0 ∧ x1 = k1) ∨ (x0 = k1 ∧ x1 = k0)
theorem P2.trans {x0 x1 y0 y1 k0 k1 : Int64} (h : P2 x0 x1 y0 y1) (g : P2 y0 y1 k0 k1) : P2 x0 x1 k0 k1 := by
  unfold P2 at *
  rcases h with ⟨rfl, rfl⟩ | ⟨rfl, rfl⟩ <;> rcases g with ⟨h0, h1⟩ | ⟨h0, h1⟩ <;> simp [h0, h1]
def Ok2 (k0 k1 w : Int64) (d : Nat) (f : Int32 → Int64) : Prop := P2 (f 0) (f 2) k0 k1 ∧ (f 1 = f 0 ^^^ w ∧ f 3 = f 2 ^^^ w) ∧ own_L d (f 0) ≤ own_L d (f 2)
theorem own_cnt2 {e0 e1 : Int32} (h0 : 0 ≤ e0.toInt) (h1 : 0 ≤ e1.toInt) (n : Nat) (hn : n ≤ 256) :
    (own_pre (inc (inc (fun _ => (0 : Int32)) e0) e1) n).toInt = (if e0.toInt < n then 1 else 0) + (if e1.toInt < n then 1 else 0) := by
  rw [own_pre_inc _ h1 n hn, own_pre_inc _ h0 n hn, own_pre_0]
  by_cases a : e0.toInt < n <;> by_cases b : e1.toInt < n <;> simp only [a, b, if_true, if_false] <;> rfl
theorem own_perm2 {x0 x1 k0 k1 : Int64} (h : P2 x0 x1 k0 k1) (q : Int64 → Int) : q k0 + q k1 = q x0 + q x1 := by
  rcases h with ⟨rfl, rfl⟩ | ⟨rfl, rfl⟩ <;> omega
def Pos2 (d0 d1 s0 s1 : Int) : Prop := (s0 = 0 ∧ s1 = 1 ∧ d0 ≤ d1) ∨ (s0 = 1 ∧ s1 = 0 ∧ d1 < d0)
theorem own_pos2 {S : Int32 → Int32} {d0 d1 : Int32} (hc : ∀ b : Int32, b = d0 ∨ b = d1 → (S b).toInt = (if d0.toInt < b.toInt then 1 else 0) + (if d1.toInt < b.toInt then 1 else 0)) :
    Pos2 d0.toInt d1.toInt (S d0).toInt (inc S d0 d1).toInt := by
  have a0 := hc d0 (Or.inl rfl)
  have a1 := hc d1 (Or.inr rfl)
  obtain ⟨i1, j1, e1, x1, y1, z1, ⟨m1, m1b, m1c, m1d, m1e, m1f⟩, t1⟩ := own_tri d0.toInt d1.toInt
  have n0 : (if d0.toInt < d0.toInt then (1 : Int) else 0) = 0 := if_neg (Int.lt_irrefl _)
  have n1 : (if d1.toInt < d1.toInt then (1 : Int) else 0) = 0 := if_neg (Int.lt_irrefl _)
  rw [n0, y1] at a0
  rw [x1, n1] at a1
  have c1 := own_inc_at S d0 d1 (by omega)
  rw [z1] at c1
  unfold Pos2
  generalize (inc S d0 d1).toInt = u1 at *
  generalize (S d0).toInt = s0 at *
  generalize (S d1).toInt = s1 at *
  generalize d0.toInt = v0 at *
  generalize d1.toInt = v1 at *
  clear hc n0 n1 x1 y1 z1
  rcases t1 with ⟨p, rfl, rfl, rfl⟩ | ⟨p, rfl, rfl, rfl⟩ | ⟨p, rfl, rfl, rfl⟩ <;> omega
def own_t2 (f g : Int32 → Int64) (S : Int32 → Int32) (sh : Int32) : Int32 → Int64 :=
  let d0 := own_dg (f 0) sh; let d1 := own_dg (f 2) sh
  upd (upd (upd (upd g ((2 : Int32) * S d0) (f 0)) ((2 : Int32) * S d0 + (1 : Int32)) (f 1)) ((2 : Int32) * inc S d0 d1) (f 2)) ((2 : Int32) * inc S d0 d1 + (1 : Int32)) (f 3)
theorem own_eqI {x : Int32} {n : Int32} (h : x.toInt = n.toInt) : x = n := Int32.toInt_inj.mp h
theorem own_step2 {k0 k1 w : Int64} {d : Nat} {sh : Int32} {f g : Int32 → Int64} {S : Int32 → Int32} (hd : d < 8) (hs : sh.toInt = 8 * (d : Int)) (ok : Ok2 k0 k1 w d f)
    (hS : ∀ b : Int32, 0 ≤ b.toInt → b.toInt < 256 → S b = own_pre (inc (inc (fun _ => (0 : Int32)) (own_dg k0 sh)) (own_dg k1 sh)) b.toInt.toNat) :
    own_3 (S (own_dg (f 0) sh)) ∧ own_3 (inc S (own_dg (f 0) sh) (own_dg (f 2) sh)) ∧ Ok2 k0 k1 w (d + 1) (own_t2 f g S sh) := by
  obtain ⟨hp, ⟨w0, w1⟩, l1⟩ := ok
  have r0 := own_dg_rng (f 0) sh; have r1 := own_dg_rng (f 2) sh
  have b0 := own_dg_val (f 0) hd hs; have b1 := own_dg_val (f 2) hd hs
  have ps := own_pos2 (S := S) (d0 := own_dg (f 0) sh) (d1 := own_dg (f 2) sh) (fun b hb => by
    have rb : 0 ≤ b.toInt ∧ b.toInt < 256 := by rcases hb with rfl | rfl <;> assumption
    rw [hS b rb.1 rb.2, own_cnt2 (own_dg_rng _ _).1 (own_dg_rng _ _).1 _ (by omega), show ((b.toInt.toNat : Nat) : Int) = b.toInt by omega]
    exact own_perm2 hp (fun k => if (own_dg k sh).toInt < b.toInt then 1 else 0))
  have e0 : own_3 (S (own_dg (f 0) sh)) ∧ own_3 (inc S (own_dg (f 0) sh) (own_dg (f 2) sh)) := by
    unfold own_3; unfold Pos2 at ps; omega
  refine ⟨e0.1, e0.2, ?_⟩
  unfold Ok2 own_t2
  generalize hs0 : S (own_dg (f 0) sh) = s0 at *
  generalize hs1 : inc S (own_dg (f 0) sh) (own_dg (f 2) sh) = s1 at *
  rw [b0, b1] at ps
  generalize f 0 = x0 at *; generalize f 2 = x1 at *
  generalize f 1 = y0 at *; generalize f 3 = y1 at *
  rcases ps with ⟨q0, q1, c1⟩ | ⟨q0, q1, c1⟩
  · obtain rfl : s0 = 0 := own_eqI q0
    obtain rfl : s1 = 1 := own_eqI q1
    refine ⟨hp, ⟨w0, w1⟩, (show own_L (d + 1) x0 ≤ own_L (d + 1) x1 from own_Lle l1 (by omega))⟩
  · obtain rfl : s0 = 1 := own_eqI q0
    obtain rfl : s1 = 0 := own_eqI q1
    refine ⟨P2.trans (Or.inr ⟨rfl, rfl⟩) hp, ⟨w1, w0⟩, (show own_L (d + 1) x1 ≤ own_L (d + 1) x0 from own_Llt (by omega))⟩
theorem Ok2.skip {k0 k1 w : Int64} {a b : Nat} {f : Int32 → Int64} (ab : a ≤ b) (hz : ∀ d, a ≤ d → d < b → own_b (own_v2 k0 k1).toBitVec.toNat d = 0) (ok : Ok2 k0 k1 w a f) : Ok2 k0 k1 w b f := by
  induction b with
  | zero => obtain rfl : a = 0 := by omega
            exact ok
  | succ b ih =>
    rcases Nat.lt_or_ge b a with q | q
    · obtain rfl : a = b + 1 := by omega
      exact ok
    · obtain ⟨hp, hw, l1⟩ := ih q (fun d h1 h2 => hz d h1 (by omega))
      have z1 := own_v2_b (hz b q (Nat.lt_succ_self b))
      have e : own_b (own_u (f 0)) b = own_b (own_u k0) b ∧ own_b (own_u (f 2)) b = own_b (own_u k0) b := by
        rcases hp with ⟨h0, h1⟩ | ⟨h0, h1⟩ <;> rw [h0, h1] <;> simp [z1]
      exact ⟨hp, hw, own_Lle l1 (by omega)⟩
theorem Ok2.start {k0 k1 w : Int64} {f : Int32 → Int64} (h0 : f 0 = k0) (h1 : f 1 = k0 ^^^ w) (h2 : f 2 = k1) (h3 : f 3 = k1 ^^^ w) : Ok2 k0 k1 w 0 f := by
  refine ⟨Or.inl ⟨h0, h2⟩, ⟨by rw [h1, h0], by rw [h3, h2]⟩, ?_⟩ <;> simp [own_L, Nat.mod_one]
-- three
def own_t3 (f g : Int32 → Int64) (S : Int32 → Int32) (sh : Int32) : Int32 → Int64 :=
  let d0 := own_dg (f 0) sh; let d1 := own_dg (f 2) sh; let d2 := own_dg (f 4) sh
  upd (upd (upd (upd (upd (upd g ((2 : Int32) * S d0) (f 0)) ((2 : Int32) * S d0 + (1 : Int32)) (f 1)) ((2 : Int32) * inc S d0 d1) (f 2)) ((2 : Int32) * inc S d0 d1 + (1 : Int32)) (f 3)) ((2 : Int32) * inc (inc S d0) d1 d2) (f 4)) ((2 : Int32) * inc (inc S d0) d1 d2 + (1 : Int32)) (f 5)
theorem own_step3 {k0 k1 k2 w : Int64} {d : Nat} {sh : Int32} {f g : Int32 → Int64} {S : Int32 → Int32} (hd : d < 8) (hs : sh.toInt = 8 * (d : Int)) (ok : Ok3 k0 k1 k2 w d f)
    (hS : ∀ b : Int32, 0 ≤ b.toInt → b.toInt < 256 → S b = own_pre (inc (inc (inc (fun _ => (0 : Int32)) (own_dg k0 sh)) (own_dg k1 sh)) (own_dg k2 sh)) b.toInt.toNat) :
    own_3 (S (own_dg (f 0) sh)) ∧ own_3 (inc S (own_dg (f 0) sh) (own_dg (f 2) sh)) ∧ own_3 (inc (inc S (own_dg (f 0) sh)) (own_dg (f 2) sh) (own_dg (f 4) sh)) ∧ Ok3 k0 k1 k2 w (d + 1) (own_t3 f g S sh) := by
  obtain ⟨hp, ⟨w0, w1, w2⟩, l1, l2⟩ := ok
  have r0 := own_dg_rng (f 0) sh; have r1 := own_dg_rng (f 2) sh; have r2 := own_dg_rng (f 4) sh
  have b0 := own_dg_val (f 0) hd hs; have b1 := own_dg_val (f 2) hd hs; have b2 := own_dg_val (f 4) hd hs
  have ps := own_pos3 (S := S) (d0 := own_dg (f 0) sh) (d1 := own_dg (f 2) sh) (d2 := own_dg (f 4) sh) (fun b hb => by
    have rb : 0 ≤ b.toInt ∧ b.toInt < 256 := by rcases hb with rfl | rfl | rfl <;> assumption
    rw [hS b rb.1 rb.2, own_cnt3 (own_dg_rng _ _).1 (own_dg_rng _ _).1 (own_dg_rng _ _).1 _ (by omega), show ((b.toInt.toNat : Nat) : Int) = b.toInt by omega]
    exact own_perm3 hp (fun k => if (own_dg k sh).toInt < b.toInt then 1 else 0))
  have e0 : own_3 (S (own_dg (f 0) sh)) ∧ own_3 (inc S (own_dg (f 0) sh) (own_dg (f 2) sh)) ∧ own_3 (inc (inc S (own_dg (f 0) sh)) (own_dg (f 2) sh) (own_dg (f 4) sh)) := by
    unfold own_3; unfold Pos3 at ps; omega
  refine ⟨e0.1, e0.2.1, e0.2.2, ?_⟩
  unfold Ok3 own_t3
  generalize hs0 : S (own_dg (f 0) sh) = s0 at *
  generalize hs1 : inc S (own_dg (f 0) sh) (own_dg (f 2) sh) = s1 at *
  generalize hs2 : inc (inc S (own_dg (f 0) sh)) (own_dg (f 2) sh) (own_dg (f 4) sh) = s2 at *
  rw [b0, b1, b2] at ps
  generalize f 0 = x0 at *; generalize f 2 = x1 at *; generalize f 4 = x2 at *
  generalize f 1 = y0 at *; generalize f 3 = y1 at *; generalize f 5 = y2 at *
  rcases ps with ⟨q0, q1, q2, c1, c2⟩ | ⟨q0, q1, q2, c1, c2⟩ | ⟨q0, q1, q2, c1, c2⟩ | ⟨q0, q1, q2, c1, c2⟩ | ⟨q0, q1, q2, c1, c2⟩ | ⟨q0, q1, q2, c1, c2⟩
  · obtain rfl : s0 = 0 := own_eqI q0
    obtain rfl : s1 = 1 := own_eqI q1
    obtain rfl : s2 = 2 := own_eqI q2
    refine ⟨hp, ⟨w0, w1, w2⟩, (show own_L (d + 1) x0 ≤ own_L (d + 1) x1 from own_Lle l1 (by omega)), (show own_L (d + 1) x1 ≤ own_L (d + 1) x2 from own_Lle l2 (by omega))⟩
  · obtain rfl : s0 = 0 := own_eqI q0
    obtain rfl : s1 = 2 := own_eqI q1
    obtain rfl : s2 = 1 := own_eqI q2
    refine ⟨P3.trans (Or.inr (Or.inl ⟨rfl, rfl, rfl⟩)) hp, ⟨w0, w2, w1⟩, (show own_L (d + 1) x0 ≤ own_L (d + 1) x2 from own_Lle (Nat.le_trans l1 l2) (by omega)), (show own_L (d + 1) x2 ≤ own_L (d + 1) x1 from own_Llt (by omega))⟩
  · obtain rfl : s0 = 1 := own_eqI q0
    obtain rfl : s1 = 0 := own_eqI q1
    obtain rfl : s2 = 2 := own_eqI q2
    refine ⟨P3.trans (Or.inr (Or.inr (Or.inl ⟨rfl, rfl, rfl⟩))) hp, ⟨w1, w0, w2⟩, (show own_L (d + 1) x1 ≤ own_L (d + 1) x0 from own_Llt (by omega)), (show own_L (d + 1) x0 ≤ own_L (d + 1) x2 from own_Lle (Nat.le_trans l1 l2) (by omega))⟩
  · obtain rfl : s0 = 1 := own_eqI q0
    obtain rfl : s1 = 2 := own_eqI q1
    obtain rfl : s2 = 0 := own_eqI q2
    refine ⟨P3.trans (Or.inr (Or.inr (Or.inr (Or.inr (Or.inl ⟨rfl, rfl, rfl⟩))))) hp, ⟨w2, w0, w1⟩, (show own_L (d + 1) x2 ≤ own_L (d + 1) x0 from own_Llt (by omega)), (show own_L (d + 1) x0 ≤ own_L (d + 1) x1 from own_Lle l1 (by omega))⟩
  · obtain rfl : s0 = 2 := own_eqI q0
    obtain rfl : s1 = 0 := own_eqI q1
    obtain rfl : s2 = 1 := own_eqI q2
    refine ⟨P3.trans (Or.inr (Or.inr (Or.inr (Or.inl ⟨rfl, rfl, rfl⟩)))) hp, ⟨w1, w2, w0⟩, (show own_L (d + 1) x1 ≤ own_L (d + 1) x2 from own_Lle l2 (by omega)), (show own_L (d + 1) x2 ≤ own_L (d + 1) x0 from own_Llt (by omega))⟩
  · obtain rfl : s0 = 2 := own_eqI q0
    obtain rfl : s1 = 1 := own_eqI q1
    obtain rfl : s2 = 0 := own_eqI q2
    refine ⟨P3.trans (Or.inr (Or.inr (Or.inr (Or.inr (Or.inr ⟨rfl, rfl, rfl⟩))))) hp, ⟨w2, w1, w0⟩, (show own_L (d + 1) x2 ≤ own_L (d + 1) x1 from own_Llt (by omega)), (show own_L (d + 1) x1 ≤ own_L (d + 1) x0 from own_Llt (by omega))⟩
theorem Ok3.skip {k0 k1 k2 w : Int64} {a b : Nat} {f : Int32 → Int64} (ab : a ≤ b) (hz : ∀ d, a ≤ d → d < b → own_b (own_v3 k0 k1 k2).toBitVec.toNat d = 0) (ok : Ok3 k0 k1 k2 w a f) : Ok3 k0 k1 k2 w b f := by
  induction b with
  | zero => obtain rfl : a = 0 := by omega
            exact ok
  | succ b ih =>
    rcases Nat.lt_or_ge b a with q | q
    · obtain rfl : a = b + 1 := by omega
      exact ok
    · obtain ⟨hp, hw, l1, l2⟩ := ih q (fun d h1 h2 => hz d h1 (by omega))
      obtain ⟨z1, z2⟩ := own_v3_b (hz b q (Nat.lt_succ_self b))
      have e : own_b (own_u (f 0)) b = own_b (own_u k0) b ∧ own_b (own_u (f 2)) b = own_b (own_u k0) b ∧ own_b (own_u (f 4)) b = own_b (own_u k0) b := by
        rcases hp with ⟨h0, h1, h2⟩ | ⟨h0, h1, h2⟩ | ⟨h0, h1, h2⟩ | ⟨h0, h1, h2⟩ | ⟨h0, h1, h2⟩ | ⟨h0, h1, h2⟩ <;> rw [h0, h1, h2] <;> simp [z1, z2]
      exact ⟨hp, hw, own_Lle l1 (by omega), own_Lle l2 (by omega)⟩
theorem Ok3.start {k0 k1 k2 w : Int64} {f : Int32 → Int64} (h0 : f 0 = k0) (h1 : f 1 = k0 ^^^ w) (h2 : f 2 = k1) (h3 : f 3 = k1 ^^^ w) (h4 : f 4 = k2) (h5 : f 5 = k2 ^^^ w) : Ok3 k0 k1 k2 w 0 f := by
  refine ⟨Or.inl ⟨h0, h2, h4⟩, ⟨by rw [h1, h0], by rw [h3, h2], by rw [h5, h4]⟩, ?_, ?_⟩ <;> simp [own_L, Nat.mod_one]
def own_mn (a b : Int64) : Int64 := if b < a then b else a
def own_mx (a b : Int64) : Int64 := if a < b then b else a
theorem own_mn_i (a b : Int64) : (own_mn a b).toInt = min a.toInt b.toInt := by
  unfold own_mn; rw [Int.min_def]; by_cases h : b < a
  · rw [if_pos h]; rw [Int64.lt_iff_toInt_lt] at h; rw [if_neg (by omega)]
  · rw [if_neg h]; rw [Int64.lt_iff_toInt_lt] at h; rw [if_pos (by omega)]
theorem own_mx_i (a b : Int64) : (own_mx a b).toInt = max a.toInt b.toInt := by
  unfold own_mx; rw [Int.max_def]; by_cases h : a < b
  · rw [if_pos h]; rw [Int64.lt_iff_toInt_lt] at h; rw [if_pos (by omega)]
  · rw [if_neg h]; rw [Int64.lt_iff_toInt_lt] at h; split <;> omega
theorem Ok3.done {k0 k1 k2 w : Int64} {f : Int32 → Int64} (ok : Ok3 k0 k1 k2 w 8 f) : f 0 = own_mn (own_mn k0 k1) k2 ∧ f 1 = own_mn (own_mn k0 k1) k2 ^^^ w ∧ f 2 = own_mx (own_mn k0 k1) (own_mn (own_mx k0 k1) k2) ∧ f 3 = own_mx (own_mn k0 k1) (own_mn (own_mx k0 k1) k2) ^^^ w ∧ f 4 = own_mx (own_mx k0 k1) k2 ∧ f 5 = own_mx (own_mx k0 k1) k2 ^^^ w := by
  obtain ⟨hp, ⟨w0, w1, w2⟩, l1, l2⟩ := ok
  have g1 := own_L8 l1; have g2 := own_L8 l2
  have e : f 0 = own_mn (own_mn k0 k1) k2 ∧ f 2 = own_mx (own_mn k0 k1) (own_mn (own_mx k0 k1) k2) ∧ f 4 = own_mx (own_mx k0 k1) k2 := by
    rw [← Int64.toInt_inj, ← Int64.toInt_inj, ← Int64.toInt_inj, own_mn_i, own_mn_i, own_mx_i, own_mn_i, own_mn_i, own_mx_i, own_mx_i, own_mx_i]
    rcases hp with ⟨h0, h1, h2⟩ | ⟨h0, h1, h2⟩ | ⟨h0, h1, h2⟩ | ⟨h0, h1, h2⟩ | ⟨h0, h1, h2⟩ | ⟨h0, h1, h2⟩ <;> (rw [h0, h1] at g1; rw [h1, h2] at g2; rw [h0, h1, h2]; clear l1 l2 w0 w1 w2 h0 h1 h2; omega)
  rw [w0, w1, w2, e.1, e.2.1, e.2.2]; exact ⟨rfl, rfl, rfl, rfl, rfl, rfl⟩
theorem Ok2.done {k0 k1 w : Int64} {f : Int32 → Int64} (ok : Ok2 k0 k1 w 8 f) : f 0 = own_mn k0 k1 ∧ f 1 = own_mn k0 k1 ^^^ w ∧ f 2 = own_mx k0 k1 ∧ f 3 = own_mx k0 k1 ^^^ w := by
  obtain ⟨hp, ⟨w0, w1⟩, l1⟩ := ok
  have g1 := own_L8 l1
  have e : f 0 = own_mn k0 k1 ∧ f 2 = own_mx k0 k1 := by
    rw [← Int64.toInt_inj, ← Int64.toInt_inj, own_mn_i, own_mx_i]
    rcases hp with ⟨h0, h1⟩ | ⟨h0, h1⟩ <;> (rw [h0, h1] at g1; rw [h0, h1]; clear l1 w0 w1 h0 h1; omega)
  rw [w0, w1, e.1, e.2]; exact ⟨rfl, rfl, rfl, rfl⟩
def Iv (Z : State) (h : Heap) (b : Addr) (n : Nat) (f : Int32 → Int32) : Prop := ∃ c : Cell, Arr Z h b c .int ∧ c.slots.size = n ∧ ∀ j : Int32, ¬ (j < 0 ∨ c.slots.size ≤ j.toNatClampNeg) → c.slots[j.toNatClampNeg]? = some (.int (f j))
section OwnI
variable {Z : State} {h h' : Heap} {a b : Addr} {n sl : Nat} {f : Int32 → Int32} {v : Value} {ws : List Addr}
theorem Iv.lt (F : Iv Z h b n f) : b < h.size := by obtain ⟨c, A, -⟩ := F; exact A.lt
theorem Iv.ext (F : Iv Z h b n f) (E : Ext h h') : Iv Z h' b n f := by obtain ⟨c, A, r⟩ := F; exact ⟨c, A.ext E, r⟩
theorem Iv.other (F : Iv Z h b n f) (W : Wr h h' a sl v) (q : b ≠ a) : Iv Z h' b n f := by obtain ⟨c, A, r⟩ := F; exact ⟨c, A.other W q, r⟩
theorem Iv.keep (F : Iv Z h b n f) (K : Keep h h' ws) (q : b ∉ ws) : Iv Z h' b n f := by obtain ⟨c, A, r⟩ := F; exact ⟨c, ⟨K.2.1 b c A.1 q, A.2⟩, r⟩
theorem Iv.set {c : Cell} {i : Int32} {x : Int32} (A : Arr Z h b c .int) (S : c.slots.size = n) (H : ∀ j : Int32, ¬ (j < 0 ∨ c.slots.size ≤ j.toNatClampNeg) → c.slots[j.toNatClampNeg]? = some (.int (f j))) (hi : ¬ (i < 0 ∨ c.slots.size ≤ i.toNatClampNeg)) (W : Wr h h' b i.toNatClampNeg (.int x)) : Iv Z h' b n (updI f i x) := by
  refine ⟨c.setSlot i.toNatClampNeg (.int x), A.same W, (sz_set _ _ _).trans S, fun j hj => ?_⟩
  rw [sz_set] at hj
  by_cases e : j = i
  · simp only [updI, if_pos e]; exact get_hit hi e
  · simp only [updI, if_neg e]; rw [get_miss (fun q => hi (Or.inl q)) (fun q => hj (Or.inl q)) e]; exact H j hj
end OwnI
def own_f6 (x0 x1 x2 x3 x4 x5 : Int64) : Int32 → Int64 := fun j => if j = 0 then x0 else if j = 1 then x1 else if j = 2 then x2 else if j = 3 then x3 else if j = 4 then x4 else x5
theorem Lv.of6 {Z : State} {h : Heap} {b : Addr} {kc : ClassId} {x0 x1 x2 x3 x4 x5 : Int64} {dv : Value} (V : Arv Z h b kc .long (6 : Int32) [.long x0, .long x1, .long x2, .long x3, .long x4, .long x5] dv) : Lv Z h b 6 (own_f6 x0 x1 x2 x3 x4 x5) := by
  obtain ⟨cl, A, -, S, -, H, -⟩ := V
  refine ⟨cl, A, S.trans rfl, fun j hj => H.at hj ?_⟩
  have S' : cl.slots.size = 6 := S.trans rfl
  rw [S', Int32.lt_iff_toInt_lt] at hj
  have e0 : (0 : Int32).toInt = 0 := rfl
  have eN : j.toNatClampNeg = j.toInt.toNat := rfl
  have hc : j = 0 ∨ j = 1 ∨ j = 2 ∨ j = 3 ∨ j = 4 ∨ j = 5 := by
    simp only [← Int32.toInt_inj]
    have e1 : (1 : Int32).toInt = 1 := rfl
    have e2 : (2 : Int32).toInt = 2 := rfl
    have e3 : (3 : Int32).toInt = 3 := rfl
    have e4 : (4 : Int32).toInt = 4 := rfl
    have e5 : (5 : Int32).toInt = 5 := rfl
    omega
  rcases hc with rfl | rfl | rfl | rfl | rfl | rfl <;> rfl
def ads (q N : Nat) : List Addr := (List.range N).map fun j => q + j
theorem own_nin {q N x : Nat} (h : x < q) : x ∉ ads q N := fun z => by
  obtain ⟨j, -, rfl⟩ := List.mem_map.mp z; omega
theorem own_min {q N j : Nat} (h : j < N) : q + j ∈ ads q N := List.mem_map.mpr ⟨j, List.mem_range.mpr h, rfl⟩
def Gd (Z : State) (h : Heap) (b q : Nat) (P : Int32) (cc : Nat → Int32 → Int32) : Prop := (∃ kc, Arv Z h b kc (.array .int) P ((ads q P.toNatClampNeg).map Value.ref) .null) ∧ ∀ j, j < P.toNatClampNeg → Iv Z h (q + j) 256 (cc j)
section OwnG
variable {Z : State} {h h' : Heap} {b q : Nat} {P : Int32} {cc : Nat → Int32 → Int32} {ws : List Nat}
theorem Gd.new {kA kc : ClassId} (A : Arv Z h b kA (.array .int) P (((List.range P.toNatClampNeg).map fun j => b + 1 + j).map Value.ref) .null) (I : ∀ (j : Nat) (x : Addr), ((List.range P.toNatClampNeg).map fun j => b + 1 + j)[j]? = some x → Arr Z h x (newA kc .int (256 : Int32)) .int ∧ Exa Z h x "[I") : Gd Z h b (b + 1) P (fun _ _ => 0) := by
  refine ⟨⟨kA, A⟩, fun j hj => ?_⟩
  obtain ⟨A', -⟩ := I j (b + 1 + j) (by simp [hj])
  exact ⟨_, A', sz_new _ _ _, fun i hi => get_new (by rw [sz_new] at hi; exact hi)⟩
theorem Gd.ext (G : Gd Z h b q P cc) (E : Ext h h') : Gd Z h' b q P cc := by obtain ⟨⟨kc, A⟩, I⟩ := G; exact ⟨⟨kc, A.ext E⟩, fun j hj => (I j hj).ext E⟩
theorem Gd.at {J : Int32} (G : Gd Z h b q P cc) (hJ : ¬ J < 0 ∧ J < P) : ∃ cl : Cell, Arr Z h b cl (.array .int) ∧ ¬ (J < 0 ∨ cl.slots.size ≤ J.toNatClampNeg) ∧ cl.slots[J.toNatClampNeg]? = some (.ref (q + J.toNatClampNeg)) := by
  obtain ⟨⟨kc, cl, A, -, S, -, H, -⟩, -⟩ := G
  have hin := inb_of S hJ
  refine ⟨cl, A, hin, H.at hin ?_⟩
  have hj : J.toNatClampNeg < P.toNatClampNeg := by rw [← S]; exact Nat.lt_of_not_le fun y => hin (Or.inr y)
  simp [ads, List.getD_eq_getElem?_getD, hj]
theorem Gd.upd {p : Nat} {f' : Int32 → Int32} (G : Gd Z h b q P cc) (hb : b < q) (K : Keep h h' ws) (hws : ∀ x ∈ ws, x = q + p ∨ x < b ∨ q + P.toNatClampNeg ≤ x) (I : Iv Z h' (q + p) 256 f') : Gd Z h' b q P (fun j => if j = p then f' else cc j) := by
  obtain ⟨⟨kc, A⟩, I0⟩ := G
  refine ⟨⟨kc, A.keep K fun z => ?_⟩, fun j hj => ?_⟩
  · have := hws _ z; omega
  · by_cases e : j = p
    · subst e; simp only [if_true]; exact I
    · simp only [if_neg e]; exact (I0 j hj).keep K fun z => by have := hws _ z; omega
theorem Gd.keep (G : Gd Z h b q P cc) (hb : b < q) (K : Keep h h' ws) (hws : ∀ x ∈ ws, x < b ∨ q + P.toNatClampNeg ≤ x) : Gd Z h' b q P cc := by
  obtain ⟨⟨kc, A⟩, I0⟩ := G
  exact ⟨⟨kc, A.keep K fun z => by have := hws _ z; omega⟩, fun j hj => (I0 j hj).keep K fun z => by have := hws _ z; omega⟩
theorem Gd.sz (G : Gd Z h b (b + 1) P cc) : b + 1 + P.toNatClampNeg ≤ h.size := by
  obtain ⟨⟨kc, A⟩, I0⟩ := G
  rcases Nat.eq_zero_or_pos P.toNatClampNeg with q | q
  · have lt : b < h.size := A.lt
    omega
  · have lt : b + 1 + (P.toNatClampNeg - 1) < h.size := (I0 (P.toNatClampNeg - 1) (by omega)).lt
    omega
end OwnG
def Rc (p : Program) (l : Launch) (e : Env) (R : Room) (s : State) (m : MethodId) (args : Array Value) (below : List Frame) (meth : Method) (c : Code) (n0 : Nat) (Z : State) (cells slots : Nat) (st0 : State) (F : JFrame) (h : Heap) : Prop :=
  ∃ (T : State) (L : List Loc), Stand p l e R s m args below meth c T L cells slots ∧ T.heap = h ∧ Fr n0 L ∧ Old Z n0 h ∧ ∀ t, Steps p.tables e below (T.setTop F) t → Steps p.tables e below st0 t
theorem own_in256 {j : Int32} (h : 0 ≤ j.toInt ∧ j.toInt < 256) : ¬ (j < 0 ∨ 256 ≤ j.toNatClampNeg) := by
  rw [Int32.lt_iff_toInt_lt]; have e : (0 : Int32).toInt = 0 := rfl; have q : j.toNatClampNeg = j.toInt.toNat := rfl; omega
theorem own_i0 {r : Int32} (h : own_3 r) : ((2 : Int32) * r).toInt = 2 * r.toInt := by
  have h1 := c_imul 2 r; have h2 := rng32 ((2 : Int32) * r); have e : (2 : Int32).toInt = 2 := rfl; unfold own_3 at h; rw [e] at h1; omega
theorem own_i1 {r : Int32} (h : own_3 r) : (((2 : Int32) * r) + (1 : Int32)).toInt = 2 * r.toInt + 1 := by
  have h1 := own_i0 h; have h2 := c_iadd ((2 : Int32) * r) 1; have h3 := rng32 (((2 : Int32) * r) + (1 : Int32)); have e : (1 : Int32).toInt = 1 := rfl; unfold own_3 at h; omega
theorem own_in6 {j : Int32} (h0 : 0 ≤ j.toInt) (h1 : j.toInt < 6) : ¬ (j < 0 ∨ 6 ≤ j.toNatClampNeg) := by
  rw [Int32.lt_iff_toInt_lt]; have e : (0 : Int32).toInt = 0 := rfl; have q : j.toNatClampNeg = j.toInt.toNat := rfl; omega
theorem own_b0 {r : Int32} (h : own_3 r) : ¬ (((2 : Int32) * r) < 0 ∨ 6 ≤ ((2 : Int32) * r).toNatClampNeg) := by
  have h1 := own_i0 h; unfold own_3 at h; exact own_in6 (by omega) (by omega)
theorem own_b1 {r : Int32} (h : own_3 r) : ¬ ((((2 : Int32) * r) + (1 : Int32)) < 0 ∨ 6 ≤ (((2 : Int32) * r) + (1 : Int32)).toNatClampNeg) := by
  have h1 := own_i1 h; unfold own_3 at h; exact own_in6 (by omega) (by omega)
theorem own_ltI {x y : Int32} (h : x.toInt < y.toInt) : x < y := Int32.lt_iff_toInt_lt.mpr h
theorem own_nltI {x y : Int32} (h : y.toInt ≤ x.toInt) : ¬ x < y := fun q => by rw [Int32.lt_iff_toInt_lt] at q; omega
theorem own_irr (x : Int32) : ¬ x < x := Int32.lt_irrefl
theorem own_lt8 {D : Int32} {n : Nat} (hD : D.toInt = n) (hn : n < 8) : D < (8 : Int32) := own_ltI (by have e : (8 : Int32).toInt = 8 := rfl; omega)
theorem own_P8 {v : Int64} {n : Nat} {P : Int32} {xs : List Int32} (h : Dg v n P xs) (hn : n < 8) : ¬ P < 0 ∧ P < (8 : Int32) := by
  have a := h.in8 (Nat.le_of_lt hn); exact ⟨own_nltI (by have e : (0 : Int32).toInt = 0 := rfl; omega), own_ltI (by have e : (8 : Int32).toInt = 8 := rfl; omega)⟩
theorem own_J8 {J P : Int32} (h : ¬ J < 0 ∧ J < P) (hP : P.toInt ≤ 8) : ¬ J < 0 ∧ J < (8 : Int32) := by
  refine ⟨h.1, own_ltI ?_⟩; have a := h.2; rw [Int32.lt_iff_toInt_lt] at a; have e : (8 : Int32).toInt = 8 := rfl; omega
theorem own_nn {J : Int32} (h : ¬ J < 0) : 0 ≤ J.toInt := by rw [Int32.lt_iff_toInt_lt] at h; have e : (0 : Int32).toInt = 0 := rfl; omega
theorem own_jn {J P : Int32} (h : ¬ J < 0 ∧ J < P) : J.toNatClampNeg < P.toNatClampNeg := by
  obtain ⟨h1, h2⟩ := h; have a := own_nn h1; rw [Int32.lt_iff_toInt_lt] at h2; show J.toInt.toNat < P.toInt.toNat; omega
theorem own_inc1 {J : Int32} {n : Int} (h : J.toInt = n) (hn : n < 1000) (h0 : 0 ≤ n) : (J + (1 : Int32)).toInt = n + 1 := by
  have h2 := c_iadd J 1; have h3 := rng32 (J + (1 : Int32)); have e : (1 : Int32).toInt = 1 := rfl; omega
def own_C2 (k0 k1 : Int64) (sh : Int32) : Int32 → Int32 := inc (inc (fun _ => (0 : Int32)) (own_dg k0 sh)) (own_dg k1 sh)
def own_C3 (k0 k1 k2 : Int64) (sh : Int32) : Int32 → Int32 := inc (inc (inc (fun _ => (0 : Int32)) (own_dg k0 sh)) (own_dg k1 sh)) (own_dg k2 sh)
def Tl (u10 u11 u12 u13 u14 u15 u16 : Slot) : Prop := (∃ i10 : Int32, u10 = .val (.int i10) ∧ u11 = .unset ∧ u12 = .unset ∧ u13 = .unset ∧ u14 = .unset ∧ u15 = .unset ∧ u16 = .unset) ∨ ∃ (r10 : Addr) (i11 i12 : Int32) (r13 : Addr) (k14 : Int64) (i16 : Int32), u10 = .val (.ref r10) ∧ u11 = .val (.int i11) ∧ u12 = .val (.int i12) ∧ u13 = .val (.ref r13) ∧ u14 = .val (.long k14) ∧ u15 = .second ∧ u16 = .val (.int i16)
theorem own_x0 (x : Int64) : ((0 : Int64) ||| (x ^^^ x)) = (0 : Int64) := by rw [Int64.xor_self]; rfl
theorem own_Ic {C C' : Int32 → Int32} (h : C = C') : C = C' := h
theorem dc0_42 : decode prog_98_method_19_code 42 = .ok (.iload 6, 2) := by decide +kernel
theorem dc0_44 : decode prog_98_method_19_code 44 = .ok (.bipush 8, 2) := by decide +kernel
theorem dc0_46 : decode prog_98_method_19_code 46 = .ok (.if_icmp .ge 38, 3) := by decide +kernel
theorem dc0_49 : decode prog_98_method_19_code 49 = .ok (.lload_n 2, 1) := by decide +kernel
theorem dc0_50 : decode prog_98_method_19_code 50 = .ok (.bipush 8, 2) := by decide +kernel
theorem dc0_52 : decode prog_98_method_19_code 52 = .ok (.iload 6, 2) := by decide +kernel
theorem dc0_54 : decode prog_98_method_19_code 54 = .ok (.imul, 1) := by decide +kernel
theorem dc0_55 : decode prog_98_method_19_code 55 = .ok (.lushr, 1) := by decide +kernel
theorem dc0_56 : decode prog_98_method_19_code 56 = .ok (.ldc2_w 204, 3) := by decide +kernel
theorem dc0_59 : decode prog_98_method_19_code 59 = .ok (.land, 1) := by decide +kernel
theorem dc0_60 : decode prog_98_method_19_code 60 = .ok (.lconst 0, 1) := by decide +kernel
theorem dc0_61 : decode prog_98_method_19_code 61 = .ok (.lcmp, 1) := by decide +kernel
theorem dc0_62 : decode prog_98_method_19_code 62 = .ok (.ifCond .eq 16, 3) := by decide +kernel
theorem dc0_78 : decode prog_98_method_19_code 78 = .ok (.iinc 6 1, 3) := by decide +kernel
theorem dc0_81 : decode prog_98_method_19_code 81 = .ok (.goto (-39), 3) := by decide +kernel
theorem dc0_65 : decode prog_98_method_19_code 65 = .ok (.aload 4, 2) := by decide +kernel
theorem dc0_67 : decode prog_98_method_19_code 67 = .ok (.iload 5, 2) := by decide +kernel
theorem dc0_69 : decode prog_98_method_19_code 69 = .ok (.iinc 5 1, 3) := by decide +kernel
theorem dc0_72 : decode prog_98_method_19_code 72 = .ok (.bipush 8, 2) := by decide +kernel
theorem dc0_74 : decode prog_98_method_19_code 74 = .ok (.iload 6, 2) := by decide +kernel
theorem dc0_76 : decode prog_98_method_19_code 76 = .ok (.imul, 1) := by decide +kernel
theorem dc0_77 : decode prog_98_method_19_code 77 = .ok (.iastore, 1) := by decide +kernel
set_option maxRecDepth 65536 in
set_option maxHeartbeats 40000000 in
theorem dgT {p : Program} {l : Launch} {e : Env} {R : Room} {s : State} {m : MethodId} {args : Array Value} {below : List Frame} {meth : Method} {c : Code} {Z : State} {a0 : Array Value} {n0 : Nat} {cells slots : Nat} {st0 : State} (hx : p.tables.exec = Jvm.exec) (hZ : Z.Warmed39 s.vm) (hw : ∀ d ∈ tables_1, d.before a0 Z = true) (hby : c.code = prog_98_method_19_code) (hml : c.maxLocals = 17) (hown : s.vm.findClass "com/example/keyfold/keyfold/SortedRows" = some m.cls) {h0 : Heap} (s0 s1 s7 s8 s9 s10 s11 s12 s13 s14 s15 s16 : Slot) (v1 : Int64) (b4 : Nat) (P1 D1 : Int32) (xs1 : List Int32) (nn : Nat) (G0 : Rc p l e R s m args below meth c n0 Z cells slots st0 (mkF m 42 #[s0, s1, .val (.long v1), .second, .val (.ref b4), .val (.int P1), .val (.int D1), s7, s8, s9, s10, s11, s12, s13, s14, s15, s16] []) h0) (A4 : La Z h0 b4 .int (8 : Int32) xs1) (gb : n0 ≤ b4) (hn : nn < 8) (hD : D1.toInt = nn) (hg : Dg v1 nn P1 xs1) :
    ∃ (h' : Heap) (P' : Int32) (xs' : List Int32), Rc p l e R s m args below meth c n0 Z cells slots st0 (mkF m 42 #[s0, s1, .val (.long v1), .second, .val (.ref b4), .val (.int P'), .val (.int (D1 + (1 : Int32))), s7, s8, s9, s10, s11, s12, s13, s14, s15, s16] []) h' ∧ Keep h0 h' [b4] ∧ La Z h' b4 .int (8 : Int32) xs' ∧ Dg v1 (nn + 1) P' xs' := by
  obtain ⟨T0, L0, X0, e0, N0, O0, pre0⟩ := G0
  have pre101 : ∀ t, Steps p.tables e below (T0.setTop (mkF m 62 #[s0, s1, .val (.long v1), .second, .val (.ref b4), .val (.int P1), .val (.int D1), s7, s8, s9, s10, s11, s12, s13, s14, s15, s16] [(.int (lcmpW (((v1.toUInt64 >>> (((8 : Int32) * D1) &&& 0x3f).toInt64.toUInt64).toInt64) &&& (255 : Int64)) (0 : Int64)))])) t → Steps p.tables e below (st0) t := fun t kt => pre0 t (by
      show Steps p.tables e below (T0.setTop (mkF m 42 #[s0, s1, .val (.long v1), .second, .val (.ref b4), .val (.int P1), .val (.int D1), s7, s8, s9, s10, s11, s12, s13, s14, s15, s16] [])) _
      refine XS.iload X0.here hx rfl (hb hby dc0_42) rfl ?_
      refine XS.bipush X0.here hx rfl (hb hby dc0_44) ?_
      show Steps p.tables e below (T0.setTop (mkF m 46 #[s0, s1, .val (.long v1), .second, .val (.ref b4), .val (.int P1), .val (.int D1), s7, s8, s9, s10, s11, s12, s13, s14, s15, s16] [(.int (8 : Int32)), (.int D1)])) _
      refine XS.icmpNo X0.here hx rfl (hb hby dc0_46) rfl (tlt (own_lt8 hD hn)).2.1 ?_
      refine XS.lloadN X0.here hx rfl (hb hby dc0_49) rfl ?_
      show Steps p.tables e below (T0.setTop (mkF m 50 #[s0, s1, .val (.long v1), .second, .val (.ref b4), .val (.int P1), .val (.int D1), s7, s8, s9, s10, s11, s12, s13, s14, s15, s16] [(.long v1)])) _
      refine XS.bipush X0.here hx rfl (hb hby dc0_50) ?_
      refine XS.iload X0.here hx rfl (hb hby dc0_52) rfl ?_
      refine XS.imul X0.here hx rfl (hb hby dc0_54) rfl ?_
      refine XS.lushr X0.here hx rfl (hb hby dc0_55) rfl ?_
      refine X0.ldc2Long hx hown (mvT hZ (hw _ (List.mem_of_getElem? (i := 6) rfl))) (g := (mkF m 56 #[s0, s1, .val (.long v1), .second, .val (.ref b4), .val (.int P1), .val (.int D1), s7, s8, s9, s10, s11, s12, s13, s14, s15, s16] [(.long ((v1.toUInt64 >>> (((8 : Int32) * D1) &&& 0x3f).toInt64.toUInt64).toInt64))])) rfl (hb hby dc0_56) _ ?_
      show Steps p.tables e below (T0.setTop (mkF m 59 #[s0, s1, .val (.long v1), .second, .val (.ref b4), .val (.int P1), .val (.int D1), s7, s8, s9, s10, s11, s12, s13, s14, s15, s16] [(.long (255 : Int64)), (.long ((v1.toUInt64 >>> (((8 : Int32) * D1) &&& 0x3f).toInt64.toUInt64).toInt64))])) _
      refine XS.land X0.here hx rfl (hb hby dc0_59) rfl ?_
      refine XS.lconst X0.here hx rfl (hb hby dc0_60) ?_
      refine XS.lcmp X0.here hx rfl (hb hby dc0_61) rfl ?_
      exact kt)
  by_cases hc102 : (((v1.toUInt64 >>> (((8 : Int32) * D1) &&& 0x3f).toInt64.toUInt64).toInt64) &&& (255 : Int64)) = (0 : Int64)
  · skip
    have pre103 : ∀ t, Steps p.tables e below (T0.setTop (mkF m 42 #[s0, s1, .val (.long v1), .second, .val (.ref b4), .val (.int P1), .val (.int (D1 + (1 : Int32))), s7, s8, s9, s10, s11, s12, s13, s14, s15, s16] [])) t → Steps p.tables e below (st0) t := fun t kt => pre101 t (by
        show Steps p.tables e below (T0.setTop (mkF m 62 #[s0, s1, .val (.long v1), .second, .val (.ref b4), .val (.int P1), .val (.int D1), s7, s8, s9, s10, s11, s12, s13, s14, s15, s16] [(.int (lcmpW (((v1.toUInt64 >>> (((8 : Int32) * D1) &&& 0x3f).toInt64.toUInt64).toInt64) &&& (255 : Int64)) (0 : Int64)))])) _
        refine XS.ifYes X0.here hx rfl (pc0 := 62) (pc' := 78) rfl (hb hby dc0_62) rfl ((if0 _ _).trans (teq ((lw_eq _ _).mpr hc102)).1) (by decide) (by decide) ?_
        show Steps p.tables e below (T0.setTop (mkF m 78 #[s0, s1, .val (.long v1), .second, .val (.ref b4), .val (.int P1), .val (.int D1), s7, s8, s9, s10, s11, s12, s13, s14, s15, s16] [])) _
        refine XS.iinc X0.here hx rfl (hb hby dc0_78) rfl (l' := #[s0, s1, .val (.long v1), .second, .val (.ref b4), .val (.int P1), .val (.int (D1 + (1 : Int32))), s7, s8, s9, s10, s11, s12, s13, s14, s15, s16]) rfl ?_
        refine XS.goto X0.here hx rfl (pc0 := 81) (pc' := 42) rfl (hb hby dc0_81) (by decide) (by decide) ?_
        exact kt)
    exact ⟨_, _, _, ⟨_, _, X0, e0, N0, O0, pre103⟩, (Keep.refl h0 [b4]), A4, hg.no ((own_by v1 hn (own_mul8 hD hn)).mp hc102)⟩
  · skip
    obtain ⟨cl104, Ar104, hin104, up104⟩ := La.up (j := P1) A4 (own_P8 hg hn)
    obtain ⟨T105, h105, X105, e105, W105, st105⟩ := stI X0 hx hZ e0 Ar104 (j := P1) hin104 (g := (mkF m 77 #[s0, s1, .val (.long v1), .second, .val (.ref b4), .val (.int (P1 + (1 : Int32))), .val (.int D1), s7, s8, s9, s10, s11, s12, s13, s14, s15, s16] [(.int ((8 : Int32) * D1)), (.int P1), (.ref b4)])) rfl rfl (hb hby dc0_77)
    have A105 : La Z h105 b4 .int (8 : Int32) (xs1.set (P1).toNatClampNeg ((8 : Int32) * D1)) := up104 _ (by first | rfl | decide) _ W105
    have N105 := Fr.snoc X105 N0 gb
    have pre106 : ∀ t, Steps p.tables e below (T105.setTop (mkF m 42 #[s0, s1, .val (.long v1), .second, .val (.ref b4), .val (.int (P1 + (1 : Int32))), .val (.int (D1 + (1 : Int32))), s7, s8, s9, s10, s11, s12, s13, s14, s15, s16] [])) t → Steps p.tables e below (st0) t := fun t kt => pre101 t (by
        show Steps p.tables e below (T0.setTop (mkF m 62 #[s0, s1, .val (.long v1), .second, .val (.ref b4), .val (.int P1), .val (.int D1), s7, s8, s9, s10, s11, s12, s13, s14, s15, s16] [(.int (lcmpW (((v1.toUInt64 >>> (((8 : Int32) * D1) &&& 0x3f).toInt64.toUInt64).toInt64) &&& (255 : Int64)) (0 : Int64)))])) _
        refine XS.ifNo X0.here hx rfl (hb hby dc0_62) rfl ((if0 _ _).trans (feq (mt (lw_eq _ _).mp hc102)).1) ?_
        refine XS.aload X0.here hx rfl (hb hby dc0_65) rfl rfl ?_
        refine XS.iload X0.here hx rfl (hb hby dc0_67) rfl ?_
        show Steps p.tables e below (T0.setTop (mkF m 69 #[s0, s1, .val (.long v1), .second, .val (.ref b4), .val (.int P1), .val (.int D1), s7, s8, s9, s10, s11, s12, s13, s14, s15, s16] [(.int P1), (.ref b4)])) _
        refine XS.iinc X0.here hx rfl (hb hby dc0_69) rfl (l' := #[s0, s1, .val (.long v1), .second, .val (.ref b4), .val (.int (P1 + (1 : Int32))), .val (.int D1), s7, s8, s9, s10, s11, s12, s13, s14, s15, s16]) rfl ?_
        refine XS.bipush X0.here hx rfl (hb hby dc0_72) ?_
        refine XS.iload X0.here hx rfl (hb hby dc0_74) rfl ?_
        refine XS.imul X0.here hx rfl (hb hby dc0_76) rfl ?_
        refine st105 _ ?_
        show Steps p.tables e below (T105.setTop (mkF m 78 #[s0, s1, .val (.long v1), .second, .val (.ref b4), .val (.int (P1 + (1 : Int32))), .val (.int D1), s7, s8, s9, s10, s11, s12, s13, s14, s15, s16] [])) _
        refine XS.iinc X105.here hx rfl (hb hby dc0_78) rfl (l' := #[s0, s1, .val (.long v1), .second, .val (.ref b4), .val (.int (P1 + (1 : Int32))), .val (.int (D1 + (1 : Int32))), s7, s8, s9, s10, s11, s12, s13, s14, s15, s16]) rfl ?_
        refine XS.goto X105.here hx rfl (pc0 := 81) (pc' := 42) rfl (hb hby dc0_81) (by decide) (by decide) ?_
        exact kt)
    have K107 : Keep h0 h105 [b4] := (Keep.wr (Keep.refl h0 [b4]) W105 (Or.inl (List.mem_of_getElem? (i := 0) rfl)))
    have O108 : Old Z n0 h105 := (O0.wr W105 gb)
    exact ⟨_, _, _, ⟨_, _, X105, e105, N105, O108, pre106⟩, K107, A105, hg.yes hn hD (mt (own_by v1 hn (own_mul8 hD hn)).mpr hc102)⟩
theorem dgL {p : Program} {l : Launch} {e : Env} {R : Room} {s : State} {m : MethodId} {args : Array Value} {below : List Frame} {meth : Method} {c : Code} {Z : State} {a0 : Array Value} {n0 : Nat} {cells slots : Nat} {st0 : State} (hx : p.tables.exec = Jvm.exec) (hZ : Z.Warmed39 s.vm) (hw : ∀ d ∈ tables_1, d.before a0 Z = true) (hby : c.code = prog_98_method_19_code) (hml : c.maxLocals = 17) (hown : s.vm.findClass "com/example/keyfold/keyfold/SortedRows" = some m.cls) (s0 s1 s7 s8 s9 s10 s11 s12 s13 s14 s15 s16 : Slot) (v1 : Int64) (b4 : Nat) (gb : n0 ≤ b4) : ∀ (kk : Nat) (h0 : Heap) (P1 D1 : Int32) (xs1 : List Int32) (nn : Nat), nn + kk = 8 → D1.toInt = nn → Dg v1 nn P1 xs1 → La Z h0 b4 .int (8 : Int32) xs1 → Rc p l e R s m args below meth c n0 Z cells slots st0 (mkF m 42 #[s0, s1, .val (.long v1), .second, .val (.ref b4), .val (.int P1), .val (.int D1), s7, s8, s9, s10, s11, s12, s13, s14, s15, s16] []) h0 →
    ∃ (h' : Heap) (P' : Int32) (xs' : List Int32), Rc p l e R s m args below meth c n0 Z cells slots st0 (mkF m 42 #[s0, s1, .val (.long v1), .second, .val (.ref b4), .val (.int P'), .val (.int (8 : Int32)), s7, s8, s9, s10, s11, s12, s13, s14, s15, s16] []) h' ∧ Keep h0 h' [b4] ∧ La Z h' b4 .int (8 : Int32) xs' ∧ Dg v1 8 P' xs'
  | 0, h0, P1, D1, xs1, nn, hk, hD, hg, A4, G0 => by
    obtain rfl : nn = 8 := by omega
    obtain rfl : D1 = (8 : Int32) := own_eqI hD
    exact ⟨h0, P1, xs1, G0, Keep.refl _ _, A4, hg⟩
  | kk + 1, h0, P1, D1, xs1, nn, hk, hD, hg, A4, G0 => by
    obtain ⟨h1, P2, xs2, G1, K1, A1, g1⟩ := dgT hx hZ hw hby hml hown s0 s1 s7 s8 s9 s10 s11 s12 s13 s14 s15 s16 v1 b4 P1 D1 xs1 nn G0 A4 gb (by omega) hD hg
    obtain ⟨h2, P3, xs3, G2, K2, A2, g2⟩ := dgL hx hZ hw hby hml hown s0 s1 s7 s8 s9 s10 s11 s12 s13 s14 s15 s16 v1 b4 gb kk h1 P2 (D1 + (1 : Int32)) xs2 (nn + 1) (by omega) (by have := own_inc1 hD (by omega) (by omega); omega) g1 A1 G1
    exact ⟨h2, P3, xs3, G2, K1.trans K2 (fun x q => Or.inl q), A2, g2⟩
theorem dc0_119 : decode prog_98_method_19_code 119 = .ok (.iload 10, 2) := by decide +kernel
theorem dc0_121 : decode prog_98_method_19_code 121 = .ok (.iload 5, 2) := by decide +kernel
theorem dc0_123 : decode prog_98_method_19_code 123 = .ok (.if_icmp .ge 32, 3) := by decide +kernel
theorem dc0_126 : decode prog_98_method_19_code 126 = .ok (.aload 6, 2) := by decide +kernel
theorem dc0_128 : decode prog_98_method_19_code 128 = .ok (.iload 10, 2) := by decide +kernel
theorem dc0_130 : decode prog_98_method_19_code 130 = .ok (.aaload, 1) := by decide +kernel
theorem dc0_131 : decode prog_98_method_19_code 131 = .ok (.lload 8, 2) := by decide +kernel
theorem dc0_133 : decode prog_98_method_19_code 133 = .ok (.aload 4, 2) := by decide +kernel
theorem dc0_135 : decode prog_98_method_19_code 135 = .ok (.iload 10, 2) := by decide +kernel
theorem dc0_137 : decode prog_98_method_19_code 137 = .ok (.iaload, 1) := by decide +kernel
theorem dc0_138 : decode prog_98_method_19_code 138 = .ok (.lushr, 1) := by decide +kernel
theorem dc0_139 : decode prog_98_method_19_code 139 = .ok (.l2i, 1) := by decide +kernel
theorem dc0_140 : decode prog_98_method_19_code 140 = .ok (.sipush 255, 3) := by decide +kernel
theorem dc0_143 : decode prog_98_method_19_code 143 = .ok (.iand, 1) := by decide +kernel
theorem dc0_144 : decode prog_98_method_19_code 144 = .ok (.dup2, 1) := by decide +kernel
theorem dc0_145 : decode prog_98_method_19_code 145 = .ok (.iaload, 1) := by decide +kernel
theorem dc0_146 : decode prog_98_method_19_code 146 = .ok (.iconst 1, 1) := by decide +kernel
theorem dc0_147 : decode prog_98_method_19_code 147 = .ok (.iadd, 1) := by decide +kernel
theorem dc0_148 : decode prog_98_method_19_code 148 = .ok (.iastore, 1) := by decide +kernel
theorem dc0_149 : decode prog_98_method_19_code 149 = .ok (.iinc 10 1, 3) := by decide +kernel
theorem dc0_152 : decode prog_98_method_19_code 152 = .ok (.goto (-33), 3) := by decide +kernel
set_option maxRecDepth 65536 in
set_option maxHeartbeats 40000000 in
theorem cnT {p : Program} {l : Launch} {e : Env} {R : Room} {s : State} {m : MethodId} {args : Array Value} {below : List Frame} {meth : Method} {c : Code} {Z : State} {a0 : Array Value} {n0 : Nat} {cells slots : Nat} {st0 : State} (hx : p.tables.exec = Jvm.exec) (hZ : Z.Warmed39 s.vm) (hw : ∀ d ∈ tables_1, d.before a0 Z = true) (hby : c.code = prog_98_method_19_code) (hml : c.maxLocals = 17) (hown : s.vm.findClass "com/example/keyfold/keyfold/SortedRows" = some m.cls) {h0 : Heap} (s0 s1 s2 s3 s7 s11 s12 s13 s14 s15 s16 : Slot) (k1 : Int64) (b4 b6 q1 : Nat) (P1 J1 : Int32) (xs1 : List Int32) (cc1 : Nat → Int32 → Int32) (G0 : Rc p l e R s m args below meth c n0 Z cells slots st0 (mkF m 119 #[s0, s1, s2, s3, .val (.ref b4), .val (.int P1), .val (.ref b6), s7, .val (.long (k1 ^^^ (-9223372036854775808 : Int64))), .second, .val (.int J1), s11, s12, s13, s14, s15, s16] []) h0) (A4 : La Z h0 b4 .int (8 : Int32) xs1) (G6 : Gd Z h0 b6 q1 P1 cc1) (hq : q1 = b6 + 1) (h4 : b4 < b6) (g6 : n0 ≤ b6) (hJ : ¬ J1 < 0 ∧ J1 < P1) (hP8 : P1.toInt ≤ 8) :
    ∃ (h' : Heap), Rc p l e R s m args below meth c n0 Z cells slots st0 (mkF m 119 #[s0, s1, s2, s3, .val (.ref b4), .val (.int P1), .val (.ref b6), s7, .val (.long (k1 ^^^ (-9223372036854775808 : Int64))), .second, .val (.int (J1 + (1 : Int32))), s11, s12, s13, s14, s15, s16] []) h' ∧ Keep h0 h' (ads q1 P1.toNatClampNeg) ∧ Gd Z h' b6 q1 P1 (fun j => if j = J1.toNatClampNeg then inc (cc1 J1.toNatClampNeg) (own_dg k1 (xs1.getD (J1).toNatClampNeg 0)) else cc1 j) := by
  obtain ⟨T0, L0, X0, e0, N0, O0, pre0⟩ := G0
  obtain ⟨r1, er⟩ : ∃ r : Nat, r = q1 + J1.toNatClampNeg := ⟨_, rfl⟩
  have ne4r : b4 ≠ r1 := by omega
  have gr : n0 ≤ r1 := by omega
  have I1 : Iv Z h0 r1 256 (cc1 J1.toNatClampNeg) := by rw [er]; exact G6.2 _ (own_jn hJ)
  obtain ⟨cl101, Ar101, hin101, hat101⟩ := Gd.at (J := J1) G6 hJ
  rw [← er] at hat101
  obtain ⟨cl102, Ar102, hin102, hat102⟩ := La.at (j := J1) A4 (own_J8 hJ hP8)
  obtain ⟨cl103, Ar103, S103, H103⟩ := id I1
  have hin103 : ¬ ((own_dg k1 (xs1.getD (J1).toNatClampNeg 0)) < 0 ∨ cl103.slots.size ≤ ((own_dg k1 (xs1.getD (J1).toNatClampNeg 0))).toNatClampNeg) := by rw [S103]; exact (own_in256 (own_dg_rng _ _))
  have hat103 : cl103.slots[((own_dg k1 (xs1.getD (J1).toNatClampNeg 0))).toNatClampNeg]? = some (.int ((cc1 J1.toNatClampNeg) (own_dg k1 (xs1.getD (J1).toNatClampNeg 0)))) := H103 _ hin103
  obtain ⟨cl104, Ar104, S104, H104⟩ := id I1
  have hin104 : ¬ ((own_dg k1 (xs1.getD (J1).toNatClampNeg 0)) < 0 ∨ cl104.slots.size ≤ ((own_dg k1 (xs1.getD (J1).toNatClampNeg 0))).toNatClampNeg) := by rw [S104]; exact (own_in256 (own_dg_rng _ _))
  obtain ⟨T105, h105, X105, e105, W105, st105⟩ := stI X0 hx hZ e0 Ar104 (j := (own_dg k1 (xs1.getD (J1).toNatClampNeg 0))) hin104 (g := (mkF m 148 #[s0, s1, s2, s3, .val (.ref b4), .val (.int P1), .val (.ref b6), s7, .val (.long (k1 ^^^ (-9223372036854775808 : Int64))), .second, .val (.int J1), s11, s12, s13, s14, s15, s16] [(.int (((cc1 J1.toNatClampNeg) (own_dg k1 (xs1.getD (J1).toNatClampNeg 0))) + (1 : Int32))), (.int (own_dg k1 (xs1.getD (J1).toNatClampNeg 0))), (.ref r1)])) rfl rfl (hb hby dc0_148)
  have H105 : Iv Z h105 r1 256 (updI (cc1 J1.toNatClampNeg) (own_dg k1 (xs1.getD (J1).toNatClampNeg 0)) (((cc1 J1.toNatClampNeg) (own_dg k1 (xs1.getD (J1).toNatClampNeg 0))) + (1 : Int32))) := Iv.set Ar104 S104 H104 hin104 W105
  have N105 := Fr.snoc X105 N0 gr
  have pre106 : ∀ t, Steps p.tables e below (T105.setTop (mkF m 119 #[s0, s1, s2, s3, .val (.ref b4), .val (.int P1), .val (.ref b6), s7, .val (.long (k1 ^^^ (-9223372036854775808 : Int64))), .second, .val (.int (J1 + (1 : Int32))), s11, s12, s13, s14, s15, s16] [])) t → Steps p.tables e below (st0) t := fun t kt => pre0 t (by
      show Steps p.tables e below (T0.setTop (mkF m 119 #[s0, s1, s2, s3, .val (.ref b4), .val (.int P1), .val (.ref b6), s7, .val (.long (k1 ^^^ (-9223372036854775808 : Int64))), .second, .val (.int J1), s11, s12, s13, s14, s15, s16] [])) _
      refine XS.iload X0.here hx rfl (hb hby dc0_119) rfl ?_
      refine XS.iload X0.here hx rfl (hb hby dc0_121) rfl ?_
      show Steps p.tables e below (T0.setTop (mkF m 123 #[s0, s1, s2, s3, .val (.ref b4), .val (.int P1), .val (.ref b6), s7, .val (.long (k1 ^^^ (-9223372036854775808 : Int64))), .second, .val (.int J1), s11, s12, s13, s14, s15, s16] [(.int P1), (.int J1)])) _
      refine XS.icmpNo X0.here hx rfl (hb hby dc0_123) rfl (tlt hJ.2).2.1 ?_
      refine XS.aload X0.here hx rfl (hb hby dc0_126) rfl rfl ?_
      show Steps p.tables e below (T0.setTop (mkF m 128 #[s0, s1, s2, s3, .val (.ref b4), .val (.int P1), .val (.ref b6), s7, .val (.long (k1 ^^^ (-9223372036854775808 : Int64))), .second, .val (.int J1), s11, s12, s13, s14, s15, s16] [(.ref b6)])) _
      refine XS.iload X0.here hx rfl (hb hby dc0_128) rfl ?_
      refine X0.aaload hx (j := J1) (v := (.ref r1)) (by rw [e0]; exact Ar101.1) (State.isArrayOf_alike hZ.alike Ar101.2.1) rfl Ar101.2.2 hin101 hat101 (g := (mkF m 130 #[s0, s1, s2, s3, .val (.ref b4), .val (.int P1), .val (.ref b6), s7, .val (.long (k1 ^^^ (-9223372036854775808 : Int64))), .second, .val (.int J1), s11, s12, s13, s14, s15, s16] [(.int J1), (.ref b6)])) rfl rfl (hb hby dc0_130) _ ?_
      refine XS.lload X0.here hx rfl (hb hby dc0_131) rfl ?_
      refine XS.aload X0.here hx rfl (hb hby dc0_133) rfl rfl ?_
      refine XS.iload X0.here hx rfl (hb hby dc0_135) rfl ?_
      show Steps p.tables e below (T0.setTop (mkF m 137 #[s0, s1, s2, s3, .val (.ref b4), .val (.int P1), .val (.ref b6), s7, .val (.long (k1 ^^^ (-9223372036854775808 : Int64))), .second, .val (.int J1), s11, s12, s13, s14, s15, s16] [(.int J1), (.ref b4), (.long (k1 ^^^ (-9223372036854775808 : Int64))), (.ref r1)])) _
      refine X0.iaload hx (j := J1) (v := (.int (xs1.getD (J1).toNatClampNeg 0))) (by rw [e0]; exact Ar102.1) (State.isArrayOf_alike hZ.alike Ar102.2.1) Ar102.2.2 hin102 hat102 (g := (mkF m 137 #[s0, s1, s2, s3, .val (.ref b4), .val (.int P1), .val (.ref b6), s7, .val (.long (k1 ^^^ (-9223372036854775808 : Int64))), .second, .val (.int J1), s11, s12, s13, s14, s15, s16] [(.int J1), (.ref b4), (.long (k1 ^^^ (-9223372036854775808 : Int64))), (.ref r1)])) rfl rfl (hb hby dc0_137) _ ?_
      refine XS.lushr X0.here hx rfl (hb hby dc0_138) rfl ?_
      refine XS.l2i X0.here hx rfl (hb hby dc0_139) rfl ?_
      refine XS.sipush X0.here hx rfl (hb hby dc0_140) ?_
      refine XS.iand X0.here hx rfl (hb hby dc0_143) rfl ?_
      show Steps p.tables e below (T0.setTop (mkF m 144 #[s0, s1, s2, s3, .val (.ref b4), .val (.int P1), .val (.ref b6), s7, .val (.long (k1 ^^^ (-9223372036854775808 : Int64))), .second, .val (.int J1), s11, s12, s13, s14, s15, s16] [(.int (((((k1 ^^^ (-9223372036854775808 : Int64)).toUInt64 >>> ((xs1.getD (J1).toNatClampNeg 0) &&& 0x3f).toInt64.toUInt64).toInt64).toInt32) &&& (255 : Int32))), (.ref r1)])) _
      rw [(show (((((k1 ^^^ (-9223372036854775808 : Int64)).toUInt64 >>> ((xs1.getD (J1).toNatClampNeg 0) &&& 0x3f).toInt64.toUInt64).toInt64).toInt32) &&& (255 : Int32)) = own_dg k1 (xs1.getD (J1).toNatClampNeg 0) from rfl)]
      jvm_step X0.here [X0.here.top, hx, (hb hby dc0_144), Value.category]
      refine X0.iaload hx (j := (own_dg k1 (xs1.getD (J1).toNatClampNeg 0))) (v := (.int ((cc1 J1.toNatClampNeg) (own_dg k1 (xs1.getD (J1).toNatClampNeg 0))))) (by rw [e0]; exact Ar103.1) (State.isArrayOf_alike hZ.alike Ar103.2.1) Ar103.2.2 hin103 hat103 (g := (mkF m 145 #[s0, s1, s2, s3, .val (.ref b4), .val (.int P1), .val (.ref b6), s7, .val (.long (k1 ^^^ (-9223372036854775808 : Int64))), .second, .val (.int J1), s11, s12, s13, s14, s15, s16] [(.int (own_dg k1 (xs1.getD (J1).toNatClampNeg 0))), (.ref r1), (.int (own_dg k1 (xs1.getD (J1).toNatClampNeg 0))), (.ref r1)])) rfl rfl (hb hby dc0_145) _ ?_
      refine XS.iconst X0.here hx rfl (hb hby dc0_146) ?_
      refine XS.iadd X0.here hx rfl (hb hby dc0_147) rfl ?_
      show Steps p.tables e below (T0.setTop (mkF m 148 #[s0, s1, s2, s3, .val (.ref b4), .val (.int P1), .val (.ref b6), s7, .val (.long (k1 ^^^ (-9223372036854775808 : Int64))), .second, .val (.int J1), s11, s12, s13, s14, s15, s16] [(.int (((cc1 J1.toNatClampNeg) (own_dg k1 (xs1.getD (J1).toNatClampNeg 0))) + (1 : Int32))), (.int (own_dg k1 (xs1.getD (J1).toNatClampNeg 0))), (.ref r1)])) _
      refine st105 _ ?_
      refine XS.iinc X105.here hx rfl (hb hby dc0_149) rfl (l' := #[s0, s1, s2, s3, .val (.ref b4), .val (.int P1), .val (.ref b6), s7, .val (.long (k1 ^^^ (-9223372036854775808 : Int64))), .second, .val (.int (J1 + (1 : Int32))), s11, s12, s13, s14, s15, s16]) rfl ?_
      refine XS.goto X105.here hx rfl (pc0 := 152) (pc' := 119) rfl (hb hby dc0_152) (by decide) (by decide) ?_
      exact kt)
  have K107 : Keep h0 h105 [r1] := (Keep.wr (Keep.refl h0 [r1]) W105 (Or.inl (List.mem_of_getElem? (i := 0) rfl)))
  have O108 : Old Z n0 h105 := (O0.wr W105 gr)
  exact ⟨_, ⟨_, _, X105, e105, N105, O108, pre106⟩, (Keep.refl h0 (ads q1 P1.toNatClampNeg)).trans K107 (allS (Or.inl (by rw [er]; exact own_min (own_jn hJ))) all0), Gd.upd (f' := inc (cc1 J1.toNatClampNeg) (own_dg k1 (xs1.getD (J1).toNatClampNeg 0))) G6 (by omega) K107 (allS (Or.inl er) all0) (er ▸ H105)⟩
theorem cnL {p : Program} {l : Launch} {e : Env} {R : Room} {s : State} {m : MethodId} {args : Array Value} {below : List Frame} {meth : Method} {c : Code} {Z : State} {a0 : Array Value} {n0 : Nat} {cells slots : Nat} {st0 : State} (hx : p.tables.exec = Jvm.exec) (hZ : Z.Warmed39 s.vm) (hw : ∀ d ∈ tables_1, d.before a0 Z = true) (hby : c.code = prog_98_method_19_code) (hml : c.maxLocals = 17) (hown : s.vm.findClass "com/example/keyfold/keyfold/SortedRows" = some m.cls) (s0 s1 s2 s3 s7 s11 s12 s13 s14 s15 s16 : Slot) (k1 : Int64) (b4 b6 q1 : Nat) (P1 : Int32) (xs1 : List Int32) (hq : q1 = b6 + 1) (h4 : b4 < b6) (g6 : n0 ≤ b6) (hP8 : P1.toInt ≤ 8) : ∀ (kk : Nat) (h0 : Heap) (J1 : Int32) (cc1 : Nat → Int32 → Int32), J1.toInt + kk = P1.toInt → 0 ≤ J1.toInt → La Z h0 b4 .int (8 : Int32) xs1 → Gd Z h0 b6 q1 P1 cc1 → Rc p l e R s m args below meth c n0 Z cells slots st0 (mkF m 119 #[s0, s1, s2, s3, .val (.ref b4), .val (.int P1), .val (.ref b6), s7, .val (.long (k1 ^^^ (-9223372036854775808 : Int64))), .second, .val (.int J1), s11, s12, s13, s14, s15, s16] []) h0 →
    ∃ (h' : Heap) (cc' : Nat → Int32 → Int32), Rc p l e R s m args below meth c n0 Z cells slots st0 (mkF m 119 #[s0, s1, s2, s3, .val (.ref b4), .val (.int P1), .val (.ref b6), s7, .val (.long (k1 ^^^ (-9223372036854775808 : Int64))), .second, .val (.int P1), s11, s12, s13, s14, s15, s16] []) h' ∧ Keep h0 h' (ads q1 P1.toNatClampNeg) ∧ Gd Z h' b6 q1 P1 cc' ∧ ∀ i, i < P1.toNatClampNeg → cc' i = if J1.toNatClampNeg ≤ i then inc (cc1 i) (own_dg k1 (xs1.getD i 0)) else cc1 i
  | 0, h0, J1, cc1, hk, hJ0, A4, G6, G0 => by
    obtain rfl : J1 = P1 := own_eqI (by omega)
    exact ⟨h0, cc1, G0, Keep.refl _ _, G6, fun i hi => by rw [if_neg (by omega)]⟩
  | kk + 1, h0, J1, cc1, hk, hJ0, A4, G6, G0 => by
    have hJ : ¬ J1 < 0 ∧ J1 < P1 := ⟨own_nltI (by have e : (0 : Int32).toInt = 0 := rfl; omega), own_ltI (by omega)⟩
    have e1 := own_inc1 (J := J1) rfl (by omega) hJ0
    have eN : (J1 + (1 : Int32)).toNatClampNeg = J1.toNatClampNeg + 1 := by show (J1 + (1 : Int32)).toInt.toNat = J1.toInt.toNat + 1; omega
    obtain ⟨h1, G1, K1, G61⟩ := cnT hx hZ hw hby hml hown s0 s1 s2 s3 s7 s11 s12 s13 s14 s15 s16 k1 b4 b6 q1 P1 J1 xs1 cc1 G0 A4 G6 hq h4 g6 hJ hP8
    obtain ⟨h2, cc2, G2, K2, G62, hc⟩ := cnL hx hZ hw hby hml hown s0 s1 s2 s3 s7 s11 s12 s13 s14 s15 s16 k1 b4 b6 q1 P1 xs1 hq h4 g6 hP8 kk h1 (J1 + (1 : Int32)) _ (by omega) (by omega) (A4.keep K1 (own_nin (by omega))) G61 G1
    refine ⟨h2, cc2, G2, K1.trans K2 (fun x q => Or.inl q), G62, fun i hi => ?_⟩
    rw [hc i hi, eN]
    by_cases q : i = J1.toNatClampNeg
    · subst q; rw [if_neg (by omega), if_pos rfl, if_pos (Nat.le_refl _)]
    · rw [if_neg q]
      by_cases r : J1.toNatClampNeg ≤ i
      · rw [if_pos (by omega), if_pos r]
      · rw [if_neg (by omega), if_neg r]
theorem dc0_202 : decode prog_98_method_19_code 202 = .ok (.iload 12, 2) := by decide +kernel
theorem dc0_204 : decode prog_98_method_19_code 204 = .ok (.aload 10, 2) := by decide +kernel
theorem dc0_206 : decode prog_98_method_19_code 206 = .ok (.arraylength, 1) := by decide +kernel
theorem dc0_207 : decode prog_98_method_19_code 207 = .ok (.if_icmp .ge 30, 3) := by decide +kernel
theorem dc0_210 : decode prog_98_method_19_code 210 = .ok (.aload 10, 2) := by decide +kernel
theorem dc0_212 : decode prog_98_method_19_code 212 = .ok (.iload 12, 2) := by decide +kernel
theorem dc0_214 : decode prog_98_method_19_code 214 = .ok (.iaload, 1) := by decide +kernel
theorem dc0_215 : decode prog_98_method_19_code 215 = .ok (.istore 13, 2) := by decide +kernel
theorem os_0 {s0 : Slot} {s1 : Slot} {s2 : Slot} {s3 : Slot} {s4 : Slot} {s5 : Slot} {s6 : Slot} {s7 : Slot} {s8 : Slot} {s9 : Slot} {z10 : Value} {z11 : Value} {z12 : Value} {s13 : Slot} {s14 : Slot} {s15 : Slot} {s16 : Slot} {v : Int32} (h : One s13) : storeLocals #[s0, s1, s2, s3, s4, s5, s6, s7, s8, s9, .val z10, .val z11, .val z12, s13, s14, s15, s16] 13 (.int v) = some #[s0, s1, s2, s3, s4, s5, s6, s7, s8, s9, .val z10, .val z11, .val z12, .val (.int v), s14, s15, s16] := by
  rcases h with rfl | ⟨w, rfl, hw⟩
  · rfl
  · cases w <;> first | rfl | (simp [Value.category] at hw)
theorem dc0_217 : decode prog_98_method_19_code 217 = .ok (.aload 10, 2) := by decide +kernel
theorem dc0_219 : decode prog_98_method_19_code 219 = .ok (.iload 12, 2) := by decide +kernel
theorem dc0_221 : decode prog_98_method_19_code 221 = .ok (.iload 11, 2) := by decide +kernel
theorem dc0_223 : decode prog_98_method_19_code 223 = .ok (.iastore, 1) := by decide +kernel
theorem dc0_224 : decode prog_98_method_19_code 224 = .ok (.iload 11, 2) := by decide +kernel
theorem dc0_226 : decode prog_98_method_19_code 226 = .ok (.iload 13, 2) := by decide +kernel
theorem dc0_228 : decode prog_98_method_19_code 228 = .ok (.iadd, 1) := by decide +kernel
theorem dc0_229 : decode prog_98_method_19_code 229 = .ok (.istore 11, 2) := by decide +kernel
theorem dc0_231 : decode prog_98_method_19_code 231 = .ok (.iinc 12 1, 3) := by decide +kernel
theorem dc0_234 : decode prog_98_method_19_code 234 = .ok (.goto (-32), 3) := by decide +kernel
set_option maxRecDepth 65536 in
set_option maxHeartbeats 40000000 in
theorem prT {p : Program} {l : Launch} {e : Env} {R : Room} {s : State} {m : MethodId} {args : Array Value} {below : List Frame} {meth : Method} {c : Code} {Z : State} {a0 : Array Value} {n0 : Nat} {cells slots : Nat} {st0 : State} (hx : p.tables.exec = Jvm.exec) (hZ : Z.Warmed39 s.vm) (hw : ∀ d ∈ tables_1, d.before a0 Z = true) (hby : c.code = prog_98_method_19_code) (hml : c.maxLocals = 17) (hown : s.vm.findClass "com/example/keyfold/keyfold/SortedRows" = some m.cls) {h0 : Heap} (s0 s1 s2 s3 s4 s5 s6 s7 s8 s9 s14 s15 s16 w13 : Slot) (r1 : Nat) (x1 B1 : Int32) (f1 : Int32 → Int32) (G0 : Rc p l e R s m args below meth c n0 Z cells slots st0 (mkF m 202 #[s0, s1, s2, s3, s4, s5, s6, s7, s8, s9, .val (.ref r1), .val (.int x1), .val (.int B1), w13, s14, s15, s16] []) h0) (I1 : Iv Z h0 r1 256 f1) (gr : n0 ≤ r1) (hw13 : One w13) (hB : 0 ≤ B1.toInt ∧ B1.toInt < 256) :
    ∃ (h' : Heap), Rc p l e R s m args below meth c n0 Z cells slots st0 (mkF m 202 #[s0, s1, s2, s3, s4, s5, s6, s7, s8, s9, .val (.ref r1), .val (.int (x1 + (f1 B1))), .val (.int (B1 + (1 : Int32))), .val (.int (f1 B1)), s14, s15, s16] []) h' ∧ Keep h0 h' [r1] ∧ Iv Z h' r1 256 (updI f1 B1 x1) := by
  obtain ⟨T0, L0, X0, e0, N0, O0, pre0⟩ := G0
  obtain ⟨cl101, Ar101, S101, -⟩ := id I1
  obtain ⟨cl102, Ar102, S102, H102⟩ := id I1
  have hin102 : ¬ (B1 < 0 ∨ cl102.slots.size ≤ (B1).toNatClampNeg) := by rw [S102]; exact (own_in256 hB)
  have hat102 : cl102.slots[(B1).toNatClampNeg]? = some (.int (f1 B1)) := H102 _ hin102
  obtain ⟨cl103, Ar103, S103, H103⟩ := id I1
  have hin103 : ¬ (B1 < 0 ∨ cl103.slots.size ≤ (B1).toNatClampNeg) := by rw [S103]; exact (own_in256 hB)
  obtain ⟨T104, h104, X104, e104, W104, st104⟩ := stI X0 hx hZ e0 Ar103 (j := B1) hin103 (g := (mkF m 223 #[s0, s1, s2, s3, s4, s5, s6, s7, s8, s9, .val (.ref r1), .val (.int x1), .val (.int B1), .val (.int (f1 B1)), s14, s15, s16] [(.int x1), (.int B1), (.ref r1)])) rfl rfl (hb hby dc0_223)
  have H104 : Iv Z h104 r1 256 (updI f1 B1 x1) := Iv.set Ar103 S103 H103 hin103 W104
  have N104 := Fr.snoc X104 N0 gr
  have pre105 : ∀ t, Steps p.tables e below (T104.setTop (mkF m 202 #[s0, s1, s2, s3, s4, s5, s6, s7, s8, s9, .val (.ref r1), .val (.int (x1 + (f1 B1))), .val (.int (B1 + (1 : Int32))), .val (.int (f1 B1)), s14, s15, s16] [])) t → Steps p.tables e below (st0) t := fun t kt => pre0 t (by
      show Steps p.tables e below (T0.setTop (mkF m 202 #[s0, s1, s2, s3, s4, s5, s6, s7, s8, s9, .val (.ref r1), .val (.int x1), .val (.int B1), w13, s14, s15, s16] [])) _
      refine XS.iload X0.here hx rfl (hb hby dc0_202) rfl ?_
      refine XS.aload X0.here hx rfl (hb hby dc0_204) rfl rfl ?_
      refine X0.arraylength hx (by rw [e0]; exact Ar101.1) (State.isArrayOf_alike hZ.alike Ar101.2.1) (g := (mkF m 206 #[s0, s1, s2, s3, s4, s5, s6, s7, s8, s9, .val (.ref r1), .val (.int x1), .val (.int B1), w13, s14, s15, s16] [(.ref r1), (.int B1)])) rfl rfl (hb hby dc0_206) _ ?_
      rw [show cl101.slots.size.toInt32 = (256 : Int32) from by rw [S101]; rfl]
      show Steps p.tables e below (T0.setTop (mkF m 207 #[s0, s1, s2, s3, s4, s5, s6, s7, s8, s9, .val (.ref r1), .val (.int x1), .val (.int B1), w13, s14, s15, s16] [(.int (256 : Int32)), (.int B1)])) _
      refine XS.icmpNo X0.here hx rfl (hb hby dc0_207) rfl (tlt (own_ltI (by have e : (256 : Int32).toInt = 256 := rfl; omega))).2.1 ?_
      show Steps p.tables e below (T0.setTop (mkF m 210 #[s0, s1, s2, s3, s4, s5, s6, s7, s8, s9, .val (.ref r1), .val (.int x1), .val (.int B1), w13, s14, s15, s16] [])) _
      refine XS.aload X0.here hx rfl (hb hby dc0_210) rfl rfl ?_
      refine XS.iload X0.here hx rfl (hb hby dc0_212) rfl ?_
      refine X0.iaload hx (j := B1) (v := (.int (f1 B1))) (by rw [e0]; exact Ar102.1) (State.isArrayOf_alike hZ.alike Ar102.2.1) Ar102.2.2 hin102 hat102 (g := (mkF m 214 #[s0, s1, s2, s3, s4, s5, s6, s7, s8, s9, .val (.ref r1), .val (.int x1), .val (.int B1), w13, s14, s15, s16] [(.int B1), (.ref r1)])) rfl rfl (hb hby dc0_214) _ ?_
      refine XS.istore X0.here hx rfl (hb hby dc0_215) rfl (l' := #[s0, s1, s2, s3, s4, s5, s6, s7, s8, s9, .val (.ref r1), .val (.int x1), .val (.int B1), .val (.int (f1 B1)), s14, s15, s16]) (os_0 hw13) ?_
      refine XS.aload X0.here hx rfl (hb hby dc0_217) rfl rfl ?_
      show Steps p.tables e below (T0.setTop (mkF m 219 #[s0, s1, s2, s3, s4, s5, s6, s7, s8, s9, .val (.ref r1), .val (.int x1), .val (.int B1), .val (.int (f1 B1)), s14, s15, s16] [(.ref r1)])) _
      refine XS.iload X0.here hx rfl (hb hby dc0_219) rfl ?_
      refine XS.iload X0.here hx rfl (hb hby dc0_221) rfl ?_
      refine st104 _ ?_
      refine XS.iload X104.here hx rfl (hb hby dc0_224) rfl ?_
      refine XS.iload X104.here hx rfl (hb hby dc0_226) rfl ?_
      show Steps p.tables e below (T104.setTop (mkF m 228 #[s0, s1, s2, s3, s4, s5, s6, s7, s8, s9, .val (.ref r1), .val (.int x1), .val (.int B1), .val (.int (f1 B1)), s14, s15, s16] [(.int (f1 B1)), (.int x1)])) _
      refine XS.iadd X104.here hx rfl (hb hby dc0_228) rfl ?_
      refine XS.istore X104.here hx rfl (hb hby dc0_229) rfl (l' := #[s0, s1, s2, s3, s4, s5, s6, s7, s8, s9, .val (.ref r1), .val (.int (x1 + (f1 B1))), .val (.int B1), .val (.int (f1 B1)), s14, s15, s16]) rfl ?_
      refine XS.iinc X104.here hx rfl (hb hby dc0_231) rfl (l' := #[s0, s1, s2, s3, s4, s5, s6, s7, s8, s9, .val (.ref r1), .val (.int (x1 + (f1 B1))), .val (.int (B1 + (1 : Int32))), .val (.int (f1 B1)), s14, s15, s16]) rfl ?_
      refine XS.goto X104.here hx rfl (pc0 := 234) (pc' := 202) rfl (hb hby dc0_234) (by decide) (by decide) ?_
      exact kt)
  have O106 : Old Z n0 h104 := (O0.wr W104 gr)
  have K107 : Keep h0 h104 [r1] := (Keep.wr (Keep.refl h0 [r1]) W104 (Or.inl (List.mem_of_getElem? (i := 0) rfl)))
  exact ⟨_, ⟨_, _, X104, e104, N104, O106, pre105⟩, K107, H104⟩
theorem prL {p : Program} {l : Launch} {e : Env} {R : Room} {s : State} {m : MethodId} {args : Array Value} {below : List Frame} {meth : Method} {c : Code} {Z : State} {a0 : Array Value} {n0 : Nat} {cells slots : Nat} {st0 : State} (hx : p.tables.exec = Jvm.exec) (hZ : Z.Warmed39 s.vm) (hw : ∀ d ∈ tables_1, d.before a0 Z = true) (hby : c.code = prog_98_method_19_code) (hml : c.maxLocals = 17) (hown : s.vm.findClass "com/example/keyfold/keyfold/SortedRows" = some m.cls) (s0 s1 s2 s3 s4 s5 s6 s7 s8 s9 s14 s15 s16 : Slot) (r1 : Nat) (f0 : Int32 → Int32) (gr : n0 ≤ r1) : ∀ (kk : Nat) (h0 : Heap) (x1 B1 : Int32) (f1 : Int32 → Int32) (w13 : Slot) (nn : Nat), nn + kk = 256 → B1.toInt = nn → x1 = own_pre f0 nn → (∀ j : Int32, 0 ≤ j.toInt → j.toInt < nn → f1 j = own_pre f0 j.toInt.toNat) → (∀ j : Int32, (nn : Int) ≤ j.toInt → f1 j = f0 j) → One w13 → Iv Z h0 r1 256 f1 → Rc p l e R s m args below meth c n0 Z cells slots st0 (mkF m 202 #[s0, s1, s2, s3, s4, s5, s6, s7, s8, s9, .val (.ref r1), .val (.int x1), .val (.int B1), w13, s14, s15, s16] []) h0 →
    ∃ (h' : Heap) (x' : Int32) (f' : Int32 → Int32) (w' : Slot), Rc p l e R s m args below meth c n0 Z cells slots st0 (mkF m 202 #[s0, s1, s2, s3, s4, s5, s6, s7, s8, s9, .val (.ref r1), .val (.int x'), .val (.int (256 : Int32)), w', s14, s15, s16] []) h' ∧ Keep h0 h' [r1] ∧ One w' ∧ Iv Z h' r1 256 f' ∧ ∀ j : Int32, 0 ≤ j.toInt → j.toInt < 256 → f' j = own_pre f0 j.toInt.toNat
  | 0, h0, x1, B1, f1, w13, nn, hk, hB, ex, ha, hb, hw13, I1, G0 => by
    obtain rfl : nn = 256 := by omega
    obtain rfl : B1 = (256 : Int32) := own_eqI hB
    exact ⟨h0, x1, f1, w13, G0, Keep.refl _ _, hw13, I1, ha⟩
  | kk + 1, h0, x1, B1, f1, w13, nn, hk, hB, ex, ha, hb, hw13, I1, G0 => by
    obtain ⟨h1, G1, K1, I2⟩ := prT hx hZ hw hby hml hown s0 s1 s2 s3 s4 s5 s6 s7 s8 s9 s14 s15 s16 w13 r1 x1 B1 f1 G0 I1 gr hw13 (by omega)
    have e1 := own_inc1 hB (by omega) (by omega)
    have eB : B1 = Int32.ofNat nn := own_eqI (by rw [hB, own_ofNat (by omega)])
    obtain ⟨h2, x', f', w', G2, K2, o2, I3, hf⟩ := prL hx hZ hw hby hml hown s0 s1 s2 s3 s4 s5 s6 s7 s8 s9 s14 s15 s16 r1 f0 gr kk h1 (x1 + (f1 B1)) (B1 + (1 : Int32)) (updI f1 B1 x1) _ (nn + 1) (by omega) (by omega)
      (by show x1 + f1 B1 = own_pre f0 nn + f0 (Int32.ofNat nn); rw [hb B1 (by omega), ex, ← eB])
      (fun j h0' h1' => by
        by_cases q : j = B1
        · subst q; simp only [updI, if_true]; rw [ex]; congr 1; omega
        · simp only [updI, if_neg q]; exact ha j h0' (by have : j.toInt ≠ nn := fun z => q (own_eqI (z.trans hB.symm)); omega))
      (fun j h0' => by
        have q : ¬ j = B1 := fun z => by rw [z] at h0'; omega
        simp only [updI, if_neg q]; exact hb j (by omega)) (One.val rfl) I2 G1
    exact ⟨h2, x', f', w', G2, K1.trans K2 (fun x q => Or.inl q), o2, I3, hf⟩
theorem dc0_182 : decode prog_98_method_19_code 182 = .ok (.iload 9, 2) := by decide +kernel
theorem dc0_184 : decode prog_98_method_19_code 184 = .ok (.iload 5, 2) := by decide +kernel
theorem dc0_186 : decode prog_98_method_19_code 186 = .ok (.if_icmp .ge 149, 3) := by decide +kernel
theorem dc0_189 : decode prog_98_method_19_code 189 = .ok (.aload 6, 2) := by decide +kernel
theorem dc0_191 : decode prog_98_method_19_code 191 = .ok (.iload 9, 2) := by decide +kernel
theorem dc0_193 : decode prog_98_method_19_code 193 = .ok (.aaload, 1) := by decide +kernel
theorem dc0_194 : decode prog_98_method_19_code 194 = .ok (.astore 10, 2) := by decide +kernel
theorem dc0_196 : decode prog_98_method_19_code 196 = .ok (.iconst 0, 1) := by decide +kernel
theorem dc0_197 : decode prog_98_method_19_code 197 = .ok (.istore 11, 2) := by decide +kernel
theorem dc0_199 : decode prog_98_method_19_code 199 = .ok (.iconst 0, 1) := by decide +kernel
theorem dc0_200 : decode prog_98_method_19_code 200 = .ok (.istore 12, 2) := by decide +kernel
theorem dc0_237 : decode prog_98_method_19_code 237 = .ok (.aload 4, 2) := by decide +kernel
theorem dc0_239 : decode prog_98_method_19_code 239 = .ok (.iload 9, 2) := by decide +kernel
theorem dc0_241 : decode prog_98_method_19_code 241 = .ok (.iaload, 1) := by decide +kernel
theorem dc0_242 : decode prog_98_method_19_code 242 = .ok (.istore 12, 2) := by decide +kernel
theorem dc0_244 : decode prog_98_method_19_code 244 = .ok (.iconst 0, 1) := by decide +kernel
theorem dc0_245 : decode prog_98_method_19_code 245 = .ok (.istore 13, 2) := by decide +kernel
theorem os_1 {s0 : Slot} {z1 : Value} {s2 : Slot} {s3 : Slot} {z4 : Value} {z5 : Value} {z6 : Value} {z7 : Value} {z8 : Value} {z9 : Value} {z10 : Value} {z11 : Value} {z12 : Value} {s13 : Slot} {v : Int32} (h : One s13) : storeLocals #[s0, .val z1, s2, s3, .val z4, .val z5, .val z6, .val z7, .val z8, .val z9, .val z10, .val z11, .val z12, s13, .unset, .unset, .unset] 13 (.int v) = some #[s0, .val z1, s2, s3, .val z4, .val z5, .val z6, .val z7, .val z8, .val z9, .val z10, .val z11, .val z12, .val (.int v), .unset, .unset, .unset] := by
  rcases h with rfl | ⟨w, rfl, hw⟩
  · rfl
  · cases w <;> first | rfl | (simp [Value.category] at hw)
theorem dc0_247 : decode prog_98_method_19_code 247 = .ok (.iload 13, 2) := by decide +kernel
theorem dc0_249 : decode prog_98_method_19_code 249 = .ok (.iload_n 1, 1) := by decide +kernel
theorem dc0_250 : decode prog_98_method_19_code 250 = .ok (.if_icmp .ge 67, 3) := by decide +kernel
theorem dc0_253 : decode prog_98_method_19_code 253 = .ok (.aload 7, 2) := by decide +kernel
theorem dc0_255 : decode prog_98_method_19_code 255 = .ok (.iconst 2, 1) := by decide +kernel
theorem dc0_256 : decode prog_98_method_19_code 256 = .ok (.iload 13, 2) := by decide +kernel
theorem dc0_258 : decode prog_98_method_19_code 258 = .ok (.imul, 1) := by decide +kernel
theorem dc0_259 : decode prog_98_method_19_code 259 = .ok (.laload, 1) := by decide +kernel
theorem dc0_260 : decode prog_98_method_19_code 260 = .ok (.lstore 14, 2) := by decide +kernel
theorem dc0_262 : decode prog_98_method_19_code 262 = .ok (.iconst 2, 1) := by decide +kernel
theorem dc0_263 : decode prog_98_method_19_code 263 = .ok (.aload 10, 2) := by decide +kernel
theorem dc0_265 : decode prog_98_method_19_code 265 = .ok (.lload 14, 2) := by decide +kernel
theorem dc0_267 : decode prog_98_method_19_code 267 = .ok (.ldc2_w 208, 3) := by decide +kernel
theorem dc0_270 : decode prog_98_method_19_code 270 = .ok (.lxor, 1) := by decide +kernel
theorem dc0_271 : decode prog_98_method_19_code 271 = .ok (.iload 12, 2) := by decide +kernel
theorem dc0_273 : decode prog_98_method_19_code 273 = .ok (.lushr, 1) := by decide +kernel
theorem dc0_274 : decode prog_98_method_19_code 274 = .ok (.l2i, 1) := by decide +kernel
theorem dc0_275 : decode prog_98_method_19_code 275 = .ok (.sipush 255, 3) := by decide +kernel
theorem dc0_278 : decode prog_98_method_19_code 278 = .ok (.iand, 1) := by decide +kernel
theorem dc0_279 : decode prog_98_method_19_code 279 = .ok (.dup2, 1) := by decide +kernel
theorem dc0_280 : decode prog_98_method_19_code 280 = .ok (.iaload, 1) := by decide +kernel
theorem dc0_281 : decode prog_98_method_19_code 281 = .ok (.dup_x2, 1) := by decide +kernel
theorem dc0_282 : decode prog_98_method_19_code 282 = .ok (.iconst 1, 1) := by decide +kernel
theorem dc0_283 : decode prog_98_method_19_code 283 = .ok (.iadd, 1) := by decide +kernel
theorem dc0_284 : decode prog_98_method_19_code 284 = .ok (.iastore, 1) := by decide +kernel
theorem dc0_285 : decode prog_98_method_19_code 285 = .ok (.imul, 1) := by decide +kernel
theorem dc0_286 : decode prog_98_method_19_code 286 = .ok (.istore 16, 2) := by decide +kernel
theorem dc0_288 : decode prog_98_method_19_code 288 = .ok (.aload 8, 2) := by decide +kernel
theorem dc0_290 : decode prog_98_method_19_code 290 = .ok (.iload 16, 2) := by decide +kernel
theorem dc0_292 : decode prog_98_method_19_code 292 = .ok (.lload 14, 2) := by decide +kernel
theorem dc0_294 : decode prog_98_method_19_code 294 = .ok (.lastore, 1) := by decide +kernel
theorem dc0_295 : decode prog_98_method_19_code 295 = .ok (.aload 8, 2) := by decide +kernel
theorem dc0_297 : decode prog_98_method_19_code 297 = .ok (.iload 16, 2) := by decide +kernel
theorem dc0_299 : decode prog_98_method_19_code 299 = .ok (.iconst 1, 1) := by decide +kernel
theorem dc0_300 : decode prog_98_method_19_code 300 = .ok (.iadd, 1) := by decide +kernel
theorem dc0_301 : decode prog_98_method_19_code 301 = .ok (.aload 7, 2) := by decide +kernel
theorem dc0_303 : decode prog_98_method_19_code 303 = .ok (.iconst 2, 1) := by decide +kernel
theorem dc0_304 : decode prog_98_method_19_code 304 = .ok (.iload 13, 2) := by decide +kernel
theorem dc0_306 : decode prog_98_method_19_code 306 = .ok (.imul, 1) := by decide +kernel
theorem dc0_307 : decode prog_98_method_19_code 307 = .ok (.iconst 1, 1) := by decide +kernel
theorem dc0_308 : decode prog_98_method_19_code 308 = .ok (.iadd, 1) := by decide +kernel
theorem dc0_309 : decode prog_98_method_19_code 309 = .ok (.laload, 1) := by decide +kernel
theorem dc0_310 : decode prog_98_method_19_code 310 = .ok (.lastore, 1) := by decide +kernel
theorem dc0_311 : decode prog_98_method_19_code 311 = .ok (.iinc 13 1, 3) := by decide +kernel
theorem dc0_314 : decode prog_98_method_19_code 314 = .ok (.goto (-67), 3) := by decide +kernel
theorem dc0_317 : decode prog_98_method_19_code 317 = .ok (.aload 8, 2) := by decide +kernel
theorem dc0_319 : decode prog_98_method_19_code 319 = .ok (.astore 13, 2) := by decide +kernel
theorem dc0_321 : decode prog_98_method_19_code 321 = .ok (.aload 7, 2) := by decide +kernel
theorem dc0_323 : decode prog_98_method_19_code 323 = .ok (.astore 8, 2) := by decide +kernel
theorem dc0_325 : decode prog_98_method_19_code 325 = .ok (.aload 13, 2) := by decide +kernel
theorem dc0_327 : decode prog_98_method_19_code 327 = .ok (.astore 7, 2) := by decide +kernel
theorem dc0_329 : decode prog_98_method_19_code 329 = .ok (.iinc 9 1, 3) := by decide +kernel
theorem dc0_332 : decode prog_98_method_19_code 332 = .ok (.goto (-150), 3) := by decide +kernel
set_option maxRecDepth 65536 in
set_option maxHeartbeats 40000000 in
theorem ps2a {p : Program} {l : Launch} {e : Env} {R : Room} {s : State} {m : MethodId} {args : Array Value} {below : List Frame} {meth : Method} {c : Code} {Z : State} {a0 : Array Value} {n0 : Nat} {cells slots : Nat} {st0 : State} (hx : p.tables.exec = Jvm.exec) (hZ : Z.Warmed39 s.vm) (hw : ∀ d ∈ tables_1, d.before a0 Z = true) (hby : c.code = prog_98_method_19_code) (hml : c.maxLocals = 17) (hown : s.vm.findClass "com/example/keyfold/keyfold/SortedRows" = some m.cls) {h0 : Heap} (s0 s2 s3 : Slot) (b4 b6 q1 A1 B1 : Nat) (P1 J1 : Int32) (xs1 : List Int32) (f1 g1 : Int32 → Int64) (cc1 : Nat → Int32 → Int32) (k0 k1 w0 : Int64) (d1 : Nat) (i10 : Int32) (G0 : Rc p l e R s m args below meth c n0 Z cells slots st0 (mkF m 182 #[s0, .val (.int (2 : Int32)), s2, s3, .val (.ref b4), .val (.int P1), .val (.ref b6), .val (.ref A1), .val (.ref B1), .val (.int J1), .val (.int i10), .unset, .unset, .unset, .unset, .unset, .unset] []) h0) (A4 : La Z h0 b4 .int (8 : Int32) xs1) (G6 : Gd Z h0 b6 q1 P1 cc1) (LA : Lv Z h0 A1 6 f1) (LB : Lv Z h0 B1 6 g1) (neAB : A1 ≠ B1) (hq : q1 = b6 + 1) (hA : A1 < b6 ∨ q1 + P1.toNatClampNeg ≤ A1) (hB : B1 < b6 ∨ q1 + P1.toNatClampNeg ≤ B1) (h4 : b4 < b6) (ne4B : b4 ≠ B1) (gB : n0 ≤ B1) (g6 : n0 ≤ b6) (hJ : ¬ J1 < 0 ∧ J1 < P1) (hP8 : P1.toInt ≤ 8) (hcc : cc1 J1.toNatClampNeg = own_C2 k0 k1 (xs1.getD (J1).toNatClampNeg 0)) (ok : Ok2 k0 k1 w0 d1 f1) (hd : d1 < 8) (hsh : (xs1.getD (J1).toNatClampNeg 0).toInt = 8 * (d1 : Int)) :
    ∃ (h' : Heap) (f' : Int32 → Int64) (cc' : Nat → Int32 → Int32) (u10 u11 u12 u13 u14 u15 u16 : Slot), Tl u10 u11 u12 u13 u14 u15 u16 ∧ Rc p l e R s m args below meth c n0 Z cells slots st0 (mkF m 182 #[s0, .val (.int (2 : Int32)), s2, s3, .val (.ref b4), .val (.int P1), .val (.ref b6), .val (.ref B1), .val (.ref A1), .val (.int (J1 + (1 : Int32))), u10, u11, u12, u13, u14, u15, u16] []) h' ∧ La Z h' b4 .int (8 : Int32) xs1 ∧ Gd Z h' b6 q1 P1 cc' ∧ Lv Z h' A1 6 f1 ∧ Lv Z h' B1 6 f' ∧ (∀ i, i ≠ J1.toNatClampNeg → cc' i = cc1 i) ∧ Ok2 k0 k1 w0 (d1 + 1) f' := by
  obtain ⟨T0, L0, X0, e0, N0, O0, pre0⟩ := G0
  obtain ⟨r1, er⟩ : ∃ r : Nat, r = q1 + J1.toNatClampNeg := ⟨_, rfl⟩
  have ne4r : b4 ≠ r1 := by omega
  have gr : n0 ≤ r1 := by omega
  have neAr : A1 ≠ r1 := by have := own_jn hJ; omega
  have neBr : B1 ≠ r1 := by have := own_jn hJ; omega
  have I1 : Iv Z h0 r1 256 (own_C2 k0 k1 (xs1.getD (J1).toNatClampNeg 0)) := by rw [← hcc, er]; exact G6.2 _ (own_jn hJ)
  obtain ⟨cl101, Ar101, hin101, hat101⟩ := Gd.at (J := J1) G6 hJ
  rw [← er] at hat101
  have pre102 : ∀ t, Steps p.tables e below (T0.setTop (mkF m 202 #[s0, .val (.int (2 : Int32)), s2, s3, .val (.ref b4), .val (.int P1), .val (.ref b6), .val (.ref A1), .val (.ref B1), .val (.int J1), .val (.ref r1), .val (.int (0 : Int32)), .val (.int (0 : Int32)), .unset, .unset, .unset, .unset] [])) t → Steps p.tables e below (st0) t := fun t kt => pre0 t (by
      show Steps p.tables e below (T0.setTop (mkF m 182 #[s0, .val (.int (2 : Int32)), s2, s3, .val (.ref b4), .val (.int P1), .val (.ref b6), .val (.ref A1), .val (.ref B1), .val (.int J1), .val (.int i10), .unset, .unset, .unset, .unset, .unset, .unset] [])) _
      refine XS.iload X0.here hx rfl (hb hby dc0_182) rfl ?_
      refine XS.iload X0.here hx rfl (hb hby dc0_184) rfl ?_
      show Steps p.tables e below (T0.setTop (mkF m 186 #[s0, .val (.int (2 : Int32)), s2, s3, .val (.ref b4), .val (.int P1), .val (.ref b6), .val (.ref A1), .val (.ref B1), .val (.int J1), .val (.int i10), .unset, .unset, .unset, .unset, .unset, .unset] [(.int P1), (.int J1)])) _
      refine XS.icmpNo X0.here hx rfl (hb hby dc0_186) rfl (tlt hJ.2).2.1 ?_
      refine XS.aload X0.here hx rfl (hb hby dc0_189) rfl rfl ?_
      show Steps p.tables e below (T0.setTop (mkF m 191 #[s0, .val (.int (2 : Int32)), s2, s3, .val (.ref b4), .val (.int P1), .val (.ref b6), .val (.ref A1), .val (.ref B1), .val (.int J1), .val (.int i10), .unset, .unset, .unset, .unset, .unset, .unset] [(.ref b6)])) _
      refine XS.iload X0.here hx rfl (hb hby dc0_191) rfl ?_
      refine X0.aaload hx (j := J1) (v := (.ref r1)) (by rw [e0]; exact Ar101.1) (State.isArrayOf_alike hZ.alike Ar101.2.1) rfl Ar101.2.2 hin101 hat101 (g := (mkF m 193 #[s0, .val (.int (2 : Int32)), s2, s3, .val (.ref b4), .val (.int P1), .val (.ref b6), .val (.ref A1), .val (.ref B1), .val (.int J1), .val (.int i10), .unset, .unset, .unset, .unset, .unset, .unset] [(.int J1), (.ref b6)])) rfl rfl (hb hby dc0_193) _ ?_
      refine XS.astore X0.here hx rfl (hb hby dc0_194) rfl rfl (l' := #[s0, .val (.int (2 : Int32)), s2, s3, .val (.ref b4), .val (.int P1), .val (.ref b6), .val (.ref A1), .val (.ref B1), .val (.int J1), .val (.ref r1), .unset, .unset, .unset, .unset, .unset, .unset]) rfl ?_
      refine XS.iconst X0.here hx rfl (hb hby dc0_196) ?_
      refine XS.istore X0.here hx rfl (hb hby dc0_197) rfl (l' := #[s0, .val (.int (2 : Int32)), s2, s3, .val (.ref b4), .val (.int P1), .val (.ref b6), .val (.ref A1), .val (.ref B1), .val (.int J1), .val (.ref r1), .val (.int (0 : Int32)), .unset, .unset, .unset, .unset, .unset]) rfl ?_
      show Steps p.tables e below (T0.setTop (mkF m 199 #[s0, .val (.int (2 : Int32)), s2, s3, .val (.ref b4), .val (.int P1), .val (.ref b6), .val (.ref A1), .val (.ref B1), .val (.int J1), .val (.ref r1), .val (.int (0 : Int32)), .unset, .unset, .unset, .unset, .unset] [])) _
      refine XS.iconst X0.here hx rfl (hb hby dc0_199) ?_
      refine XS.istore X0.here hx rfl (hb hby dc0_200) rfl (l' := #[s0, .val (.int (2 : Int32)), s2, s3, .val (.ref b4), .val (.int P1), .val (.ref b6), .val (.ref A1), .val (.ref B1), .val (.int J1), .val (.ref r1), .val (.int (0 : Int32)), .val (.int (0 : Int32)), .unset, .unset, .unset, .unset]) rfl ?_
      exact kt)
  obtain ⟨h103, x103, S103, w103, G103, K103, hw103, I103, hS103⟩ := prL hx hZ hw hby hml hown (s0) (.val (.int (2 : Int32))) (s2) (s3) (.val (.ref b4)) (.val (.int P1)) (.val (.ref b6)) (.val (.ref A1)) (.val (.ref B1)) (.val (.int J1)) (.unset) (.unset) (.unset) r1 (own_C2 k0 k1 (xs1.getD (J1).toNatClampNeg 0)) gr 256 h0 (0 : Int32) (0 : Int32) (own_C2 k0 k1 (xs1.getD (J1).toNatClampNeg 0)) (.unset) 0 (by omega) rfl rfl (fun j a b => by omega) (fun j a => rfl) One.u I1 ⟨_, _, X0, e0, N0, O0, pre102⟩
  obtain ⟨T103, L103, X103, e103, N103, O103, pre103⟩ := G103
  have stp := own_step2 (g := g1) hd hsh ok hS103
  obtain ⟨cl104, Ar104, S104, -⟩ := id I103
  have f105 := (A4.keep K103 (ninS ne4r nin0))
  obtain ⟨cl106, Ar106, hin106, hat106⟩ := La.at (j := J1) f105 (own_J8 hJ hP8)
  have f107 := (LA.keep K103 (ninS neAr nin0))
  obtain ⟨cl108, Ar108, S108, H108⟩ := id f107
  have hin108 : ¬ ((0 : Int32) < 0 ∨ cl108.slots.size ≤ ((0 : Int32)).toNatClampNeg) := by rw [S108]; exact (by decide)
  have hat108 : cl108.slots[((0 : Int32)).toNatClampNeg]? = some (.long (f1 (0 : Int32))) := H108 _ hin108
  obtain ⟨cl109, Ar109, S109, H109⟩ := id I103
  have hin109 : ¬ ((own_dg (f1 (0 : Int32)) (xs1.getD (J1).toNatClampNeg 0)) < 0 ∨ cl109.slots.size ≤ ((own_dg (f1 (0 : Int32)) (xs1.getD (J1).toNatClampNeg 0))).toNatClampNeg) := by rw [S109]; exact (own_in256 (own_dg_rng _ _))
  have hat109 : cl109.slots[((own_dg (f1 (0 : Int32)) (xs1.getD (J1).toNatClampNeg 0))).toNatClampNeg]? = some (.int (S103 (own_dg (f1 (0 : Int32)) (xs1.getD (J1).toNatClampNeg 0)))) := H109 _ hin109
  obtain ⟨cl110, Ar110, S110, H110⟩ := id I103
  have hin110 : ¬ ((own_dg (f1 (0 : Int32)) (xs1.getD (J1).toNatClampNeg 0)) < 0 ∨ cl110.slots.size ≤ ((own_dg (f1 (0 : Int32)) (xs1.getD (J1).toNatClampNeg 0))).toNatClampNeg) := by rw [S110]; exact (own_in256 (own_dg_rng _ _))
  obtain ⟨T111, h111, X111, e111, W111, st111⟩ := stI X103 hx hZ e103 Ar110 (j := (own_dg (f1 (0 : Int32)) (xs1.getD (J1).toNatClampNeg 0))) hin110 (g := (mkF m 284 #[s0, .val (.int (2 : Int32)), s2, s3, .val (.ref b4), .val (.int P1), .val (.ref b6), .val (.ref A1), .val (.ref B1), .val (.int J1), .val (.ref r1), .val (.int x103), .val (.int (xs1.getD (J1).toNatClampNeg 0)), .val (.int (0 : Int32)), .val (.long (f1 (0 : Int32))), .second, .unset] [(.int ((S103 (own_dg (f1 (0 : Int32)) (xs1.getD (J1).toNatClampNeg 0))) + (1 : Int32))), (.int (own_dg (f1 (0 : Int32)) (xs1.getD (J1).toNatClampNeg 0))), (.ref r1), (.int (S103 (own_dg (f1 (0 : Int32)) (xs1.getD (J1).toNatClampNeg 0)))), (.int (2 : Int32))])) rfl rfl (hb hby dc0_284)
  have H111 : Iv Z h111 r1 256 (updI S103 (own_dg (f1 (0 : Int32)) (xs1.getD (J1).toNatClampNeg 0)) ((S103 (own_dg (f1 (0 : Int32)) (xs1.getD (J1).toNatClampNeg 0))) + (1 : Int32))) := Iv.set Ar110 S110 H110 hin110 W111
  have N111 := Fr.snoc X111 N103 gr
  have f112 := ((LB.keep K103 (ninS neBr nin0)).other W111 neBr)
  obtain ⟨cl113, Ar113, S113, H113⟩ := id f112
  have hin113 : ¬ (((2 : Int32) * (S103 (own_dg (f1 (0 : Int32)) (xs1.getD (J1).toNatClampNeg 0)))) < 0 ∨ cl113.slots.size ≤ (((2 : Int32) * (S103 (own_dg (f1 (0 : Int32)) (xs1.getD (J1).toNatClampNeg 0))))).toNatClampNeg) := by rw [S113]; exact (own_b0 stp.1)
  obtain ⟨T114, h114, X114, e114, W114, st114⟩ := stJ X111 hx hZ e111 Ar113 (j := ((2 : Int32) * (S103 (own_dg (f1 (0 : Int32)) (xs1.getD (J1).toNatClampNeg 0))))) hin113 (g := (mkF m 294 #[s0, .val (.int (2 : Int32)), s2, s3, .val (.ref b4), .val (.int P1), .val (.ref b6), .val (.ref A1), .val (.ref B1), .val (.int J1), .val (.ref r1), .val (.int x103), .val (.int (xs1.getD (J1).toNatClampNeg 0)), .val (.int (0 : Int32)), .val (.long (f1 (0 : Int32))), .second, .val (.int ((2 : Int32) * (S103 (own_dg (f1 (0 : Int32)) (xs1.getD (J1).toNatClampNeg 0)))))] [(.long (f1 (0 : Int32))), (.int ((2 : Int32) * (S103 (own_dg (f1 (0 : Int32)) (xs1.getD (J1).toNatClampNeg 0))))), (.ref B1)])) rfl rfl (hb hby dc0_294)
  have H114 : Lv Z h114 B1 6 (upd g1 ((2 : Int32) * (S103 (own_dg (f1 (0 : Int32)) (xs1.getD (J1).toNatClampNeg 0)))) (f1 (0 : Int32))) := Lv.set Ar113 S113 H113 hin113 W114
  have N114 := Fr.snoc X114 N111 gB
  have f115 := ((f107.other W111 neAr).other W114 neAB)
  obtain ⟨cl116, Ar116, S116, H116⟩ := id f115
  have hin116 : ¬ ((1 : Int32) < 0 ∨ cl116.slots.size ≤ ((1 : Int32)).toNatClampNeg) := by rw [S116]; exact (by decide)
  have hat116 : cl116.slots[((1 : Int32)).toNatClampNeg]? = some (.long (f1 (1 : Int32))) := H116 _ hin116
  obtain ⟨cl117, Ar117, S117, H117⟩ := id H114
  have hin117 : ¬ ((((2 : Int32) * (S103 (own_dg (f1 (0 : Int32)) (xs1.getD (J1).toNatClampNeg 0)))) + (1 : Int32)) < 0 ∨ cl117.slots.size ≤ ((((2 : Int32) * (S103 (own_dg (f1 (0 : Int32)) (xs1.getD (J1).toNatClampNeg 0)))) + (1 : Int32))).toNatClampNeg) := by rw [S117]; exact (own_b1 stp.1)
  obtain ⟨T118, h118, X118, e118, W118, st118⟩ := stJ X114 hx hZ e114 Ar117 (j := (((2 : Int32) * (S103 (own_dg (f1 (0 : Int32)) (xs1.getD (J1).toNatClampNeg 0)))) + (1 : Int32))) hin117 (g := (mkF m 310 #[s0, .val (.int (2 : Int32)), s2, s3, .val (.ref b4), .val (.int P1), .val (.ref b6), .val (.ref A1), .val (.ref B1), .val (.int J1), .val (.ref r1), .val (.int x103), .val (.int (xs1.getD (J1).toNatClampNeg 0)), .val (.int (0 : Int32)), .val (.long (f1 (0 : Int32))), .second, .val (.int ((2 : Int32) * (S103 (own_dg (f1 (0 : Int32)) (xs1.getD (J1).toNatClampNeg 0)))))] [(.long (f1 (1 : Int32))), (.int (((2 : Int32) * (S103 (own_dg (f1 (0 : Int32)) (xs1.getD (J1).toNatClampNeg 0)))) + (1 : Int32))), (.ref B1)])) rfl rfl (hb hby dc0_310)
  have H118 : Lv Z h118 B1 6 (upd (upd g1 ((2 : Int32) * (S103 (own_dg (f1 (0 : Int32)) (xs1.getD (J1).toNatClampNeg 0)))) (f1 (0 : Int32))) (((2 : Int32) * (S103 (own_dg (f1 (0 : Int32)) (xs1.getD (J1).toNatClampNeg 0)))) + (1 : Int32)) (f1 (1 : Int32))) := Lv.set Ar117 S117 H117 hin117 W118
  have N118 := Fr.snoc X118 N114 gB
  have f119 := (f115.other W118 neAB)
  obtain ⟨cl120, Ar120, S120, H120⟩ := id f119
  have hin120 : ¬ ((2 : Int32) < 0 ∨ cl120.slots.size ≤ ((2 : Int32)).toNatClampNeg) := by rw [S120]; exact (by decide)
  have hat120 : cl120.slots[((2 : Int32)).toNatClampNeg]? = some (.long (f1 (2 : Int32))) := H120 _ hin120
  have f121 := ((H111.other W114 (Ne.symm neBr)).other W118 (Ne.symm neBr))
  obtain ⟨cl122, Ar122, S122, H122⟩ := id f121
  have hin122 : ¬ ((own_dg (f1 (2 : Int32)) (xs1.getD (J1).toNatClampNeg 0)) < 0 ∨ cl122.slots.size ≤ ((own_dg (f1 (2 : Int32)) (xs1.getD (J1).toNatClampNeg 0))).toNatClampNeg) := by rw [S122]; exact (own_in256 (own_dg_rng _ _))
  have hat122 : cl122.slots[((own_dg (f1 (2 : Int32)) (xs1.getD (J1).toNatClampNeg 0))).toNatClampNeg]? = some (.int ((updI S103 (own_dg (f1 (0 : Int32)) (xs1.getD (J1).toNatClampNeg 0)) ((S103 (own_dg (f1 (0 : Int32)) (xs1.getD (J1).toNatClampNeg 0))) + (1 : Int32))) (own_dg (f1 (2 : Int32)) (xs1.getD (J1).toNatClampNeg 0)))) := H122 _ hin122
  obtain ⟨cl123, Ar123, S123, H123⟩ := id f121
  have hin123 : ¬ ((own_dg (f1 (2 : Int32)) (xs1.getD (J1).toNatClampNeg 0)) < 0 ∨ cl123.slots.size ≤ ((own_dg (f1 (2 : Int32)) (xs1.getD (J1).toNatClampNeg 0))).toNatClampNeg) := by rw [S123]; exact (own_in256 (own_dg_rng _ _))
  obtain ⟨T124, h124, X124, e124, W124, st124⟩ := stI X118 hx hZ e118 Ar123 (j := (own_dg (f1 (2 : Int32)) (xs1.getD (J1).toNatClampNeg 0))) hin123 (g := (mkF m 284 #[s0, .val (.int (2 : Int32)), s2, s3, .val (.ref b4), .val (.int P1), .val (.ref b6), .val (.ref A1), .val (.ref B1), .val (.int J1), .val (.ref r1), .val (.int x103), .val (.int (xs1.getD (J1).toNatClampNeg 0)), .val (.int (1 : Int32)), .val (.long (f1 (2 : Int32))), .second, .val (.int ((2 : Int32) * (S103 (own_dg (f1 (0 : Int32)) (xs1.getD (J1).toNatClampNeg 0)))))] [(.int (((updI S103 (own_dg (f1 (0 : Int32)) (xs1.getD (J1).toNatClampNeg 0)) ((S103 (own_dg (f1 (0 : Int32)) (xs1.getD (J1).toNatClampNeg 0))) + (1 : Int32))) (own_dg (f1 (2 : Int32)) (xs1.getD (J1).toNatClampNeg 0))) + (1 : Int32))), (.int (own_dg (f1 (2 : Int32)) (xs1.getD (J1).toNatClampNeg 0))), (.ref r1), (.int ((updI S103 (own_dg (f1 (0 : Int32)) (xs1.getD (J1).toNatClampNeg 0)) ((S103 (own_dg (f1 (0 : Int32)) (xs1.getD (J1).toNatClampNeg 0))) + (1 : Int32))) (own_dg (f1 (2 : Int32)) (xs1.getD (J1).toNatClampNeg 0)))), (.int (2 : Int32))])) rfl rfl (hb hby dc0_284)
  have H124 : Iv Z h124 r1 256 (updI (updI S103 (own_dg (f1 (0 : Int32)) (xs1.getD (J1).toNatClampNeg 0)) ((S103 (own_dg (f1 (0 : Int32)) (xs1.getD (J1).toNatClampNeg 0))) + (1 : Int32))) (own_dg (f1 (2 : Int32)) (xs1.getD (J1).toNatClampNeg 0)) (((updI S103 (own_dg (f1 (0 : Int32)) (xs1.getD (J1).toNatClampNeg 0)) ((S103 (own_dg (f1 (0 : Int32)) (xs1.getD (J1).toNatClampNeg 0))) + (1 : Int32))) (own_dg (f1 (2 : Int32)) (xs1.getD (J1).toNatClampNeg 0))) + (1 : Int32))) := Iv.set Ar123 S123 H123 hin123 W124
  have N124 := Fr.snoc X124 N118 gr
  have f125 := (H118.other W124 neBr)
  obtain ⟨cl126, Ar126, S126, H126⟩ := id f125
  have hin126 : ¬ (((2 : Int32) * ((updI S103 (own_dg (f1 (0 : Int32)) (xs1.getD (J1).toNatClampNeg 0)) ((S103 (own_dg (f1 (0 : Int32)) (xs1.getD (J1).toNatClampNeg 0))) + (1 : Int32))) (own_dg (f1 (2 : Int32)) (xs1.getD (J1).toNatClampNeg 0)))) < 0 ∨ cl126.slots.size ≤ (((2 : Int32) * ((updI S103 (own_dg (f1 (0 : Int32)) (xs1.getD (J1).toNatClampNeg 0)) ((S103 (own_dg (f1 (0 : Int32)) (xs1.getD (J1).toNatClampNeg 0))) + (1 : Int32))) (own_dg (f1 (2 : Int32)) (xs1.getD (J1).toNatClampNeg 0))))).toNatClampNeg) := by rw [S126]; exact (own_b0 stp.2.1)
  obtain ⟨T127, h127, X127, e127, W127, st127⟩ := stJ X124 hx hZ e124 Ar126 (j := ((2 : Int32) * ((updI S103 (own_dg (f1 (0 : Int32)) (xs1.getD (J1).toNatClampNeg 0)) ((S103 (own_dg (f1 (0 : Int32)) (xs1.getD (J1).toNatClampNeg 0))) + (1 : Int32))) (own_dg (f1 (2 : Int32)) (xs1.getD (J1).toNatClampNeg 0))))) hin126 (g := (mkF m 294 #[s0, .val (.int (2 : Int32)), s2, s3, .val (.ref b4), .val (.int P1), .val (.ref b6), .val (.ref A1), .val (.ref B1), .val (.int J1), .val (.ref r1), .val (.int x103), .val (.int (xs1.getD (J1).toNatClampNeg 0)), .val (.int (1 : Int32)), .val (.long (f1 (2 : Int32))), .second, .val (.int ((2 : Int32) * ((updI S103 (own_dg (f1 (0 : Int32)) (xs1.getD (J1).toNatClampNeg 0)) ((S103 (own_dg (f1 (0 : Int32)) (xs1.getD (J1).toNatClampNeg 0))) + (1 : Int32))) (own_dg (f1 (2 : Int32)) (xs1.getD (J1).toNatClampNeg 0)))))] [(.long (f1 (2 : Int32))), (.int ((2 : Int32) * ((updI S103 (own_dg (f1 (0 : Int32)) (xs1.getD (J1).toNatClampNeg 0)) ((S103 (own_dg (f1 (0 : Int32)) (xs1.getD (J1).toNatClampNeg 0))) + (1 : Int32))) (own_dg (f1 (2 : Int32)) (xs1.getD (J1).toNatClampNeg 0))))), (.ref B1)])) rfl rfl (hb hby dc0_294)
  have H127 : Lv Z h127 B1 6 (upd (upd (upd g1 ((2 : Int32) * (S103 (own_dg (f1 (0 : Int32)) (xs1.getD (J1).toNatClampNeg 0)))) (f1 (0 : Int32))) (((2 : Int32) * (S103 (own_dg (f1 (0 : Int32)) (xs1.getD (J1).toNatClampNeg 0)))) + (1 : Int32)) (f1 (1 : Int32))) ((2 : Int32) * ((updI S103 (own_dg (f1 (0 : Int32)) (xs1.getD (J1).toNatClampNeg 0)) ((S103 (own_dg (f1 (0 : Int32)) (xs1.getD (J1).toNatClampNeg 0))) + (1 : Int32))) (own_dg (f1 (2 : Int32)) (xs1.getD (J1).toNatClampNeg 0)))) (f1 (2 : Int32))) := Lv.set Ar126 S126 H126 hin126 W127
  have N127 := Fr.snoc X127 N124 gB
  have f128 := ((f119.other W124 neAr).other W127 neAB)
  obtain ⟨cl129, Ar129, S129, H129⟩ := id f128
  have hin129 : ¬ ((3 : Int32) < 0 ∨ cl129.slots.size ≤ ((3 : Int32)).toNatClampNeg) := by rw [S129]; exact (by decide)
  have hat129 : cl129.slots[((3 : Int32)).toNatClampNeg]? = some (.long (f1 (3 : Int32))) := H129 _ hin129
  obtain ⟨cl130, Ar130, S130, H130⟩ := id H127
  have hin130 : ¬ ((((2 : Int32) * ((updI S103 (own_dg (f1 (0 : Int32)) (xs1.getD (J1).toNatClampNeg 0)) ((S103 (own_dg (f1 (0 : Int32)) (xs1.getD (J1).toNatClampNeg 0))) + (1 : Int32))) (own_dg (f1 (2 : Int32)) (xs1.getD (J1).toNatClampNeg 0)))) + (1 : Int32)) < 0 ∨ cl130.slots.size ≤ ((((2 : Int32) * ((updI S103 (own_dg (f1 (0 : Int32)) (xs1.getD (J1).toNatClampNeg 0)) ((S103 (own_dg (f1 (0 : Int32)) (xs1.getD (J1).toNatClampNeg 0))) + (1 : Int32))) (own_dg (f1 (2 : Int32)) (xs1.getD (J1).toNatClampNeg 0)))) + (1 : Int32))).toNatClampNeg) := by rw [S130]; exact (own_b1 stp.2.1)
  obtain ⟨T131, h131, X131, e131, W131, st131⟩ := stJ X127 hx hZ e127 Ar130 (j := (((2 : Int32) * ((updI S103 (own_dg (f1 (0 : Int32)) (xs1.getD (J1).toNatClampNeg 0)) ((S103 (own_dg (f1 (0 : Int32)) (xs1.getD (J1).toNatClampNeg 0))) + (1 : Int32))) (own_dg (f1 (2 : Int32)) (xs1.getD (J1).toNatClampNeg 0)))) + (1 : Int32))) hin130 (g := (mkF m 310 #[s0, .val (.int (2 : Int32)), s2, s3, .val (.ref b4), .val (.int P1), .val (.ref b6), .val (.ref A1), .val (.ref B1), .val (.int J1), .val (.ref r1), .val (.int x103), .val (.int (xs1.getD (J1).toNatClampNeg 0)), .val (.int (1 : Int32)), .val (.long (f1 (2 : Int32))), .second, .val (.int ((2 : Int32) * ((updI S103 (own_dg (f1 (0 : Int32)) (xs1.getD (J1).toNatClampNeg 0)) ((S103 (own_dg (f1 (0 : Int32)) (xs1.getD (J1).toNatClampNeg 0))) + (1 : Int32))) (own_dg (f1 (2 : Int32)) (xs1.getD (J1).toNatClampNeg 0)))))] [(.long (f1 (3 : Int32))), (.int (((2 : Int32) * ((updI S103 (own_dg (f1 (0 : Int32)) (xs1.getD (J1).toNatClampNeg 0)) ((S103 (own_dg (f1 (0 : Int32)) (xs1.getD (J1).toNatClampNeg 0))) + (1 : Int32))) (own_dg (f1 (2 : Int32)) (xs1.getD (J1).toNatClampNeg 0)))) + (1 : Int32))), (.ref B1)])) rfl rfl (hb hby dc0_310)
  have H131 : Lv Z h131 B1 6 (upd (upd (upd (upd g1 ((2 : Int32) * (S103 (own_dg (f1 (0 : Int32)) (xs1.getD (J1).toNatClampNeg 0)))) (f1 (0 : Int32))) (((2 : Int32) * (S103 (own_dg (f1 (0 : Int32)) (xs1.getD (J1).toNatClampNeg 0)))) + (1 : Int32)) (f1 (1 : Int32))) ((2 : Int32) * ((updI S103 (own_dg (f1 (0 : Int32)) (xs1.getD (J1).toNatClampNeg 0)) ((S103 (own_dg (f1 (0 : Int32)) (xs1.getD (J1).toNatClampNeg 0))) + (1 : Int32))) (own_dg (f1 (2 : Int32)) (xs1.getD (J1).toNatClampNeg 0)))) (f1 (2 : Int32))) (((2 : Int32) * ((updI S103 (own_dg (f1 (0 : Int32)) (xs1.getD (J1).toNatClampNeg 0)) ((S103 (own_dg (f1 (0 : Int32)) (xs1.getD (J1).toNatClampNeg 0))) + (1 : Int32))) (own_dg (f1 (2 : Int32)) (xs1.getD (J1).toNatClampNeg 0)))) + (1 : Int32)) (f1 (3 : Int32))) := Lv.set Ar130 S130 H130 hin130 W131
  have N131 := Fr.snoc X131 N127 gB
  have pre132 : ∀ t, Steps p.tables e below (T131.setTop (mkF m 182 #[s0, .val (.int (2 : Int32)), s2, s3, .val (.ref b4), .val (.int P1), .val (.ref b6), .val (.ref B1), .val (.ref A1), .val (.int (J1 + (1 : Int32))), .val (.ref r1), .val (.int x103), .val (.int (xs1.getD (J1).toNatClampNeg 0)), .val (.ref B1), .val (.long (f1 (2 : Int32))), .second, .val (.int ((2 : Int32) * ((updI S103 (own_dg (f1 (0 : Int32)) (xs1.getD (J1).toNatClampNeg 0)) ((S103 (own_dg (f1 (0 : Int32)) (xs1.getD (J1).toNatClampNeg 0))) + (1 : Int32))) (own_dg (f1 (2 : Int32)) (xs1.getD (J1).toNatClampNeg 0)))))] [])) t → Steps p.tables e below (st0) t := fun t kt => pre103 t (by
      show Steps p.tables e below (T103.setTop (mkF m 202 #[s0, .val (.int (2 : Int32)), s2, s3, .val (.ref b4), .val (.int P1), .val (.ref b6), .val (.ref A1), .val (.ref B1), .val (.int J1), .val (.ref r1), .val (.int x103), .val (.int (256 : Int32)), w103, .unset, .unset, .unset] [])) _
      refine XS.iload X103.here hx rfl (hb hby dc0_202) rfl ?_
      refine XS.aload X103.here hx rfl (hb hby dc0_204) rfl rfl ?_
      refine X103.arraylength hx (by rw [e103]; exact Ar104.1) (State.isArrayOf_alike hZ.alike Ar104.2.1) (g := (mkF m 206 #[s0, .val (.int (2 : Int32)), s2, s3, .val (.ref b4), .val (.int P1), .val (.ref b6), .val (.ref A1), .val (.ref B1), .val (.int J1), .val (.ref r1), .val (.int x103), .val (.int (256 : Int32)), w103, .unset, .unset, .unset] [(.ref r1), (.int (256 : Int32))])) rfl rfl (hb hby dc0_206) _ ?_
      rw [show cl104.slots.size.toInt32 = (256 : Int32) from by rw [S104]; rfl]
      show Steps p.tables e below (T103.setTop (mkF m 207 #[s0, .val (.int (2 : Int32)), s2, s3, .val (.ref b4), .val (.int P1), .val (.ref b6), .val (.ref A1), .val (.ref B1), .val (.int J1), .val (.ref r1), .val (.int x103), .val (.int (256 : Int32)), w103, .unset, .unset, .unset] [(.int (256 : Int32)), (.int (256 : Int32))])) _
      refine XS.icmpYes X103.here hx rfl (pc0 := 207) (pc' := 237) rfl (hb hby dc0_207) rfl (by decide) (by decide) (by decide) ?_
      refine XS.aload X103.here hx rfl (hb hby dc0_237) rfl rfl ?_
      refine XS.iload X103.here hx rfl (hb hby dc0_239) rfl ?_
      refine X103.iaload hx (j := J1) (v := (.int (xs1.getD (J1).toNatClampNeg 0))) (by rw [e103]; exact Ar106.1) (State.isArrayOf_alike hZ.alike Ar106.2.1) Ar106.2.2 hin106 hat106 (g := (mkF m 241 #[s0, .val (.int (2 : Int32)), s2, s3, .val (.ref b4), .val (.int P1), .val (.ref b6), .val (.ref A1), .val (.ref B1), .val (.int J1), .val (.ref r1), .val (.int x103), .val (.int (256 : Int32)), w103, .unset, .unset, .unset] [(.int J1), (.ref b4)])) rfl rfl (hb hby dc0_241) _ ?_
      refine XS.istore X103.here hx rfl (hb hby dc0_242) rfl (l' := #[s0, .val (.int (2 : Int32)), s2, s3, .val (.ref b4), .val (.int P1), .val (.ref b6), .val (.ref A1), .val (.ref B1), .val (.int J1), .val (.ref r1), .val (.int x103), .val (.int (xs1.getD (J1).toNatClampNeg 0)), w103, .unset, .unset, .unset]) rfl ?_
      show Steps p.tables e below (T103.setTop (mkF m 244 #[s0, .val (.int (2 : Int32)), s2, s3, .val (.ref b4), .val (.int P1), .val (.ref b6), .val (.ref A1), .val (.ref B1), .val (.int J1), .val (.ref r1), .val (.int x103), .val (.int (xs1.getD (J1).toNatClampNeg 0)), w103, .unset, .unset, .unset] [])) _
      refine XS.iconst X103.here hx rfl (hb hby dc0_244) ?_
      refine XS.istore X103.here hx rfl (hb hby dc0_245) rfl (l' := #[s0, .val (.int (2 : Int32)), s2, s3, .val (.ref b4), .val (.int P1), .val (.ref b6), .val (.ref A1), .val (.ref B1), .val (.int J1), .val (.ref r1), .val (.int x103), .val (.int (xs1.getD (J1).toNatClampNeg 0)), .val (.int (0 : Int32)), .unset, .unset, .unset]) (os_1 hw103) ?_
      refine XS.iload X103.here hx rfl (hb hby dc0_247) rfl ?_
      refine XS.iloadN X103.here hx rfl (hb hby dc0_249) rfl ?_
      show Steps p.tables e below (T103.setTop (mkF m 250 #[s0, .val (.int (2 : Int32)), s2, s3, .val (.ref b4), .val (.int P1), .val (.ref b6), .val (.ref A1), .val (.ref B1), .val (.int J1), .val (.ref r1), .val (.int x103), .val (.int (xs1.getD (J1).toNatClampNeg 0)), .val (.int (0 : Int32)), .unset, .unset, .unset] [(.int (2 : Int32)), (.int (0 : Int32))])) _
      refine XS.icmpNo X103.here hx rfl (hb hby dc0_250) rfl (by decide) ?_
      show Steps p.tables e below (T103.setTop (mkF m 253 #[s0, .val (.int (2 : Int32)), s2, s3, .val (.ref b4), .val (.int P1), .val (.ref b6), .val (.ref A1), .val (.ref B1), .val (.int J1), .val (.ref r1), .val (.int x103), .val (.int (xs1.getD (J1).toNatClampNeg 0)), .val (.int (0 : Int32)), .unset, .unset, .unset] [])) _
      refine XS.aload X103.here hx rfl (hb hby dc0_253) rfl rfl ?_
      refine XS.iconst X103.here hx rfl (hb hby dc0_255) ?_
      refine XS.iload X103.here hx rfl (hb hby dc0_256) rfl ?_
      refine XS.imul X103.here hx rfl (hb hby dc0_258) rfl ?_
      refine X103.laload hx (j := (0 : Int32)) (v := (.long (f1 (0 : Int32)))) (by rw [e103]; exact Ar108.1) (State.isArrayOf_alike hZ.alike Ar108.2.1) Ar108.2.2 hin108 hat108 (g := (mkF m 259 #[s0, .val (.int (2 : Int32)), s2, s3, .val (.ref b4), .val (.int P1), .val (.ref b6), .val (.ref A1), .val (.ref B1), .val (.int J1), .val (.ref r1), .val (.int x103), .val (.int (xs1.getD (J1).toNatClampNeg 0)), .val (.int (0 : Int32)), .unset, .unset, .unset] [(.int (0 : Int32)), (.ref A1)])) rfl rfl (hb hby dc0_259) _ ?_
      show Steps p.tables e below (T103.setTop (mkF m 260 #[s0, .val (.int (2 : Int32)), s2, s3, .val (.ref b4), .val (.int P1), .val (.ref b6), .val (.ref A1), .val (.ref B1), .val (.int J1), .val (.ref r1), .val (.int x103), .val (.int (xs1.getD (J1).toNatClampNeg 0)), .val (.int (0 : Int32)), .unset, .unset, .unset] [(.long (f1 (0 : Int32)))])) _
      refine XS.lstore X103.here hx rfl (hb hby dc0_260) rfl (l' := #[s0, .val (.int (2 : Int32)), s2, s3, .val (.ref b4), .val (.int P1), .val (.ref b6), .val (.ref A1), .val (.ref B1), .val (.int J1), .val (.ref r1), .val (.int x103), .val (.int (xs1.getD (J1).toNatClampNeg 0)), .val (.int (0 : Int32)), .val (.long (f1 (0 : Int32))), .second, .unset]) rfl ?_
      refine XS.iconst X103.here hx rfl (hb hby dc0_262) ?_
      refine XS.aload X103.here hx rfl (hb hby dc0_263) rfl rfl ?_
      refine XS.lload X103.here hx rfl (hb hby dc0_265) rfl ?_
      refine X103.ldc2Long hx hown (mvT hZ (hw _ (List.mem_of_getElem? (i := 9) rfl))) (g := (mkF m 267 #[s0, .val (.int (2 : Int32)), s2, s3, .val (.ref b4), .val (.int P1), .val (.ref b6), .val (.ref A1), .val (.ref B1), .val (.int J1), .val (.ref r1), .val (.int x103), .val (.int (xs1.getD (J1).toNatClampNeg 0)), .val (.int (0 : Int32)), .val (.long (f1 (0 : Int32))), .second, .unset] [(.long (f1 (0 : Int32))), (.ref r1), (.int (2 : Int32))])) rfl (hb hby dc0_267) _ ?_
      show Steps p.tables e below (T103.setTop (mkF m 270 #[s0, .val (.int (2 : Int32)), s2, s3, .val (.ref b4), .val (.int P1), .val (.ref b6), .val (.ref A1), .val (.ref B1), .val (.int J1), .val (.ref r1), .val (.int x103), .val (.int (xs1.getD (J1).toNatClampNeg 0)), .val (.int (0 : Int32)), .val (.long (f1 (0 : Int32))), .second, .unset] [(.long (-9223372036854775808 : Int64)), (.long (f1 (0 : Int32))), (.ref r1), (.int (2 : Int32))])) _
      refine XS.lxor X103.here hx rfl (hb hby dc0_270) rfl ?_
      refine XS.iload X103.here hx rfl (hb hby dc0_271) rfl ?_
      refine XS.lushr X103.here hx rfl (hb hby dc0_273) rfl ?_
      refine XS.l2i X103.here hx rfl (hb hby dc0_274) rfl ?_
      refine XS.sipush X103.here hx rfl (hb hby dc0_275) ?_
      show Steps p.tables e below (T103.setTop (mkF m 278 #[s0, .val (.int (2 : Int32)), s2, s3, .val (.ref b4), .val (.int P1), .val (.ref b6), .val (.ref A1), .val (.ref B1), .val (.int J1), .val (.ref r1), .val (.int x103), .val (.int (xs1.getD (J1).toNatClampNeg 0)), .val (.int (0 : Int32)), .val (.long (f1 (0 : Int32))), .second, .unset] [(.int (255 : Int32)), (.int (((((f1 (0 : Int32)) ^^^ (-9223372036854775808 : Int64)).toUInt64 >>> ((xs1.getD (J1).toNatClampNeg 0) &&& 0x3f).toInt64.toUInt64).toInt64).toInt32)), (.ref r1), (.int (2 : Int32))])) _
      refine XS.iand X103.here hx rfl (hb hby dc0_278) rfl ?_
      show Steps p.tables e below (T103.setTop (mkF m 279 #[s0, .val (.int (2 : Int32)), s2, s3, .val (.ref b4), .val (.int P1), .val (.ref b6), .val (.ref A1), .val (.ref B1), .val (.int J1), .val (.ref r1), .val (.int x103), .val (.int (xs1.getD (J1).toNatClampNeg 0)), .val (.int (0 : Int32)), .val (.long (f1 (0 : Int32))), .second, .unset] [(.int ((((((f1 (0 : Int32)) ^^^ (-9223372036854775808 : Int64)).toUInt64 >>> ((xs1.getD (J1).toNatClampNeg 0) &&& 0x3f).toInt64.toUInt64).toInt64).toInt32) &&& (255 : Int32))), (.ref r1), (.int (2 : Int32))])) _
      rw [(show ((((((f1 (0 : Int32)) ^^^ (-9223372036854775808 : Int64)).toUInt64 >>> ((xs1.getD (J1).toNatClampNeg 0) &&& 0x3f).toInt64.toUInt64).toInt64).toInt32) &&& (255 : Int32)) = own_dg (f1 (0 : Int32)) (xs1.getD (J1).toNatClampNeg 0) from rfl)]
      jvm_step X103.here [X103.here.top, hx, (hb hby dc0_279), Value.category]
      refine X103.iaload hx (j := (own_dg (f1 (0 : Int32)) (xs1.getD (J1).toNatClampNeg 0))) (v := (.int (S103 (own_dg (f1 (0 : Int32)) (xs1.getD (J1).toNatClampNeg 0))))) (by rw [e103]; exact Ar109.1) (State.isArrayOf_alike hZ.alike Ar109.2.1) Ar109.2.2 hin109 hat109 (g := (mkF m 280 #[s0, .val (.int (2 : Int32)), s2, s3, .val (.ref b4), .val (.int P1), .val (.ref b6), .val (.ref A1), .val (.ref B1), .val (.int J1), .val (.ref r1), .val (.int x103), .val (.int (xs1.getD (J1).toNatClampNeg 0)), .val (.int (0 : Int32)), .val (.long (f1 (0 : Int32))), .second, .unset] [(.int (own_dg (f1 (0 : Int32)) (xs1.getD (J1).toNatClampNeg 0))), (.ref r1), (.int (own_dg (f1 (0 : Int32)) (xs1.getD (J1).toNatClampNeg 0))), (.ref r1), (.int (2 : Int32))])) rfl rfl (hb hby dc0_280) _ ?_
      jvm_step X103.here [X103.here.top, hx, (hb hby dc0_281), Value.category]
      show Steps p.tables e below (T103.setTop (mkF m 282 #[s0, .val (.int (2 : Int32)), s2, s3, .val (.ref b4), .val (.int P1), .val (.ref b6), .val (.ref A1), .val (.ref B1), .val (.int J1), .val (.ref r1), .val (.int x103), .val (.int (xs1.getD (J1).toNatClampNeg 0)), .val (.int (0 : Int32)), .val (.long (f1 (0 : Int32))), .second, .unset] [(.int (S103 (own_dg (f1 (0 : Int32)) (xs1.getD (J1).toNatClampNeg 0)))), (.int (own_dg (f1 (0 : Int32)) (xs1.getD (J1).toNatClampNeg 0))), (.ref r1), (.int (S103 (own_dg (f1 (0 : Int32)) (xs1.getD (J1).toNatClampNeg 0)))), (.int (2 : Int32))])) _
      refine XS.iconst X103.here hx rfl (hb hby dc0_282) ?_
      refine XS.iadd X103.here hx rfl (hb hby dc0_283) rfl ?_
      refine st111 _ ?_
      refine XS.imul X111.here hx rfl (hb hby dc0_285) rfl ?_
      refine XS.istore X111.here hx rfl (hb hby dc0_286) rfl (l' := #[s0, .val (.int (2 : Int32)), s2, s3, .val (.ref b4), .val (.int P1), .val (.ref b6), .val (.ref A1), .val (.ref B1), .val (.int J1), .val (.ref r1), .val (.int x103), .val (.int (xs1.getD (J1).toNatClampNeg 0)), .val (.int (0 : Int32)), .val (.long (f1 (0 : Int32))), .second, .val (.int ((2 : Int32) * (S103 (own_dg (f1 (0 : Int32)) (xs1.getD (J1).toNatClampNeg 0)))))]) rfl ?_
      show Steps p.tables e below (T111.setTop (mkF m 288 #[s0, .val (.int (2 : Int32)), s2, s3, .val (.ref b4), .val (.int P1), .val (.ref b6), .val (.ref A1), .val (.ref B1), .val (.int J1), .val (.ref r1), .val (.int x103), .val (.int (xs1.getD (J1).toNatClampNeg 0)), .val (.int (0 : Int32)), .val (.long (f1 (0 : Int32))), .second, .val (.int ((2 : Int32) * (S103 (own_dg (f1 (0 : Int32)) (xs1.getD (J1).toNatClampNeg 0)))))] [])) _
      refine XS.aload X111.here hx rfl (hb hby dc0_288) rfl rfl ?_
      refine XS.iload X111.here hx rfl (hb hby dc0_290) rfl ?_
      refine XS.lload X111.here hx rfl (hb hby dc0_292) rfl ?_
      refine st114 _ ?_
      refine XS.aload X114.here hx rfl (hb hby dc0_295) rfl rfl ?_
      show Steps p.tables e below (T114.setTop (mkF m 297 #[s0, .val (.int (2 : Int32)), s2, s3, .val (.ref b4), .val (.int P1), .val (.ref b6), .val (.ref A1), .val (.ref B1), .val (.int J1), .val (.ref r1), .val (.int x103), .val (.int (xs1.getD (J1).toNatClampNeg 0)), .val (.int (0 : Int32)), .val (.long (f1 (0 : Int32))), .second, .val (.int ((2 : Int32) * (S103 (own_dg (f1 (0 : Int32)) (xs1.getD (J1).toNatClampNeg 0)))))] [(.ref B1)])) _
      refine XS.iload X114.here hx rfl (hb hby dc0_297) rfl ?_
      refine XS.iconst X114.here hx rfl (hb hby dc0_299) ?_
      refine XS.iadd X114.here hx rfl (hb hby dc0_300) rfl ?_
      refine XS.aload X114.here hx rfl (hb hby dc0_301) rfl rfl ?_
      refine XS.iconst X114.here hx rfl (hb hby dc0_303) ?_
      show Steps p.tables e below (T114.setTop (mkF m 304 #[s0, .val (.int (2 : Int32)), s2, s3, .val (.ref b4), .val (.int P1), .val (.ref b6), .val (.ref A1), .val (.ref B1), .val (.int J1), .val (.ref r1), .val (.int x103), .val (.int (xs1.getD (J1).toNatClampNeg 0)), .val (.int (0 : Int32)), .val (.long (f1 (0 : Int32))), .second, .val (.int ((2 : Int32) * (S103 (own_dg (f1 (0 : Int32)) (xs1.getD (J1).toNatClampNeg 0)))))] [(.int (2 : Int32)), (.ref A1), (.int (((2 : Int32) * (S103 (own_dg (f1 (0 : Int32)) (xs1.getD (J1).toNatClampNeg 0)))) + (1 : Int32))), (.ref B1)])) _
      refine XS.iload X114.here hx rfl (hb hby dc0_304) rfl ?_
      refine XS.imul X114.here hx rfl (hb hby dc0_306) rfl ?_
      refine XS.iconst X114.here hx rfl (hb hby dc0_307) ?_
      refine XS.iadd X114.here hx rfl (hb hby dc0_308) rfl ?_
      refine X114.laload hx (j := (1 : Int32)) (v := (.long (f1 (1 : Int32)))) (by rw [e114]; exact Ar116.1) (State.isArrayOf_alike hZ.alike Ar116.2.1) Ar116.2.2 hin116 hat116 (g := (mkF m 309 #[s0, .val (.int (2 : Int32)), s2, s3, .val (.ref b4), .val (.int P1), .val (.ref b6), .val (.ref A1), .val (.ref B1), .val (.int J1), .val (.ref r1), .val (.int x103), .val (.int (xs1.getD (J1).toNatClampNeg 0)), .val (.int (0 : Int32)), .val (.long (f1 (0 : Int32))), .second, .val (.int ((2 : Int32) * (S103 (own_dg (f1 (0 : Int32)) (xs1.getD (J1).toNatClampNeg 0)))))] [(.int (1 : Int32)), (.ref A1), (.int (((2 : Int32) * (S103 (own_dg (f1 (0 : Int32)) (xs1.getD (J1).toNatClampNeg 0)))) + (1 : Int32))), (.ref B1)])) rfl rfl (hb hby dc0_309) _ ?_
      show Steps p.tables e below (T114.setTop (mkF m 310 #[s0, .val (.int (2 : Int32)), s2, s3, .val (.ref b4), .val (.int P1), .val (.ref b6), .val (.ref A1), .val (.ref B1), .val (.int J1), .val (.ref r1), .val (.int x103), .val (.int (xs1.getD (J1).toNatClampNeg 0)), .val (.int (0 : Int32)), .val (.long (f1 (0 : Int32))), .second, .val (.int ((2 : Int32) * (S103 (own_dg (f1 (0 : Int32)) (xs1.getD (J1).toNatClampNeg 0)))))] [(.long (f1 (1 : Int32))), (.int (((2 : Int32) * (S103 (own_dg (f1 (0 : Int32)) (xs1.getD (J1).toNatClampNeg 0)))) + (1 : Int32))), (.ref B1)])) _
      refine st118 _ ?_
      refine XS.iinc X118.here hx rfl (hb hby dc0_311) rfl (l' := #[s0, .val (.int (2 : Int32)), s2, s3, .val (.ref b4), .val (.int P1), .val (.ref b6), .val (.ref A1), .val (.ref B1), .val (.int J1), .val (.ref r1), .val (.int x103), .val (.int (xs1.getD (J1).toNatClampNeg 0)), .val (.int (1 : Int32)), .val (.long (f1 (0 : Int32))), .second, .val (.int ((2 : Int32) * (S103 (own_dg (f1 (0 : Int32)) (xs1.getD (J1).toNatClampNeg 0)))))]) rfl ?_
      refine XS.goto X118.here hx rfl (pc0 := 314) (pc' := 247) rfl (hb hby dc0_314) (by decide) (by decide) ?_
      refine XS.iload X118.here hx rfl (hb hby dc0_247) rfl ?_
      refine XS.iloadN X118.here hx rfl (hb hby dc0_249) rfl ?_
      show Steps p.tables e below (T118.setTop (mkF m 250 #[s0, .val (.int (2 : Int32)), s2, s3, .val (.ref b4), .val (.int P1), .val (.ref b6), .val (.ref A1), .val (.ref B1), .val (.int J1), .val (.ref r1), .val (.int x103), .val (.int (xs1.getD (J1).toNatClampNeg 0)), .val (.int (1 : Int32)), .val (.long (f1 (0 : Int32))), .second, .val (.int ((2 : Int32) * (S103 (own_dg (f1 (0 : Int32)) (xs1.getD (J1).toNatClampNeg 0)))))] [(.int (2 : Int32)), (.int (1 : Int32))])) _
      refine XS.icmpNo X118.here hx rfl (hb hby dc0_250) rfl (by decide) ?_
      refine XS.aload X118.here hx rfl (hb hby dc0_253) rfl rfl ?_
      refine XS.iconst X118.here hx rfl (hb hby dc0_255) ?_
      refine XS.iload X118.here hx rfl (hb hby dc0_256) rfl ?_
      refine XS.imul X118.here hx rfl (hb hby dc0_258) rfl ?_
      show Steps p.tables e below (T118.setTop (mkF m 259 #[s0, .val (.int (2 : Int32)), s2, s3, .val (.ref b4), .val (.int P1), .val (.ref b6), .val (.ref A1), .val (.ref B1), .val (.int J1), .val (.ref r1), .val (.int x103), .val (.int (xs1.getD (J1).toNatClampNeg 0)), .val (.int (1 : Int32)), .val (.long (f1 (0 : Int32))), .second, .val (.int ((2 : Int32) * (S103 (own_dg (f1 (0 : Int32)) (xs1.getD (J1).toNatClampNeg 0)))))] [(.int (2 : Int32)), (.ref A1)])) _
      refine X118.laload hx (j := (2 : Int32)) (v := (.long (f1 (2 : Int32)))) (by rw [e118]; exact Ar120.1) (State.isArrayOf_alike hZ.alike Ar120.2.1) Ar120.2.2 hin120 hat120 (g := (mkF m 259 #[s0, .val (.int (2 : Int32)), s2, s3, .val (.ref b4), .val (.int P1), .val (.ref b6), .val (.ref A1), .val (.ref B1), .val (.int J1), .val (.ref r1), .val (.int x103), .val (.int (xs1.getD (J1).toNatClampNeg 0)), .val (.int (1 : Int32)), .val (.long (f1 (0 : Int32))), .second, .val (.int ((2 : Int32) * (S103 (own_dg (f1 (0 : Int32)) (xs1.getD (J1).toNatClampNeg 0)))))] [(.int (2 : Int32)), (.ref A1)])) rfl rfl (hb hby dc0_259) _ ?_
      refine XS.lstore X118.here hx rfl (hb hby dc0_260) rfl (l' := #[s0, .val (.int (2 : Int32)), s2, s3, .val (.ref b4), .val (.int P1), .val (.ref b6), .val (.ref A1), .val (.ref B1), .val (.int J1), .val (.ref r1), .val (.int x103), .val (.int (xs1.getD (J1).toNatClampNeg 0)), .val (.int (1 : Int32)), .val (.long (f1 (2 : Int32))), .second, .val (.int ((2 : Int32) * (S103 (own_dg (f1 (0 : Int32)) (xs1.getD (J1).toNatClampNeg 0)))))]) rfl ?_
      refine XS.iconst X118.here hx rfl (hb hby dc0_262) ?_
      refine XS.aload X118.here hx rfl (hb hby dc0_263) rfl rfl ?_
      refine XS.lload X118.here hx rfl (hb hby dc0_265) rfl ?_
      show Steps p.tables e below (T118.setTop (mkF m 267 #[s0, .val (.int (2 : Int32)), s2, s3, .val (.ref b4), .val (.int P1), .val (.ref b6), .val (.ref A1), .val (.ref B1), .val (.int J1), .val (.ref r1), .val (.int x103), .val (.int (xs1.getD (J1).toNatClampNeg 0)), .val (.int (1 : Int32)), .val (.long (f1 (2 : Int32))), .second, .val (.int ((2 : Int32) * (S103 (own_dg (f1 (0 : Int32)) (xs1.getD (J1).toNatClampNeg 0)))))] [(.long (f1 (2 : Int32))), (.ref r1), (.int (2 : Int32))])) _
      refine X118.ldc2Long hx hown (mvT hZ (hw _ (List.mem_of_getElem? (i := 9) rfl))) (g := (mkF m 267 #[s0, .val (.int (2 : Int32)), s2, s3, .val (.ref b4), .val (.int P1), .val (.ref b6), .val (.ref A1), .val (.ref B1), .val (.int J1), .val (.ref r1), .val (.int x103), .val (.int (xs1.getD (J1).toNatClampNeg 0)), .val (.int (1 : Int32)), .val (.long (f1 (2 : Int32))), .second, .val (.int ((2 : Int32) * (S103 (own_dg (f1 (0 : Int32)) (xs1.getD (J1).toNatClampNeg 0)))))] [(.long (f1 (2 : Int32))), (.ref r1), (.int (2 : Int32))])) rfl (hb hby dc0_267) _ ?_
      refine XS.lxor X118.here hx rfl (hb hby dc0_270) rfl ?_
      refine XS.iload X118.here hx rfl (hb hby dc0_271) rfl ?_
      refine XS.lushr X118.here hx rfl (hb hby dc0_273) rfl ?_
      refine XS.l2i X118.here hx rfl (hb hby dc0_274) rfl ?_
      show Steps p.tables e below (T118.setTop (mkF m 275 #[s0, .val (.int (2 : Int32)), s2, s3, .val (.ref b4), .val (.int P1), .val (.ref b6), .val (.ref A1), .val (.ref B1), .val (.int J1), .val (.ref r1), .val (.int x103), .val (.int (xs1.getD (J1).toNatClampNeg 0)), .val (.int (1 : Int32)), .val (.long (f1 (2 : Int32))), .second, .val (.int ((2 : Int32) * (S103 (own_dg (f1 (0 : Int32)) (xs1.getD (J1).toNatClampNeg 0)))))] [(.int (((((f1 (2 : Int32)) ^^^ (-9223372036854775808 : Int64)).toUInt64 >>> ((xs1.getD (J1).toNatClampNeg 0) &&& 0x3f).toInt64.toUInt64).toInt64).toInt32)), (.ref r1), (.int (2 : Int32))])) _
      refine XS.sipush X118.here hx rfl (hb hby dc0_275) ?_
      refine XS.iand X118.here hx rfl (hb hby dc0_278) rfl ?_
      show Steps p.tables e below (T118.setTop (mkF m 279 #[s0, .val (.int (2 : Int32)), s2, s3, .val (.ref b4), .val (.int P1), .val (.ref b6), .val (.ref A1), .val (.ref B1), .val (.int J1), .val (.ref r1), .val (.int x103), .val (.int (xs1.getD (J1).toNatClampNeg 0)), .val (.int (1 : Int32)), .val (.long (f1 (2 : Int32))), .second, .val (.int ((2 : Int32) * (S103 (own_dg (f1 (0 : Int32)) (xs1.getD (J1).toNatClampNeg 0)))))] [(.int ((((((f1 (2 : Int32)) ^^^ (-9223372036854775808 : Int64)).toUInt64 >>> ((xs1.getD (J1).toNatClampNeg 0) &&& 0x3f).toInt64.toUInt64).toInt64).toInt32) &&& (255 : Int32))), (.ref r1), (.int (2 : Int32))])) _
      rw [(show ((((((f1 (2 : Int32)) ^^^ (-9223372036854775808 : Int64)).toUInt64 >>> ((xs1.getD (J1).toNatClampNeg 0) &&& 0x3f).toInt64.toUInt64).toInt64).toInt32) &&& (255 : Int32)) = own_dg (f1 (2 : Int32)) (xs1.getD (J1).toNatClampNeg 0) from rfl)]
      jvm_step X118.here [X118.here.top, hx, (hb hby dc0_279), Value.category]
      refine X118.iaload hx (j := (own_dg (f1 (2 : Int32)) (xs1.getD (J1).toNatClampNeg 0))) (v := (.int ((updI S103 (own_dg (f1 (0 : Int32)) (xs1.getD (J1).toNatClampNeg 0)) ((S103 (own_dg (f1 (0 : Int32)) (xs1.getD (J1).toNatClampNeg 0))) + (1 : Int32))) (own_dg (f1 (2 : Int32)) (xs1.getD (J1).toNatClampNeg 0))))) (by rw [e118]; exact Ar122.1) (State.isArrayOf_alike hZ.alike Ar122.2.1) Ar122.2.2 hin122 hat122 (g := (mkF m 280 #[s0, .val (.int (2 : Int32)), s2, s3, .val (.ref b4), .val (.int P1), .val (.ref b6), .val (.ref A1), .val (.ref B1), .val (.int J1), .val (.ref r1), .val (.int x103), .val (.int (xs1.getD (J1).toNatClampNeg 0)), .val (.int (1 : Int32)), .val (.long (f1 (2 : Int32))), .second, .val (.int ((2 : Int32) * (S103 (own_dg (f1 (0 : Int32)) (xs1.getD (J1).toNatClampNeg 0)))))] [(.int (own_dg (f1 (2 : Int32)) (xs1.getD (J1).toNatClampNeg 0))), (.ref r1), (.int (own_dg (f1 (2 : Int32)) (xs1.getD (J1).toNatClampNeg 0))), (.ref r1), (.int (2 : Int32))])) rfl rfl (hb hby dc0_280) _ ?_
      show Steps p.tables e below (T118.setTop (mkF m 281 #[s0, .val (.int (2 : Int32)), s2, s3, .val (.ref b4), .val (.int P1), .val (.ref b6), .val (.ref A1), .val (.ref B1), .val (.int J1), .val (.ref r1), .val (.int x103), .val (.int (xs1.getD (J1).toNatClampNeg 0)), .val (.int (1 : Int32)), .val (.long (f1 (2 : Int32))), .second, .val (.int ((2 : Int32) * (S103 (own_dg (f1 (0 : Int32)) (xs1.getD (J1).toNatClampNeg 0)))))] [(.int ((updI S103 (own_dg (f1 (0 : Int32)) (xs1.getD (J1).toNatClampNeg 0)) ((S103 (own_dg (f1 (0 : Int32)) (xs1.getD (J1).toNatClampNeg 0))) + (1 : Int32))) (own_dg (f1 (2 : Int32)) (xs1.getD (J1).toNatClampNeg 0)))), (.int (own_dg (f1 (2 : Int32)) (xs1.getD (J1).toNatClampNeg 0))), (.ref r1), (.int (2 : Int32))])) _
      jvm_step X118.here [X118.here.top, hx, (hb hby dc0_281), Value.category]
      refine XS.iconst X118.here hx rfl (hb hby dc0_282) ?_
      refine XS.iadd X118.here hx rfl (hb hby dc0_283) rfl ?_
      refine st124 _ ?_
      refine XS.imul X124.here hx rfl (hb hby dc0_285) rfl ?_
      show Steps p.tables e below (T124.setTop (mkF m 286 #[s0, .val (.int (2 : Int32)), s2, s3, .val (.ref b4), .val (.int P1), .val (.ref b6), .val (.ref A1), .val (.ref B1), .val (.int J1), .val (.ref r1), .val (.int x103), .val (.int (xs1.getD (J1).toNatClampNeg 0)), .val (.int (1 : Int32)), .val (.long (f1 (2 : Int32))), .second, .val (.int ((2 : Int32) * (S103 (own_dg (f1 (0 : Int32)) (xs1.getD (J1).toNatClampNeg 0)))))] [(.int ((2 : Int32) * ((updI S103 (own_dg (f1 (0 : Int32)) (xs1.getD (J1).toNatClampNeg 0)) ((S103 (own_dg (f1 (0 : Int32)) (xs1.getD (J1).toNatClampNeg 0))) + (1 : Int32))) (own_dg (f1 (2 : Int32)) (xs1.getD (J1).toNatClampNeg 0)))))])) _
      refine XS.istore X124.here hx rfl (hb hby dc0_286) rfl (l' := #[s0, .val (.int (2 : Int32)), s2, s3, .val (.ref b4), .val (.int P1), .val (.ref b6), .val (.ref A1), .val (.ref B1), .val (.int J1), .val (.ref r1), .val (.int x103), .val (.int (xs1.getD (J1).toNatClampNeg 0)), .val (.int (1 : Int32)), .val (.long (f1 (2 : Int32))), .second, .val (.int ((2 : Int32) * ((updI S103 (own_dg (f1 (0 : Int32)) (xs1.getD (J1).toNatClampNeg 0)) ((S103 (own_dg (f1 (0 : Int32)) (xs1.getD (J1).toNatClampNeg 0))) + (1 : Int32))) (own_dg (f1 (2 : Int32)) (xs1.getD (J1).toNatClampNeg 0)))))]) rfl ?_
      refine XS.aload X124.here hx rfl (hb hby dc0_288) rfl rfl ?_
      refine XS.iload X124.here hx rfl (hb hby dc0_290) rfl ?_
      refine XS.lload X124.here hx rfl (hb hby dc0_292) rfl ?_
      refine st127 _ ?_
      show Steps p.tables e below (T127.setTop (mkF m 295 #[s0, .val (.int (2 : Int32)), s2, s3, .val (.ref b4), .val (.int P1), .val (.ref b6), .val (.ref A1), .val (.ref B1), .val (.int J1), .val (.ref r1), .val (.int x103), .val (.int (xs1.getD (J1).toNatClampNeg 0)), .val (.int (1 : Int32)), .val (.long (f1 (2 : Int32))), .second, .val (.int ((2 : Int32) * ((updI S103 (own_dg (f1 (0 : Int32)) (xs1.getD (J1).toNatClampNeg 0)) ((S103 (own_dg (f1 (0 : Int32)) (xs1.getD (J1).toNatClampNeg 0))) + (1 : Int32))) (own_dg (f1 (2 : Int32)) (xs1.getD (J1).toNatClampNeg 0)))))] [])) _
      refine XS.aload X127.here hx rfl (hb hby dc0_295) rfl rfl ?_
      refine XS.iload X127.here hx rfl (hb hby dc0_297) rfl ?_
      refine XS.iconst X127.here hx rfl (hb hby dc0_299) ?_
      refine XS.iadd X127.here hx rfl (hb hby dc0_300) rfl ?_
      refine XS.aload X127.here hx rfl (hb hby dc0_301) rfl rfl ?_
      show Steps p.tables e below (T127.setTop (mkF m 303 #[s0, .val (.int (2 : Int32)), s2, s3, .val (.ref b4), .val (.int P1), .val (.ref b6), .val (.ref A1), .val (.ref B1), .val (.int J1), .val (.ref r1), .val (.int x103), .val (.int (xs1.getD (J1).toNatClampNeg 0)), .val (.int (1 : Int32)), .val (.long (f1 (2 : Int32))), .second, .val (.int ((2 : Int32) * ((updI S103 (own_dg (f1 (0 : Int32)) (xs1.getD (J1).toNatClampNeg 0)) ((S103 (own_dg (f1 (0 : Int32)) (xs1.getD (J1).toNatClampNeg 0))) + (1 : Int32))) (own_dg (f1 (2 : Int32)) (xs1.getD (J1).toNatClampNeg 0)))))] [(.ref A1), (.int (((2 : Int32) * ((updI S103 (own_dg (f1 (0 : Int32)) (xs1.getD (J1).toNatClampNeg 0)) ((S103 (own_dg (f1 (0 : Int32)) (xs1.getD (J1).toNatClampNeg 0))) + (1 : Int32))) (own_dg (f1 (2 : Int32)) (xs1.getD (J1).toNatClampNeg 0)))) + (1 : Int32))), (.ref B1)])) _
      refine XS.iconst X127.here hx rfl (hb hby dc0_303) ?_
      refine XS.iload X127.here hx rfl (hb hby dc0_304) rfl ?_
      refine XS.imul X127.here hx rfl (hb hby dc0_306) rfl ?_
      refine XS.iconst X127.here hx rfl (hb hby dc0_307) ?_
      refine XS.iadd X127.here hx rfl (hb hby dc0_308) rfl ?_
      show Steps p.tables e below (T127.setTop (mkF m 309 #[s0, .val (.int (2 : Int32)), s2, s3, .val (.ref b4), .val (.int P1), .val (.ref b6), .val (.ref A1), .val (.ref B1), .val (.int J1), .val (.ref r1), .val (.int x103), .val (.int (xs1.getD (J1).toNatClampNeg 0)), .val (.int (1 : Int32)), .val (.long (f1 (2 : Int32))), .second, .val (.int ((2 : Int32) * ((updI S103 (own_dg (f1 (0 : Int32)) (xs1.getD (J1).toNatClampNeg 0)) ((S103 (own_dg (f1 (0 : Int32)) (xs1.getD (J1).toNatClampNeg 0))) + (1 : Int32))) (own_dg (f1 (2 : Int32)) (xs1.getD (J1).toNatClampNeg 0)))))] [(.int (3 : Int32)), (.ref A1), (.int (((2 : Int32) * ((updI S103 (own_dg (f1 (0 : Int32)) (xs1.getD (J1).toNatClampNeg 0)) ((S103 (own_dg (f1 (0 : Int32)) (xs1.getD (J1).toNatClampNeg 0))) + (1 : Int32))) (own_dg (f1 (2 : Int32)) (xs1.getD (J1).toNatClampNeg 0)))) + (1 : Int32))), (.ref B1)])) _
      refine X127.laload hx (j := (3 : Int32)) (v := (.long (f1 (3 : Int32)))) (by rw [e127]; exact Ar129.1) (State.isArrayOf_alike hZ.alike Ar129.2.1) Ar129.2.2 hin129 hat129 (g := (mkF m 309 #[s0, .val (.int (2 : Int32)), s2, s3, .val (.ref b4), .val (.int P1), .val (.ref b6), .val (.ref A1), .val (.ref B1), .val (.int J1), .val (.ref r1), .val (.int x103), .val (.int (xs1.getD (J1).toNatClampNeg 0)), .val (.int (1 : Int32)), .val (.long (f1 (2 : Int32))), .second, .val (.int ((2 : Int32) * ((updI S103 (own_dg (f1 (0 : Int32)) (xs1.getD (J1).toNatClampNeg 0)) ((S103 (own_dg (f1 (0 : Int32)) (xs1.getD (J1).toNatClampNeg 0))) + (1 : Int32))) (own_dg (f1 (2 : Int32)) (xs1.getD (J1).toNatClampNeg 0)))))] [(.int (3 : Int32)), (.ref A1), (.int (((2 : Int32) * ((updI S103 (own_dg (f1 (0 : Int32)) (xs1.getD (J1).toNatClampNeg 0)) ((S103 (own_dg (f1 (0 : Int32)) (xs1.getD (J1).toNatClampNeg 0))) + (1 : Int32))) (own_dg (f1 (2 : Int32)) (xs1.getD (J1).toNatClampNeg 0)))) + (1 : Int32))), (.ref B1)])) rfl rfl (hb hby dc0_309) _ ?_
      refine st131 _ ?_
      refine XS.iinc X131.here hx rfl (hb hby dc0_311) rfl (l' := #[s0, .val (.int (2 : Int32)), s2, s3, .val (.ref b4), .val (.int P1), .val (.ref b6), .val (.ref A1), .val (.ref B1), .val (.int J1), .val (.ref r1), .val (.int x103), .val (.int (xs1.getD (J1).toNatClampNeg 0)), .val (.int (2 : Int32)), .val (.long (f1 (2 : Int32))), .second, .val (.int ((2 : Int32) * ((updI S103 (own_dg (f1 (0 : Int32)) (xs1.getD (J1).toNatClampNeg 0)) ((S103 (own_dg (f1 (0 : Int32)) (xs1.getD (J1).toNatClampNeg 0))) + (1 : Int32))) (own_dg (f1 (2 : Int32)) (xs1.getD (J1).toNatClampNeg 0)))))]) rfl ?_
      refine XS.goto X131.here hx rfl (pc0 := 314) (pc' := 247) rfl (hb hby dc0_314) (by decide) (by decide) ?_
      refine XS.iload X131.here hx rfl (hb hby dc0_247) rfl ?_
      show Steps p.tables e below (T131.setTop (mkF m 249 #[s0, .val (.int (2 : Int32)), s2, s3, .val (.ref b4), .val (.int P1), .val (.ref b6), .val (.ref A1), .val (.ref B1), .val (.int J1), .val (.ref r1), .val (.int x103), .val (.int (xs1.getD (J1).toNatClampNeg 0)), .val (.int (2 : Int32)), .val (.long (f1 (2 : Int32))), .second, .val (.int ((2 : Int32) * ((updI S103 (own_dg (f1 (0 : Int32)) (xs1.getD (J1).toNatClampNeg 0)) ((S103 (own_dg (f1 (0 : Int32)) (xs1.getD (J1).toNatClampNeg 0))) + (1 : Int32))) (own_dg (f1 (2 : Int32)) (xs1.getD (J1).toNatClampNeg 0)))))] [(.int (2 : Int32))])) _
      refine XS.iloadN X131.here hx rfl (hb hby dc0_249) rfl ?_
      show Steps p.tables e below (T131.setTop (mkF m 250 #[s0, .val (.int (2 : Int32)), s2, s3, .val (.ref b4), .val (.int P1), .val (.ref b6), .val (.ref A1), .val (.ref B1), .val (.int J1), .val (.ref r1), .val (.int x103), .val (.int (xs1.getD (J1).toNatClampNeg 0)), .val (.int (2 : Int32)), .val (.long (f1 (2 : Int32))), .second, .val (.int ((2 : Int32) * ((updI S103 (own_dg (f1 (0 : Int32)) (xs1.getD (J1).toNatClampNeg 0)) ((S103 (own_dg (f1 (0 : Int32)) (xs1.getD (J1).toNatClampNeg 0))) + (1 : Int32))) (own_dg (f1 (2 : Int32)) (xs1.getD (J1).toNatClampNeg 0)))))] [(.int (2 : Int32)), (.int (2 : Int32))])) _
      refine XS.icmpYes X131.here hx rfl (pc0 := 250) (pc' := 317) rfl (hb hby dc0_250) rfl (by decide) (by decide) (by decide) ?_
      refine XS.aload X131.here hx rfl (hb hby dc0_317) rfl rfl ?_
      refine XS.astore X131.here hx rfl (hb hby dc0_319) rfl rfl (l' := #[s0, .val (.int (2 : Int32)), s2, s3, .val (.ref b4), .val (.int P1), .val (.ref b6), .val (.ref A1), .val (.ref B1), .val (.int J1), .val (.ref r1), .val (.int x103), .val (.int (xs1.getD (J1).toNatClampNeg 0)), .val (.ref B1), .val (.long (f1 (2 : Int32))), .second, .val (.int ((2 : Int32) * ((updI S103 (own_dg (f1 (0 : Int32)) (xs1.getD (J1).toNatClampNeg 0)) ((S103 (own_dg (f1 (0 : Int32)) (xs1.getD (J1).toNatClampNeg 0))) + (1 : Int32))) (own_dg (f1 (2 : Int32)) (xs1.getD (J1).toNatClampNeg 0)))))]) rfl ?_
      refine XS.aload X131.here hx rfl (hb hby dc0_321) rfl rfl ?_
      show Steps p.tables e below (T131.setTop (mkF m 323 #[s0, .val (.int (2 : Int32)), s2, s3, .val (.ref b4), .val (.int P1), .val (.ref b6), .val (.ref A1), .val (.ref B1), .val (.int J1), .val (.ref r1), .val (.int x103), .val (.int (xs1.getD (J1).toNatClampNeg 0)), .val (.ref B1), .val (.long (f1 (2 : Int32))), .second, .val (.int ((2 : Int32) * ((updI S103 (own_dg (f1 (0 : Int32)) (xs1.getD (J1).toNatClampNeg 0)) ((S103 (own_dg (f1 (0 : Int32)) (xs1.getD (J1).toNatClampNeg 0))) + (1 : Int32))) (own_dg (f1 (2 : Int32)) (xs1.getD (J1).toNatClampNeg 0)))))] [(.ref A1)])) _
      refine XS.astore X131.here hx rfl (hb hby dc0_323) rfl rfl (l' := #[s0, .val (.int (2 : Int32)), s2, s3, .val (.ref b4), .val (.int P1), .val (.ref b6), .val (.ref A1), .val (.ref A1), .val (.int J1), .val (.ref r1), .val (.int x103), .val (.int (xs1.getD (J1).toNatClampNeg 0)), .val (.ref B1), .val (.long (f1 (2 : Int32))), .second, .val (.int ((2 : Int32) * ((updI S103 (own_dg (f1 (0 : Int32)) (xs1.getD (J1).toNatClampNeg 0)) ((S103 (own_dg (f1 (0 : Int32)) (xs1.getD (J1).toNatClampNeg 0))) + (1 : Int32))) (own_dg (f1 (2 : Int32)) (xs1.getD (J1).toNatClampNeg 0)))))]) rfl ?_
      refine XS.aload X131.here hx rfl (hb hby dc0_325) rfl rfl ?_
      refine XS.astore X131.here hx rfl (hb hby dc0_327) rfl rfl (l' := #[s0, .val (.int (2 : Int32)), s2, s3, .val (.ref b4), .val (.int P1), .val (.ref b6), .val (.ref B1), .val (.ref A1), .val (.int J1), .val (.ref r1), .val (.int x103), .val (.int (xs1.getD (J1).toNatClampNeg 0)), .val (.ref B1), .val (.long (f1 (2 : Int32))), .second, .val (.int ((2 : Int32) * ((updI S103 (own_dg (f1 (0 : Int32)) (xs1.getD (J1).toNatClampNeg 0)) ((S103 (own_dg (f1 (0 : Int32)) (xs1.getD (J1).toNatClampNeg 0))) + (1 : Int32))) (own_dg (f1 (2 : Int32)) (xs1.getD (J1).toNatClampNeg 0)))))]) rfl ?_
      refine XS.iinc X131.here hx rfl (hb hby dc0_329) rfl (l' := #[s0, .val (.int (2 : Int32)), s2, s3, .val (.ref b4), .val (.int P1), .val (.ref b6), .val (.ref B1), .val (.ref A1), .val (.int (J1 + (1 : Int32))), .val (.ref r1), .val (.int x103), .val (.int (xs1.getD (J1).toNatClampNeg 0)), .val (.ref B1), .val (.long (f1 (2 : Int32))), .second, .val (.int ((2 : Int32) * ((updI S103 (own_dg (f1 (0 : Int32)) (xs1.getD (J1).toNatClampNeg 0)) ((S103 (own_dg (f1 (0 : Int32)) (xs1.getD (J1).toNatClampNeg 0))) + (1 : Int32))) (own_dg (f1 (2 : Int32)) (xs1.getD (J1).toNatClampNeg 0)))))]) rfl ?_
      refine XS.goto X131.here hx rfl (pc0 := 332) (pc' := 182) rfl (hb hby dc0_332) (by decide) (by decide) ?_
      exact kt)
  have K133 : Keep h0 h131 [r1, B1] := (Keep.wr (Keep.wr (Keep.wr (Keep.wr (Keep.wr (Keep.wr (Keep.trans (Keep.refl h0 [r1, B1]) K103 (allS (P := fun x => x ∈ [r1, B1] ∨ h0.size ≤ x) (Or.inl (List.mem_of_getElem? (i := 0) rfl)) all0)) W111 (Or.inl (List.mem_of_getElem? (i := 0) rfl))) W114 (Or.inl (List.mem_of_getElem? (i := 1) rfl))) W118 (Or.inl (List.mem_of_getElem? (i := 1) rfl))) W124 (Or.inl (List.mem_of_getElem? (i := 0) rfl))) W127 (Or.inl (List.mem_of_getElem? (i := 1) rfl))) W131 (Or.inl (List.mem_of_getElem? (i := 1) rfl)))
  have f134 := ((((((f105.other W111 ne4r).other W114 ne4B).other W118 ne4B).other W124 ne4r).other W127 ne4B).other W131 ne4B)
  have f135 := (f128.other W131 neAB)
  have f136 := ((H124.other W127 (Ne.symm neBr)).other W131 (Ne.symm neBr))
  have O137 : Old Z n0 h131 := ((((((O103.wr W111 gr).wr W114 gB).wr W118 gB).wr W124 gr).wr W127 gB).wr W131 gB)
  exact ⟨_, _, _, (.val (.ref r1)), (.val (.int x103)), (.val (.int (xs1.getD (J1).toNatClampNeg 0))), (.val (.ref B1)), (.val (.long (f1 (2 : Int32)))), .second, (.val (.int ((2 : Int32) * ((updI S103 (own_dg (f1 (0 : Int32)) (xs1.getD (J1).toNatClampNeg 0)) ((S103 (own_dg (f1 (0 : Int32)) (xs1.getD (J1).toNatClampNeg 0))) + (1 : Int32))) (own_dg (f1 (2 : Int32)) (xs1.getD (J1).toNatClampNeg 0)))))), Or.inr ⟨_, _, _, _, _, _, rfl, rfl, rfl, rfl, rfl, rfl, rfl⟩, ⟨_, _, X131, e131, N131, O137, pre132⟩, f134, Gd.upd G6 (by omega) K133 (allS (Or.inl er) (allS (Or.inr hB) all0)) (er ▸ f136), f135, H131, fun i hi => if_neg hi, stp.2.2⟩
theorem os_2 {s0 : Slot} {z1 : Value} {s2 : Slot} {s3 : Slot} {z4 : Value} {z5 : Value} {z6 : Value} {z7 : Value} {z8 : Value} {z9 : Value} {z10 : Value} {z11 : Value} {z12 : Value} {s13 : Slot} {z14 : Value} {z16 : Value} {v : Int32} (h : One s13) : storeLocals #[s0, .val z1, s2, s3, .val z4, .val z5, .val z6, .val z7, .val z8, .val z9, .val z10, .val z11, .val z12, s13, .val z14, .second, .val z16] 13 (.int v) = some #[s0, .val z1, s2, s3, .val z4, .val z5, .val z6, .val z7, .val z8, .val z9, .val z10, .val z11, .val z12, .val (.int v), .val z14, .second, .val z16] := by
  rcases h with rfl | ⟨w, rfl, hw⟩
  · rfl
  · cases w <;> first | rfl | (simp [Value.category] at hw)
set_option maxRecDepth 65536 in
set_option maxHeartbeats 40000000 in
theorem ps2b {p : Program} {l : Launch} {e : Env} {R : Room} {s : State} {m : MethodId} {args : Array Value} {below : List Frame} {meth : Method} {c : Code} {Z : State} {a0 : Array Value} {n0 : Nat} {cells slots : Nat} {st0 : State} (hx : p.tables.exec = Jvm.exec) (hZ : Z.Warmed39 s.vm) (hw : ∀ d ∈ tables_1, d.before a0 Z = true) (hby : c.code = prog_98_method_19_code) (hml : c.maxLocals = 17) (hown : s.vm.findClass "com/example/keyfold/keyfold/SortedRows" = some m.cls) {h0 : Heap} (s0 s2 s3 : Slot) (b4 b6 q1 A1 B1 : Nat) (P1 J1 : Int32) (xs1 : List Int32) (f1 g1 : Int32 → Int64) (cc1 : Nat → Int32 → Int32) (k0 k1 w0 : Int64) (d1 : Nat) (r10 : Addr) (i11 i12 : Int32) (r13 : Addr) (k14 : Int64) (i16 : Int32) (G0 : Rc p l e R s m args below meth c n0 Z cells slots st0 (mkF m 182 #[s0, .val (.int (2 : Int32)), s2, s3, .val (.ref b4), .val (.int P1), .val (.ref b6), .val (.ref A1), .val (.ref B1), .val (.int J1), .val (.ref r10), .val (.int i11), .val (.int i12), .val (.ref r13), .val (.long k14), .second, .val (.int i16)] []) h0) (A4 : La Z h0 b4 .int (8 : Int32) xs1) (G6 : Gd Z h0 b6 q1 P1 cc1) (LA : Lv Z h0 A1 6 f1) (LB : Lv Z h0 B1 6 g1) (neAB : A1 ≠ B1) (hq : q1 = b6 + 1) (hA : A1 < b6 ∨ q1 + P1.toNatClampNeg ≤ A1) (hB : B1 < b6 ∨ q1 + P1.toNatClampNeg ≤ B1) (h4 : b4 < b6) (ne4B : b4 ≠ B1) (gB : n0 ≤ B1) (g6 : n0 ≤ b6) (hJ : ¬ J1 < 0 ∧ J1 < P1) (hP8 : P1.toInt ≤ 8) (hcc : cc1 J1.toNatClampNeg = own_C2 k0 k1 (xs1.getD (J1).toNatClampNeg 0)) (ok : Ok2 k0 k1 w0 d1 f1) (hd : d1 < 8) (hsh : (xs1.getD (J1).toNatClampNeg 0).toInt = 8 * (d1 : Int)) :
    ∃ (h' : Heap) (f' : Int32 → Int64) (cc' : Nat → Int32 → Int32) (u10 u11 u12 u13 u14 u15 u16 : Slot), Tl u10 u11 u12 u13 u14 u15 u16 ∧ Rc p l e R s m args below meth c n0 Z cells slots st0 (mkF m 182 #[s0, .val (.int (2 : Int32)), s2, s3, .val (.ref b4), .val (.int P1), .val (.ref b6), .val (.ref B1), .val (.ref A1), .val (.int (J1 + (1 : Int32))), u10, u11, u12, u13, u14, u15, u16] []) h' ∧ La Z h' b4 .int (8 : Int32) xs1 ∧ Gd Z h' b6 q1 P1 cc' ∧ Lv Z h' A1 6 f1 ∧ Lv Z h' B1 6 f' ∧ (∀ i, i ≠ J1.toNatClampNeg → cc' i = cc1 i) ∧ Ok2 k0 k1 w0 (d1 + 1) f' := by
  obtain ⟨T0, L0, X0, e0, N0, O0, pre0⟩ := G0
  obtain ⟨r1, er⟩ : ∃ r : Nat, r = q1 + J1.toNatClampNeg := ⟨_, rfl⟩
  have ne4r : b4 ≠ r1 := by omega
  have gr : n0 ≤ r1 := by omega
  have neAr : A1 ≠ r1 := by have := own_jn hJ; omega
  have neBr : B1 ≠ r1 := by have := own_jn hJ; omega
  have I1 : Iv Z h0 r1 256 (own_C2 k0 k1 (xs1.getD (J1).toNatClampNeg 0)) := by rw [← hcc, er]; exact G6.2 _ (own_jn hJ)
  obtain ⟨cl101, Ar101, hin101, hat101⟩ := Gd.at (J := J1) G6 hJ
  rw [← er] at hat101
  have pre102 : ∀ t, Steps p.tables e below (T0.setTop (mkF m 202 #[s0, .val (.int (2 : Int32)), s2, s3, .val (.ref b4), .val (.int P1), .val (.ref b6), .val (.ref A1), .val (.ref B1), .val (.int J1), .val (.ref r1), .val (.int (0 : Int32)), .val (.int (0 : Int32)), .val (.ref r13), .val (.long k14), .second, .val (.int i16)] [])) t → Steps p.tables e below (st0) t := fun t kt => pre0 t (by
      show Steps p.tables e below (T0.setTop (mkF m 182 #[s0, .val (.int (2 : Int32)), s2, s3, .val (.ref b4), .val (.int P1), .val (.ref b6), .val (.ref A1), .val (.ref B1), .val (.int J1), .val (.ref r10), .val (.int i11), .val (.int i12), .val (.ref r13), .val (.long k14), .second, .val (.int i16)] [])) _
      refine XS.iload X0.here hx rfl (hb hby dc0_182) rfl ?_
      refine XS.iload X0.here hx rfl (hb hby dc0_184) rfl ?_
      show Steps p.tables e below (T0.setTop (mkF m 186 #[s0, .val (.int (2 : Int32)), s2, s3, .val (.ref b4), .val (.int P1), .val (.ref b6), .val (.ref A1), .val (.ref B1), .val (.int J1), .val (.ref r10), .val (.int i11), .val (.int i12), .val (.ref r13), .val (.long k14), .second, .val (.int i16)] [(.int P1), (.int J1)])) _
      refine XS.icmpNo X0.here hx rfl (hb hby dc0_186) rfl (tlt hJ.2).2.1 ?_
      refine XS.aload X0.here hx rfl (hb hby dc0_189) rfl rfl ?_
      show Steps p.tables e below (T0.setTop (mkF m 191 #[s0, .val (.int (2 : Int32)), s2, s3, .val (.ref b4), .val (.int P1), .val (.ref b6), .val (.ref A1), .val (.ref B1), .val (.int J1), .val (.ref r10), .val (.int i11), .val (.int i12), .val (.ref r13), .val (.long k14), .second, .val (.int i16)] [(.ref b6)])) _
      refine XS.iload X0.here hx rfl (hb hby dc0_191) rfl ?_
      refine X0.aaload hx (j := J1) (v := (.ref r1)) (by rw [e0]; exact Ar101.1) (State.isArrayOf_alike hZ.alike Ar101.2.1) rfl Ar101.2.2 hin101 hat101 (g := (mkF m 193 #[s0, .val (.int (2 : Int32)), s2, s3, .val (.ref b4), .val (.int P1), .val (.ref b6), .val (.ref A1), .val (.ref B1), .val (.int J1), .val (.ref r10), .val (.int i11), .val (.int i12), .val (.ref r13), .val (.long k14), .second, .val (.int i16)] [(.int J1), (.ref b6)])) rfl rfl (hb hby dc0_193) _ ?_
      refine XS.astore X0.here hx rfl (hb hby dc0_194) rfl rfl (l' := #[s0, .val (.int (2 : Int32)), s2, s3, .val (.ref b4), .val (.int P1), .val (.ref b6), .val (.ref A1), .val (.ref B1), .val (.int J1), .val (.ref r1), .val (.int i11), .val (.int i12), .val (.ref r13), .val (.long k14), .second, .val (.int i16)]) rfl ?_
      refine XS.iconst X0.here hx rfl (hb hby dc0_196) ?_
      refine XS.istore X0.here hx rfl (hb hby dc0_197) rfl (l' := #[s0, .val (.int (2 : Int32)), s2, s3, .val (.ref b4), .val (.int P1), .val (.ref b6), .val (.ref A1), .val (.ref B1), .val (.int J1), .val (.ref r1), .val (.int (0 : Int32)), .val (.int i12), .val (.ref r13), .val (.long k14), .second, .val (.int i16)]) rfl ?_
      show Steps p.tables e below (T0.setTop (mkF m 199 #[s0, .val (.int (2 : Int32)), s2, s3, .val (.ref b4), .val (.int P1), .val (.ref b6), .val (.ref A1), .val (.ref B1), .val (.int J1), .val (.ref r1), .val (.int (0 : Int32)), .val (.int i12), .val (.ref r13), .val (.long k14), .second, .val (.int i16)] [])) _
      refine XS.iconst X0.here hx rfl (hb hby dc0_199) ?_
      refine XS.istore X0.here hx rfl (hb hby dc0_200) rfl (l' := #[s0, .val (.int (2 : Int32)), s2, s3, .val (.ref b4), .val (.int P1), .val (.ref b6), .val (.ref A1), .val (.ref B1), .val (.int J1), .val (.ref r1), .val (.int (0 : Int32)), .val (.int (0 : Int32)), .val (.ref r13), .val (.long k14), .second, .val (.int i16)]) rfl ?_
      exact kt)
  obtain ⟨h103, x103, S103, w103, G103, K103, hw103, I103, hS103⟩ := prL hx hZ hw hby hml hown (s0) (.val (.int (2 : Int32))) (s2) (s3) (.val (.ref b4)) (.val (.int P1)) (.val (.ref b6)) (.val (.ref A1)) (.val (.ref B1)) (.val (.int J1)) (.val (.long k14)) (.second) (.val (.int i16)) r1 (own_C2 k0 k1 (xs1.getD (J1).toNatClampNeg 0)) gr 256 h0 (0 : Int32) (0 : Int32) (own_C2 k0 k1 (xs1.getD (J1).toNatClampNeg 0)) (.val (.ref r13)) 0 (by omega) rfl rfl (fun j a b => by omega) (fun j a => rfl) (One.val rfl) I1 ⟨_, _, X0, e0, N0, O0, pre102⟩
  obtain ⟨T103, L103, X103, e103, N103, O103, pre103⟩ := G103
  have stp := own_step2 (g := g1) hd hsh ok hS103
  obtain ⟨cl104, Ar104, S104, -⟩ := id I103
  have f105 := (A4.keep K103 (ninS ne4r nin0))
  obtain ⟨cl106, Ar106, hin106, hat106⟩ := La.at (j := J1) f105 (own_J8 hJ hP8)
  have f107 := (LA.keep K103 (ninS neAr nin0))
  obtain ⟨cl108, Ar108, S108, H108⟩ := id f107
  have hin108 : ¬ ((0 : Int32) < 0 ∨ cl108.slots.size ≤ ((0 : Int32)).toNatClampNeg) := by rw [S108]; exact (by decide)
  have hat108 : cl108.slots[((0 : Int32)).toNatClampNeg]? = some (.long (f1 (0 : Int32))) := H108 _ hin108
  obtain ⟨cl109, Ar109, S109, H109⟩ := id I103
  have hin109 : ¬ ((own_dg (f1 (0 : Int32)) (xs1.getD (J1).toNatClampNeg 0)) < 0 ∨ cl109.slots.size ≤ ((own_dg (f1 (0 : Int32)) (xs1.getD (J1).toNatClampNeg 0))).toNatClampNeg) := by rw [S109]; exact (own_in256 (own_dg_rng _ _))
  have hat109 : cl109.slots[((own_dg (f1 (0 : Int32)) (xs1.getD (J1).toNatClampNeg 0))).toNatClampNeg]? = some (.int (S103 (own_dg (f1 (0 : Int32)) (xs1.getD (J1).toNatClampNeg 0)))) := H109 _ hin109
  obtain ⟨cl110, Ar110, S110, H110⟩ := id I103
  have hin110 : ¬ ((own_dg (f1 (0 : Int32)) (xs1.getD (J1).toNatClampNeg 0)) < 0 ∨ cl110.slots.size ≤ ((own_dg (f1 (0 : Int32)) (xs1.getD (J1).toNatClampNeg 0))).toNatClampNeg) := by rw [S110]; exact (own_in256 (own_dg_rng _ _))
  obtain ⟨T111, h111, X111, e111, W111, st111⟩ := stI X103 hx hZ e103 Ar110 (j := (own_dg (f1 (0 : Int32)) (xs1.getD (J1).toNatClampNeg 0))) hin110 (g := (mkF m 284 #[s0, .val (.int (2 : Int32)), s2, s3, .val (.ref b4), .val (.int P1), .val (.ref b6), .val (.ref A1), .val (.ref B1), .val (.int J1), .val (.ref r1), .val (.int x103), .val (.int (xs1.getD (J1).toNatClampNeg 0)), .val (.int (0 : Int32)), .val (.long (f1 (0 : Int32))), .second, .val (.int i16)] [(.int ((S103 (own_dg (f1 (0 : Int32)) (xs1.getD (J1).toNatClampNeg 0))) + (1 : Int32))), (.int (own_dg (f1 (0 : Int32)) (xs1.getD (J1).toNatClampNeg 0))), (.ref r1), (.int (S103 (own_dg (f1 (0 : Int32)) (xs1.getD (J1).toNatClampNeg 0)))), (.int (2 : Int32))])) rfl rfl (hb hby dc0_284)
  have H111 : Iv Z h111 r1 256 (updI S103 (own_dg (f1 (0 : Int32)) (xs1.getD (J1).toNatClampNeg 0)) ((S103 (own_dg (f1 (0 : Int32)) (xs1.getD (J1).toNatClampNeg 0))) + (1 : Int32))) := Iv.set Ar110 S110 H110 hin110 W111
  have N111 := Fr.snoc X111 N103 gr
  have f112 := ((LB.keep K103 (ninS neBr nin0)).other W111 neBr)
  obtain ⟨cl113, Ar113, S113, H113⟩ := id f112
  have hin113 : ¬ (((2 : Int32) * (S103 (own_dg (f1 (0 : Int32)) (xs1.getD (J1).toNatClampNeg 0)))) < 0 ∨ cl113.slots.size ≤ (((2 : Int32) * (S103 (own_dg (f1 (0 : Int32)) (xs1.getD (J1).toNatClampNeg 0))))).toNatClampNeg) := by rw [S113]; exact (own_b0 stp.1)
  obtain ⟨T114, h114, X114, e114, W114, st114⟩ := stJ X111 hx hZ e111 Ar113 (j := ((2 : Int32) * (S103 (own_dg (f1 (0 : Int32)) (xs1.getD (J1).toNatClampNeg 0))))) hin113 (g := (mkF m 294 #[s0, .val (.int (2 : Int32)), s2, s3, .val (.ref b4), .val (.int P1), .val (.ref b6), .val (.ref A1), .val (.ref B1), .val (.int J1), .val (.ref r1), .val (.int x103), .val (.int (xs1.getD (J1).toNatClampNeg 0)), .val (.int (0 : Int32)), .val (.long (f1 (0 : Int32))), .second, .val (.int ((2 : Int32) * (S103 (own_dg (f1 (0 : Int32)) (xs1.getD (J1).toNatClampNeg 0)))))] [(.long (f1 (0 : Int32))), (.int ((2 : Int32) * (S103 (own_dg (f1 (0 : Int32)) (xs1.getD (J1).toNatClampNeg 0))))), (.ref B1)])) rfl rfl (hb hby dc0_294)
  have H114 : Lv Z h114 B1 6 (upd g1 ((2 : Int32) * (S103 (own_dg (f1 (0 : Int32)) (xs1.getD (J1).toNatClampNeg 0)))) (f1 (0 : Int32))) := Lv.set Ar113 S113 H113 hin113 W114
  have N114 := Fr.snoc X114 N111 gB
  have f115 := ((f107.other W111 neAr).other W114 neAB)
  obtain ⟨cl116, Ar116, S116, H116⟩ := id f115
  have hin116 : ¬ ((1 : Int32) < 0 ∨ cl116.slots.size ≤ ((1 : Int32)).toNatClampNeg) := by rw [S116]; exact (by decide)
  have hat116 : cl116.slots[((1 : Int32)).toNatClampNeg]? = some (.long (f1 (1 : Int32))) := H116 _ hin116
  obtain ⟨cl117, Ar117, S117, H117⟩ := id H114
  have hin117 : ¬ ((((2 : Int32) * (S103 (own_dg (f1 (0 : Int32)) (xs1.getD (J1).toNatClampNeg 0)))) + (1 : Int32)) < 0 ∨ cl117.slots.size ≤ ((((2 : Int32) * (S103 (own_dg (f1 (0 : Int32)) (xs1.getD (J1).toNatClampNeg 0)))) + (1 : Int32))).toNatClampNeg) := by rw [S117]; exact (own_b1 stp.1)
  obtain ⟨T118, h118, X118, e118, W118, st118⟩ := stJ X114 hx hZ e114 Ar117 (j := (((2 : Int32) * (S103 (own_dg (f1 (0 : Int32)) (xs1.getD (J1).toNatClampNeg 0)))) + (1 : Int32))) hin117 (g := (mkF m 310 #[s0, .val (.int (2 : Int32)), s2, s3, .val (.ref b4), .val (.int P1), .val (.ref b6), .val (.ref A1), .val (.ref B1), .val (.int J1), .val (.ref r1), .val (.int x103), .val (.int (xs1.getD (J1).toNatClampNeg 0)), .val (.int (0 : Int32)), .val (.long (f1 (0 : Int32))), .second, .val (.int ((2 : Int32) * (S103 (own_dg (f1 (0 : Int32)) (xs1.getD (J1).toNatClampNeg 0)))))] [(.long (f1 (1 : Int32))), (.int (((2 : Int32) * (S103 (own_dg (f1 (0 : Int32)) (xs1.getD (J1).toNatClampNeg 0)))) + (1 : Int32))), (.ref B1)])) rfl rfl (hb hby dc0_310)
  have H118 : Lv Z h118 B1 6 (upd (upd g1 ((2 : Int32) * (S103 (own_dg (f1 (0 : Int32)) (xs1.getD (J1).toNatClampNeg 0)))) (f1 (0 : Int32))) (((2 : Int32) * (S103 (own_dg (f1 (0 : Int32)) (xs1.getD (J1).toNatClampNeg 0)))) + (1 : Int32)) (f1 (1 : Int32))) := Lv.set Ar117 S117 H117 hin117 W118
  have N118 := Fr.snoc X118 N114 gB
  have f119 := (f115.other W118 neAB)
  obtain ⟨cl120, Ar120, S120, H120⟩ := id f119
  have hin120 : ¬ ((2 : Int32) < 0 ∨ cl120.slots.size ≤ ((2 : Int32)).toNatClampNeg) := by rw [S120]; exact (by decide)
  have hat120 : cl120.slots[((2 : Int32)).toNatClampNeg]? = some (.long (f1 (2 : Int32))) := H120 _ hin120
  have f121 := ((H111.other W114 (Ne.symm neBr)).other W118 (Ne.symm neBr))
  obtain ⟨cl122, Ar122, S122, H122⟩ := id f121
  have hin122 : ¬ ((own_dg (f1 (2 : Int32)) (xs1.getD (J1).toNatClampNeg 0)) < 0 ∨ cl122.slots.size ≤ ((own_dg (f1 (2 : Int32)) (xs1.getD (J1).toNatClampNeg 0))).toNatClampNeg) := by rw [S122]; exact (own_in256 (own_dg_rng _ _))
  have hat122 : cl122.slots[((own_dg (f1 (2 : Int32)) (xs1.getD (J1).toNatClampNeg 0))).toNatClampNeg]? = some (.int ((updI S103 (own_dg (f1 (0 : Int32)) (xs1.getD (J1).toNatClampNeg 0)) ((S103 (own_dg (f1 (0 : Int32)) (xs1.getD (J1).toNatClampNeg 0))) + (1 : Int32))) (own_dg (f1 (2 : Int32)) (xs1.getD (J1).toNatClampNeg 0)))) := H122 _ hin122
  obtain ⟨cl123, Ar123, S123, H123⟩ := id f121
  have hin123 : ¬ ((own_dg (f1 (2 : Int32)) (xs1.getD (J1).toNatClampNeg 0)) < 0 ∨ cl123.slots.size ≤ ((own_dg (f1 (2 : Int32)) (xs1.getD (J1).toNatClampNeg 0))).toNatClampNeg) := by rw [S123]; exact (own_in256 (own_dg_rng _ _))
  obtain ⟨T124, h124, X124, e124, W124, st124⟩ := stI X118 hx hZ e118 Ar123 (j := (own_dg (f1 (2 : Int32)) (xs1.getD (J1).toNatClampNeg 0))) hin123 (g := (mkF m 284 #[s0, .val (.int (2 : Int32)), s2, s3, .val (.ref b4), .val (.int P1), .val (.ref b6), .val (.ref A1), .val (.ref B1), .val (.int J1), .val (.ref r1), .val (.int x103), .val (.int (xs1.getD (J1).toNatClampNeg 0)), .val (.int (1 : Int32)), .val (.long (f1 (2 : Int32))), .second, .val (.int ((2 : Int32) * (S103 (own_dg (f1 (0 : Int32)) (xs1.getD (J1).toNatClampNeg 0)))))] [(.int (((updI S103 (own_dg (f1 (0 : Int32)) (xs1.getD (J1).toNatClampNeg 0)) ((S103 (own_dg (f1 (0 : Int32)) (xs1.getD (J1).toNatClampNeg 0))) + (1 : Int32))) (own_dg (f1 (2 : Int32)) (xs1.getD (J1).toNatClampNeg 0))) + (1 : Int32))), (.int (own_dg (f1 (2 : Int32)) (xs1.getD (J1).toNatClampNeg 0))), (.ref r1), (.int ((updI S103 (own_dg (f1 (0 : Int32)) (xs1.getD (J1).toNatClampNeg 0)) ((S103 (own_dg (f1 (0 : Int32)) (xs1.getD (J1).toNatClampNeg 0))) + (1 : Int32))) (own_dg (f1 (2 : Int32)) (xs1.getD (J1).toNatClampNeg 0)))), (.int (2 : Int32))])) rfl rfl (hb hby dc0_284)
  have H124 : Iv Z h124 r1 256 (updI (updI S103 (own_dg (f1 (0 : Int32)) (xs1.getD (J1).toNatClampNeg 0)) ((S103 (own_dg (f1 (0 : Int32)) (xs1.getD (J1).toNatClampNeg 0))) + (1 : Int32))) (own_dg (f1 (2 : Int32)) (xs1.getD (J1).toNatClampNeg 0)) (((updI S103 (own_dg (f1 (0 : Int32)) (xs1.getD (J1).toNatClampNeg 0)) ((S103 (own_dg (f1 (0 : Int32)) (xs1.getD (J1).toNatClampNeg 0))) + (1 : Int32))) (own_dg (f1 (2 : Int32)) (xs1.getD (J1).toNatClampNeg 0))) + (1 : Int32))) := Iv.set Ar123 S123 H123 hin123 W124
  have N124 := Fr.snoc X124 N118 gr
  have f125 := (H118.other W124 neBr)
  obtain ⟨cl126, Ar126, S126, H126⟩ := id f125
  have hin126 : ¬ (((2 : Int32) * ((updI S103 (own_dg (f1 (0 : Int32)) (xs1.getD (J1).toNatClampNeg 0)) ((S103 (own_dg (f1 (0 : Int32)) (xs1.getD (J1).toNatClampNeg 0))) + (1 : Int32))) (own_dg (f1 (2 : Int32)) (xs1.getD (J1).toNatClampNeg 0)))) < 0 ∨ cl126.slots.size ≤ (((2 : Int32) * ((updI S103 (own_dg (f1 (0 : Int32)) (xs1.getD (J1).toNatClampNeg 0)) ((S103 (own_dg (f1 (0 : Int32)) (xs1.getD (J1).toNatClampNeg 0))) + (1 : Int32))) (own_dg (f1 (2 : Int32)) (xs1.getD (J1).toNatClampNeg 0))))).toNatClampNeg) := by rw [S126]; exact (own_b0 stp.2.1)
  obtain ⟨T127, h127, X127, e127, W127, st127⟩ := stJ X124 hx hZ e124 Ar126 (j := ((2 : Int32) * ((updI S103 (own_dg (f1 (0 : Int32)) (xs1.getD (J1).toNatClampNeg 0)) ((S103 (own_dg (f1 (0 : Int32)) (xs1.getD (J1).toNatClampNeg 0))) + (1 : Int32))) (own_dg (f1 (2 : Int32)) (xs1.getD (J1).toNatClampNeg 0))))) hin126 (g := (mkF m 294 #[s0, .val (.int (2 : Int32)), s2, s3, .val (.ref b4), .val (.int P1), .val (.ref b6), .val (.ref A1), .val (.ref B1), .val (.int J1), .val (.ref r1), .val (.int x103), .val (.int (xs1.getD (J1).toNatClampNeg 0)), .val (.int (1 : Int32)), .val (.long (f1 (2 : Int32))), .second, .val (.int ((2 : Int32) * ((updI S103 (own_dg (f1 (0 : Int32)) (xs1.getD (J1).toNatClampNeg 0)) ((S103 (own_dg (f1 (0 : Int32)) (xs1.getD (J1).toNatClampNeg 0))) + (1 : Int32))) (own_dg (f1 (2 : Int32)) (xs1.getD (J1).toNatClampNeg 0)))))] [(.long (f1 (2 : Int32))), (.int ((2 : Int32) * ((updI S103 (own_dg (f1 (0 : Int32)) (xs1.getD (J1).toNatClampNeg 0)) ((S103 (own_dg (f1 (0 : Int32)) (xs1.getD (J1).toNatClampNeg 0))) + (1 : Int32))) (own_dg (f1 (2 : Int32)) (xs1.getD (J1).toNatClampNeg 0))))), (.ref B1)])) rfl rfl (hb hby dc0_294)
  have H127 : Lv Z h127 B1 6 (upd (upd (upd g1 ((2 : Int32) * (S103 (own_dg (f1 (0 : Int32)) (xs1.getD (J1).toNatClampNeg 0)))) (f1 (0 : Int32))) (((2 : Int32) * (S103 (own_dg (f1 (0 : Int32)) (xs1.getD (J1).toNatClampNeg 0)))) + (1 : Int32)) (f1 (1 : Int32))) ((2 : Int32) * ((updI S103 (own_dg (f1 (0 : Int32)) (xs1.getD (J1).toNatClampNeg 0)) ((S103 (own_dg (f1 (0 : Int32)) (xs1.getD (J1).toNatClampNeg 0))) + (1 : Int32))) (own_dg (f1 (2 : Int32)) (xs1.getD (J1).toNatClampNeg 0)))) (f1 (2 : Int32))) := Lv.set Ar126 S126 H126 hin126 W127
  have N127 := Fr.snoc X127 N124 gB
  have f128 := ((f119.other W124 neAr).other W127 neAB)
  obtain ⟨cl129, Ar129, S129, H129⟩ := id f128
  have hin129 : ¬ ((3 : Int32) < 0 ∨ cl129.slots.size ≤ ((3 : Int32)).toNatClampNeg) := by rw [S129]; exact (by decide)
  have hat129 : cl129.slots[((3 : Int32)).toNatClampNeg]? = some (.long (f1 (3 : Int32))) := H129 _ hin129
  obtain ⟨cl130, Ar130, S130, H130⟩ := id H127
  have hin130 : ¬ ((((2 : Int32) * ((updI S103 (own_dg (f1 (0 : Int32)) (xs1.getD (J1).toNatClampNeg 0)) ((S103 (own_dg (f1 (0 : Int32)) (xs1.getD (J1).toNatClampNeg 0))) + (1 : Int32))) (own_dg (f1 (2 : Int32)) (xs1.getD (J1).toNatClampNeg 0)))) + (1 : Int32)) < 0 ∨ cl130.slots.size ≤ ((((2 : Int32) * ((updI S103 (own_dg (f1 (0 : Int32)) (xs1.getD (J1).toNatClampNeg 0)) ((S103 (own_dg (f1 (0 : Int32)) (xs1.getD (J1).toNatClampNeg 0))) + (1 : Int32))) (own_dg (f1 (2 : Int32)) (xs1.getD (J1).toNatClampNeg 0)))) + (1 : Int32))).toNatClampNeg) := by rw [S130]; exact (own_b1 stp.2.1)
  obtain ⟨T131, h131, X131, e131, W131, st131⟩ := stJ X127 hx hZ e127 Ar130 (j := (((2 : Int32) * ((updI S103 (own_dg (f1 (0 : Int32)) (xs1.getD (J1).toNatClampNeg 0)) ((S103 (own_dg (f1 (0 : Int32)) (xs1.getD (J1).toNatClampNeg 0))) + (1 : Int32))) (own_dg (f1 (2 : Int32)) (xs1.getD (J1).toNatClampNeg 0)))) + (1 : Int32))) hin130 (g := (mkF m 310 #[s0, .val (.int (2 : Int32)), s2, s3, .val (.ref b4), .val (.int P1), .val (.ref b6), .val (.ref A1), .val (.ref B1), .val (.int J1), .val (.ref r1), .val (.int x103), .val (.int (xs1.getD (J1).toNatClampNeg 0)), .val (.int (1 : Int32)), .val (.long (f1 (2 : Int32))), .second, .val (.int ((2 : Int32) * ((updI S103 (own_dg (f1 (0 : Int32)) (xs1.getD (J1).toNatClampNeg 0)) ((S103 (own_dg (f1 (0 : Int32)) (xs1.getD (J1).toNatClampNeg 0))) + (1 : Int32))) (own_dg (f1 (2 : Int32)) (xs1.getD (J1).toNatClampNeg 0)))))] [(.long (f1 (3 : Int32))), (.int (((2 : Int32) * ((updI S103 (own_dg (f1 (0 : Int32)) (xs1.getD (J1).toNatClampNeg 0)) ((S103 (own_dg (f1 (0 : Int32)) (xs1.getD (J1).toNatClampNeg 0))) + (1 : Int32))) (own_dg (f1 (2 : Int32)) (xs1.getD (J1).toNatClampNeg 0)))) + (1 : Int32))), (.ref B1)])) rfl rfl (hb hby dc0_310)
  have H131 : Lv Z h131 B1 6 (upd (upd (upd (upd g1 ((2 : Int32) * (S103 (own_dg (f1 (0 : Int32)) (xs1.getD (J1).toNatClampNeg 0)))) (f1 (0 : Int32))) (((2 : Int32) * (S103 (own_dg (f1 (0 : Int32)) (xs1.getD (J1).toNatClampNeg 0)))) + (1 : Int32)) (f1 (1 : Int32))) ((2 : Int32) * ((updI S103 (own_dg (f1 (0 : Int32)) (xs1.getD (J1).toNatClampNeg 0)) ((S103 (own_dg (f1 (0 : Int32)) (xs1.getD (J1).toNatClampNeg 0))) + (1 : Int32))) (own_dg (f1 (2 : Int32)) (xs1.getD (J1).toNatClampNeg 0)))) (f1 (2 : Int32))) (((2 : Int32) * ((updI S103 (own_dg (f1 (0 : Int32)) (xs1.getD (J1).toNatClampNeg 0)) ((S103 (own_dg (f1 (0 : Int32)) (xs1.getD (J1).toNatClampNeg 0))) + (1 : Int32))) (own_dg (f1 (2 : Int32)) (xs1.getD (J1).toNatClampNeg 0)))) + (1 : Int32)) (f1 (3 : Int32))) := Lv.set Ar130 S130 H130 hin130 W131
  have N131 := Fr.snoc X131 N127 gB
  have pre132 : ∀ t, Steps p.tables e below (T131.setTop (mkF m 182 #[s0, .val (.int (2 : Int32)), s2, s3, .val (.ref b4), .val (.int P1), .val (.ref b6), .val (.ref B1), .val (.ref A1), .val (.int (J1 + (1 : Int32))), .val (.ref r1), .val (.int x103), .val (.int (xs1.getD (J1).toNatClampNeg 0)), .val (.ref B1), .val (.long (f1 (2 : Int32))), .second, .val (.int ((2 : Int32) * ((updI S103 (own_dg (f1 (0 : Int32)) (xs1.getD (J1).toNatClampNeg 0)) ((S103 (own_dg (f1 (0 : Int32)) (xs1.getD (J1).toNatClampNeg 0))) + (1 : Int32))) (own_dg (f1 (2 : Int32)) (xs1.getD (J1).toNatClampNeg 0)))))] [])) t → Steps p.tables e below (st0) t := fun t kt => pre103 t (by
      show Steps p.tables e below (T103.setTop (mkF m 202 #[s0, .val (.int (2 : Int32)), s2, s3, .val (.ref b4), .val (.int P1), .val (.ref b6), .val (.ref A1), .val (.ref B1), .val (.int J1), .val (.ref r1), .val (.int x103), .val (.int (256 : Int32)), w103, .val (.long k14), .second, .val (.int i16)] [])) _
      refine XS.iload X103.here hx rfl (hb hby dc0_202) rfl ?_
      refine XS.aload X103.here hx rfl (hb hby dc0_204) rfl rfl ?_
      refine X103.arraylength hx (by rw [e103]; exact Ar104.1) (State.isArrayOf_alike hZ.alike Ar104.2.1) (g := (mkF m 206 #[s0, .val (.int (2 : Int32)), s2, s3, .val (.ref b4), .val (.int P1), .val (.ref b6), .val (.ref A1), .val (.ref B1), .val (.int J1), .val (.ref r1), .val (.int x103), .val (.int (256 : Int32)), w103, .val (.long k14), .second, .val (.int i16)] [(.ref r1), (.int (256 : Int32))])) rfl rfl (hb hby dc0_206) _ ?_
      rw [show cl104.slots.size.toInt32 = (256 : Int32) from by rw [S104]; rfl]
      show Steps p.tables e below (T103.setTop (mkF m 207 #[s0, .val (.int (2 : Int32)), s2, s3, .val (.ref b4), .val (.int P1), .val (.ref b6), .val (.ref A1), .val (.ref B1), .val (.int J1), .val (.ref r1), .val (.int x103), .val (.int (256 : Int32)), w103, .val (.long k14), .second, .val (.int i16)] [(.int (256 : Int32)), (.int (256 : Int32))])) _
      refine XS.icmpYes X103.here hx rfl (pc0 := 207) (pc' := 237) rfl (hb hby dc0_207) rfl (by decide) (by decide) (by decide) ?_
      refine XS.aload X103.here hx rfl (hb hby dc0_237) rfl rfl ?_
      refine XS.iload X103.here hx rfl (hb hby dc0_239) rfl ?_
      refine X103.iaload hx (j := J1) (v := (.int (xs1.getD (J1).toNatClampNeg 0))) (by rw [e103]; exact Ar106.1) (State.isArrayOf_alike hZ.alike Ar106.2.1) Ar106.2.2 hin106 hat106 (g := (mkF m 241 #[s0, .val (.int (2 : Int32)), s2, s3, .val (.ref b4), .val (.int P1), .val (.ref b6), .val (.ref A1), .val (.ref B1), .val (.int J1), .val (.ref r1), .val (.int x103), .val (.int (256 : Int32)), w103, .val (.long k14), .second, .val (.int i16)] [(.int J1), (.ref b4)])) rfl rfl (hb hby dc0_241) _ ?_
      refine XS.istore X103.here hx rfl (hb hby dc0_242) rfl (l' := #[s0, .val (.int (2 : Int32)), s2, s3, .val (.ref b4), .val (.int P1), .val (.ref b6), .val (.ref A1), .val (.ref B1), .val (.int J1), .val (.ref r1), .val (.int x103), .val (.int (xs1.getD (J1).toNatClampNeg 0)), w103, .val (.long k14), .second, .val (.int i16)]) rfl ?_
      show Steps p.tables e below (T103.setTop (mkF m 244 #[s0, .val (.int (2 : Int32)), s2, s3, .val (.ref b4), .val (.int P1), .val (.ref b6), .val (.ref A1), .val (.ref B1), .val (.int J1), .val (.ref r1), .val (.int x103), .val (.int (xs1.getD (J1).toNatClampNeg 0)), w103, .val (.long k14), .second, .val (.int i16)] [])) _
      refine XS.iconst X103.here hx rfl (hb hby dc0_244) ?_
      refine XS.istore X103.here hx rfl (hb hby dc0_245) rfl (l' := #[s0, .val (.int (2 : Int32)), s2, s3, .val (.ref b4), .val (.int P1), .val (.ref b6), .val (.ref A1), .val (.ref B1), .val (.int J1), .val (.ref r1), .val (.int x103), .val (.int (xs1.getD (J1).toNatClampNeg 0)), .val (.int (0 : Int32)), .val (.long k14), .second, .val (.int i16)]) (os_2 hw103) ?_
      refine XS.iload X103.here hx rfl (hb hby dc0_247) rfl ?_
      refine XS.iloadN X103.here hx rfl (hb hby dc0_249) rfl ?_
      show Steps p.tables e below (T103.setTop (mkF m 250 #[s0, .val (.int (2 : Int32)), s2, s3, .val (.ref b4), .val (.int P1), .val (.ref b6), .val (.ref A1), .val (.ref B1), .val (.int J1), .val (.ref r1), .val (.int x103), .val (.int (xs1.getD (J1).toNatClampNeg 0)), .val (.int (0 : Int32)), .val (.long k14), .second, .val (.int i16)] [(.int (2 : Int32)), (.int (0 : Int32))])) _
      refine XS.icmpNo X103.here hx rfl (hb hby dc0_250) rfl (by decide) ?_
      show Steps p.tables e below (T103.setTop (mkF m 253 #[s0, .val (.int (2 : Int32)), s2, s3, .val (.ref b4), .val (.int P1), .val (.ref b6), .val (.ref A1), .val (.ref B1), .val (.int J1), .val (.ref r1), .val (.int x103), .val (.int (xs1.getD (J1).toNatClampNeg 0)), .val (.int (0 : Int32)), .val (.long k14), .second, .val (.int i16)] [])) _
      refine XS.aload X103.here hx rfl (hb hby dc0_253) rfl rfl ?_
      refine XS.iconst X103.here hx rfl (hb hby dc0_255) ?_
      refine XS.iload X103.here hx rfl (hb hby dc0_256) rfl ?_
      refine XS.imul X103.here hx rfl (hb hby dc0_258) rfl ?_
      refine X103.laload hx (j := (0 : Int32)) (v := (.long (f1 (0 : Int32)))) (by rw [e103]; exact Ar108.1) (State.isArrayOf_alike hZ.alike Ar108.2.1) Ar108.2.2 hin108 hat108 (g := (mkF m 259 #[s0, .val (.int (2 : Int32)), s2, s3, .val (.ref b4), .val (.int P1), .val (.ref b6), .val (.ref A1), .val (.ref B1), .val (.int J1), .val (.ref r1), .val (.int x103), .val (.int (xs1.getD (J1).toNatClampNeg 0)), .val (.int (0 : Int32)), .val (.long k14), .second, .val (.int i16)] [(.int (0 : Int32)), (.ref A1)])) rfl rfl (hb hby dc0_259) _ ?_
      show Steps p.tables e below (T103.setTop (mkF m 260 #[s0, .val (.int (2 : Int32)), s2, s3, .val (.ref b4), .val (.int P1), .val (.ref b6), .val (.ref A1), .val (.ref B1), .val (.int J1), .val (.ref r1), .val (.int x103), .val (.int (xs1.getD (J1).toNatClampNeg 0)), .val (.int (0 : Int32)), .val (.long k14), .second, .val (.int i16)] [(.long (f1 (0 : Int32)))])) _
      refine XS.lstore X103.here hx rfl (hb hby dc0_260) rfl (l' := #[s0, .val (.int (2 : Int32)), s2, s3, .val (.ref b4), .val (.int P1), .val (.ref b6), .val (.ref A1), .val (.ref B1), .val (.int J1), .val (.ref r1), .val (.int x103), .val (.int (xs1.getD (J1).toNatClampNeg 0)), .val (.int (0 : Int32)), .val (.long (f1 (0 : Int32))), .second, .val (.int i16)]) rfl ?_
      refine XS.iconst X103.here hx rfl (hb hby dc0_262) ?_
      refine XS.aload X103.here hx rfl (hb hby dc0_263) rfl rfl ?_
      refine XS.lload X103.here hx rfl (hb hby dc0_265) rfl ?_
      refine X103.ldc2Long hx hown (mvT hZ (hw _ (List.mem_of_getElem? (i := 9) rfl))) (g := (mkF m 267 #[s0, .val (.int (2 : Int32)), s2, s3, .val (.ref b4), .val (.int P1), .val (.ref b6), .val (.ref A1), .val (.ref B1), .val (.int J1), .val (.ref r1), .val (.int x103), .val (.int (xs1.getD (J1).toNatClampNeg 0)), .val (.int (0 : Int32)), .val (.long (f1 (0 : Int32))), .second, .val (.int i16)] [(.long (f1 (0 : Int32))), (.ref r1), (.int (2 : Int32))])) rfl (hb hby dc0_267) _ ?_
      show Steps p.tables e below (T103.setTop (mkF m 270 #[s0, .val (.int (2 : Int32)), s2, s3, .val (.ref b4), .val (.int P1), .val (.ref b6), .val (.ref A1), .val (.ref B1), .val (.int J1), .val (.ref r1), .val (.int x103), .val (.int (xs1.getD (J1).toNatClampNeg 0)), .val (.int (0 : Int32)), .val (.long (f1 (0 : Int32))), .second, .val (.int i16)] [(.long (-9223372036854775808 : Int64)), (.long (f1 (0 : Int32))), (.ref r1), (.int (2 : Int32))])) _
      refine XS.lxor X103.here hx rfl (hb hby dc0_270) rfl ?_
      refine XS.iload X103.here hx rfl (hb hby dc0_271) rfl ?_
      refine XS.lushr X103.here hx rfl (hb hby dc0_273) rfl ?_
      refine XS.l2i X103.here hx rfl (hb hby dc0_274) rfl ?_
      refine XS.sipush X103.here hx rfl (hb hby dc0_275) ?_
      show Steps p.tables e below (T103.setTop (mkF m 278 #[s0, .val (.int (2 : Int32)), s2, s3, .val (.ref b4), .val (.int P1), .val (.ref b6), .val (.ref A1), .val (.ref B1), .val (.int J1), .val (.ref r1), .val (.int x103), .val (.int (xs1.getD (J1).toNatClampNeg 0)), .val (.int (0 : Int32)), .val (.long (f1 (0 : Int32))), .second, .val (.int i16)] [(.int (255 : Int32)), (.int (((((f1 (0 : Int32)) ^^^ (-9223372036854775808 : Int64)).toUInt64 >>> ((xs1.getD (J1).toNatClampNeg 0) &&& 0x3f).toInt64.toUInt64).toInt64).toInt32)), (.ref r1), (.int (2 : Int32))])) _
      refine XS.iand X103.here hx rfl (hb hby dc0_278) rfl ?_
      show Steps p.tables e below (T103.setTop (mkF m 279 #[s0, .val (.int (2 : Int32)), s2, s3, .val (.ref b4), .val (.int P1), .val (.ref b6), .val (.ref A1), .val (.ref B1), .val (.int J1), .val (.ref r1), .val (.int x103), .val (.int (xs1.getD (J1).toNatClampNeg 0)), .val (.int (0 : Int32)), .val (.long (f1 (0 : Int32))), .second, .val (.int i16)] [(.int ((((((f1 (0 : Int32)) ^^^ (-9223372036854775808 : Int64)).toUInt64 >>> ((xs1.getD (J1).toNatClampNeg 0) &&& 0x3f).toInt64.toUInt64).toInt64).toInt32) &&& (255 : Int32))), (.ref r1), (.int (2 : Int32))])) _
      rw [(show ((((((f1 (0 : Int32)) ^^^ (-9223372036854775808 : Int64)).toUInt64 >>> ((xs1.getD (J1).toNatClampNeg 0) &&& 0x3f).toInt64.toUInt64).toInt64).toInt32) &&& (255 : Int32)) = own_dg (f1 (0 : Int32)) (xs1.getD (J1).toNatClampNeg 0) from rfl)]
      jvm_step X103.here [X103.here.top, hx, (hb hby dc0_279), Value.category]
      refine X103.iaload hx (j := (own_dg (f1 (0 : Int32)) (xs1.getD (J1).toNatClampNeg 0))) (v := (.int (S103 (own_dg (f1 (0 : Int32)) (xs1.getD (J1).toNatClampNeg 0))))) (by rw [e103]; exact Ar109.1) (State.isArrayOf_alike hZ.alike Ar109.2.1) Ar109.2.2 hin109 hat109 (g := (mkF m 280 #[s0, .val (.int (2 : Int32)), s2, s3, .val (.ref b4), .val (.int P1), .val (.ref b6), .val (.ref A1), .val (.ref B1), .val (.int J1), .val (.ref r1), .val (.int x103), .val (.int (xs1.getD (J1).toNatClampNeg 0)), .val (.int (0 : Int32)), .val (.long (f1 (0 : Int32))), .second, .val (.int i16)] [(.int (own_dg (f1 (0 : Int32)) (xs1.getD (J1).toNatClampNeg 0))), (.ref r1), (.int (own_dg (f1 (0 : Int32)) (xs1.getD (J1).toNatClampNeg 0))), (.ref r1), (.int (2 : Int32))])) rfl rfl (hb hby dc0_280) _ ?_
      jvm_step X103.here [X103.here.top, hx, (hb hby dc0_281), Value.category]
      show Steps p.tables e below (T103.setTop (mkF m 282 #[s0, .val (.int (2 : Int32)), s2, s3, .val (.ref b4), .val (.int P1), .val (.ref b6), .val (.ref A1), .val (.ref B1), .val (.int J1), .val (.ref r1), .val (.int x103), .val (.int (xs1.getD (J1).toNatClampNeg 0)), .val (.int (0 : Int32)), .val (.long (f1 (0 : Int32))), .second, .val (.int i16)] [(.int (S103 (own_dg (f1 (0 : Int32)) (xs1.getD (J1).toNatClampNeg 0)))), (.int (own_dg (f1 (0 : Int32)) (xs1.getD (J1).toNatClampNeg 0))), (.ref r1), (.int (S103 (own_dg (f1 (0 : Int32)) (xs1.getD (J1).toNatClampNeg 0)))), (.int (2 : Int32))])) _
      refine XS.iconst X103.here hx rfl (hb hby dc0_282) ?_
      refine XS.iadd X103.here hx rfl (hb hby dc0_283) rfl ?_
      refine st111 _ ?_
      refine XS.imul X111.here hx rfl (hb hby dc0_285) rfl ?_
      refine XS.istore X111.here hx rfl (hb hby dc0_286) rfl (l' := #[s0, .val (.int (2 : Int32)), s2, s3, .val (.ref b4), .val (.int P1), .val (.ref b6), .val (.ref A1), .val (.ref B1), .val (.int J1), .val (.ref r1), .val (.int x103), .val (.int (xs1.getD (J1).toNatClampNeg 0)), .val (.int (0 : Int32)), .val (.long (f1 (0 : Int32))), .second, .val (.int ((2 : Int32) * (S103 (own_dg (f1 (0 : Int32)) (xs1.getD (J1).toNatClampNeg 0)))))]) rfl ?_
      show Steps p.tables e below (T111.setTop (mkF m 288 #[s0, .val (.int (2 : Int32)), s2, s3, .val (.ref b4), .val (.int P1), .val (.ref b6), .val (.ref A1), .val (.ref B1), .val (.int J1), .val (.ref r1), .val (.int x103), .val (.int (xs1.getD (J1).toNatClampNeg 0)), .val (.int (0 : Int32)), .val (.long (f1 (0 : Int32))), .second, .val (.int ((2 : Int32) * (S103 (own_dg (f1 (0 : Int32)) (xs1.getD (J1).toNatClampNeg 0)))))] [])) _
      refine XS.aload X111.here hx rfl (hb hby dc0_288) rfl rfl ?_
      refine XS.iload X111.here hx rfl (hb hby dc0_290) rfl ?_
      refine XS.lload X111.here hx rfl (hb hby dc0_292) rfl ?_
      refine st114 _ ?_
      refine XS.aload X114.here hx rfl (hb hby dc0_295) rfl rfl ?_
      show Steps p.tables e below (T114.setTop (mkF m 297 #[s0, .val (.int (2 : Int32)), s2, s3, .val (.ref b4), .val (.int P1), .val (.ref b6), .val (.ref A1), .val (.ref B1), .val (.int J1), .val (.ref r1), .val (.int x103), .val (.int (xs1.getD (J1).toNatClampNeg 0)), .val (.int (0 : Int32)), .val (.long (f1 (0 : Int32))), .second, .val (.int ((2 : Int32) * (S103 (own_dg (f1 (0 : Int32)) (xs1.getD (J1).toNatClampNeg 0)))))] [(.ref B1)])) _
      refine XS.iload X114.here hx rfl (hb hby dc0_297) rfl ?_
      refine XS.iconst X114.here hx rfl (hb hby dc0_299) ?_
      refine XS.iadd X114.here hx rfl (hb hby dc0_300) rfl ?_
      refine XS.aload X114.here hx rfl (hb hby dc0_301) rfl rfl ?_
      refine XS.iconst X114.here hx rfl (hb hby dc0_303) ?_
      show Steps p.tables e below (T114.setTop (mkF m 304 #[s0, .val (.int (2 : Int32)), s2, s3, .val (.ref b4), .val (.int P1), .val (.ref b6), .val (.ref A1), .val (.ref B1), .val (.int J1), .val (.ref r1), .val (.int x103), .val (.int (xs1.getD (J1).toNatClampNeg 0)), .val (.int (0 : Int32)), .val (.long (f1 (0 : Int32))), .second, .val (.int ((2 : Int32) * (S103 (own_dg (f1 (0 : Int32)) (xs1.getD (J1).toNatClampNeg 0)))))] [(.int (2 : Int32)), (.ref A1), (.int (((2 : Int32) * (S103 (own_dg (f1 (0 : Int32)) (xs1.getD (J1).toNatClampNeg 0)))) + (1 : Int32))), (.ref B1)])) _
      refine XS.iload X114.here hx rfl (hb hby dc0_304) rfl ?_
      refine XS.imul X114.here hx rfl (hb hby dc0_306) rfl ?_
      refine XS.iconst X114.here hx rfl (hb hby dc0_307) ?_
      refine XS.iadd X114.here hx rfl (hb hby dc0_308) rfl ?_
      refine X114.laload hx (j := (1 : Int32)) (v := (.long (f1 (1 : Int32)))) (by rw [e114]; exact Ar116.1) (State.isArrayOf_alike hZ.alike Ar116.2.1) Ar116.2.2 hin116 hat116 (g := (mkF m 309 #[s0, .val (.int (2 : Int32)), s2, s3, .val (.ref b4), .val (.int P1), .val (.ref b6), .val (.ref A1), .val (.ref B1), .val (.int J1), .val (.ref r1), .val (.int x103), .val (.int (xs1.getD (J1).toNatClampNeg 0)), .val (.int (0 : Int32)), .val (.long (f1 (0 : Int32))), .second, .val (.int ((2 : Int32) * (S103 (own_dg (f1 (0 : Int32)) (xs1.getD (J1).toNatClampNeg 0)))))] [(.int (1 : Int32)), (.ref A1), (.int (((2 : Int32) * (S103 (own_dg (f1 (0 : Int32)) (xs1.getD (J1).toNatClampNeg 0)))) + (1 : Int32))), (.ref B1)])) rfl rfl (hb hby dc0_309) _ ?_
      show Steps p.tables e below (T114.setTop (mkF m 310 #[s0, .val (.int (2 : Int32)), s2, s3, .val (.ref b4), .val (.int P1), .val (.ref b6), .val (.ref A1), .val (.ref B1), .val (.int J1), .val (.ref r1), .val (.int x103), .val (.int (xs1.getD (J1).toNatClampNeg 0)), .val (.int (0 : Int32)), .val (.long (f1 (0 : Int32))), .second, .val (.int ((2 : Int32) * (S103 (own_dg (f1 (0 : Int32)) (xs1.getD (J1).toNatClampNeg 0)))))] [(.long (f1 (1 : Int32))), (.int (((2 : Int32) * (S103 (own_dg (f1 (0 : Int32)) (xs1.getD (J1).toNatClampNeg 0)))) + (1 : Int32))), (.ref B1)])) _
      refine st118 _ ?_
      refine XS.iinc X118.here hx rfl (hb hby dc0_311) rfl (l' := #[s0, .val (.int (2 : Int32)), s2, s3, .val (.ref b4), .val (.int P1), .val (.ref b6), .val (.ref A1), .val (.ref B1), .val (.int J1), .val (.ref r1), .val (.int x103), .val (.int (xs1.getD (J1).toNatClampNeg 0)), .val (.int (1 : Int32)), .val (.long (f1 (0 : Int32))), .second, .val (.int ((2 : Int32) * (S103 (own_dg (f1 (0 : Int32)) (xs1.getD (J1).toNatClampNeg 0)))))]) rfl ?_
      refine XS.goto X118.here hx rfl (pc0 := 314) (pc' := 247) rfl (hb hby dc0_314) (by decide) (by decide) ?_
      refine XS.iload X118.here hx rfl (hb hby dc0_247) rfl ?_
      refine XS.iloadN X118.here hx rfl (hb hby dc0_249) rfl ?_
      show Steps p.tables e below (T118.setTop (mkF m 250 #[s0, .val (.int (2 : Int32)), s2, s3, .val (.ref b4), .val (.int P1), .val (.ref b6), .val (.ref A1), .val (.ref B1), .val (.int J1), .val (.ref r1), .val (.int x103), .val (.int (xs1.getD (J1).toNatClampNeg 0)), .val (.int (1 : Int32)), .val (.long (f1 (0 : Int32))), .second, .val (.int ((2 : Int32) * (S103 (own_dg (f1 (0 : Int32)) (xs1.getD (J1).toNatClampNeg 0)))))] [(.int (2 : Int32)), (.int (1 : Int32))])) _
      refine XS.icmpNo X118.here hx rfl (hb hby dc0_250) rfl (by decide) ?_
      refine XS.aload X118.here hx rfl (hb hby dc0_253) rfl rfl ?_
      refine XS.iconst X118.here hx rfl (hb hby dc0_255) ?_
      refine XS.iload X118.here hx rfl (hb hby dc0_256) rfl ?_
      refine XS.imul X118.here hx rfl (hb hby dc0_258) rfl ?_
      show Steps p.tables e below (T118.setTop (mkF m 259 #[s0, .val (.int (2 : Int32)), s2, s3, .val (.ref b4), .val (.int P1), .val (.ref b6), .val (.ref A1), .val (.ref B1), .val (.int J1), .val (.ref r1), .val (.int x103), .val (.int (xs1.getD (J1).toNatClampNeg 0)), .val (.int (1 : Int32)), .val (.long (f1 (0 : Int32))), .second, .val (.int ((2 : Int32) * (S103 (own_dg (f1 (0 : Int32)) (xs1.getD (J1).toNatClampNeg 0)))))] [(.int (2 : Int32)), (.ref A1)])) _
      refine X118.laload hx (j := (2 : Int32)) (v := (.long (f1 (2 : Int32)))) (by rw [e118]; exact Ar120.1) (State.isArrayOf_alike hZ.alike Ar120.2.1) Ar120.2.2 hin120 hat120 (g := (mkF m 259 #[s0, .val (.int (2 : Int32)), s2, s3, .val (.ref b4), .val (.int P1), .val (.ref b6), .val (.ref A1), .val (.ref B1), .val (.int J1), .val (.ref r1), .val (.int x103), .val (.int (xs1.getD (J1).toNatClampNeg 0)), .val (.int (1 : Int32)), .val (.long (f1 (0 : Int32))), .second, .val (.int ((2 : Int32) * (S103 (own_dg (f1 (0 : Int32)) (xs1.getD (J1).toNatClampNeg 0)))))] [(.int (2 : Int32)), (.ref A1)])) rfl rfl (hb hby dc0_259) _ ?_
      refine XS.lstore X118.here hx rfl (hb hby dc0_260) rfl (l' := #[s0, .val (.int (2 : Int32)), s2, s3, .val (.ref b4), .val (.int P1), .val (.ref b6), .val (.ref A1), .val (.ref B1), .val (.int J1), .val (.ref r1), .val (.int x103), .val (.int (xs1.getD (J1).toNatClampNeg 0)), .val (.int (1 : Int32)), .val (.long (f1 (2 : Int32))), .second, .val (.int ((2 : Int32) * (S103 (own_dg (f1 (0 : Int32)) (xs1.getD (J1).toNatClampNeg 0)))))]) rfl ?_
      refine XS.iconst X118.here hx rfl (hb hby dc0_262) ?_
      refine XS.aload X118.here hx rfl (hb hby dc0_263) rfl rfl ?_
      refine XS.lload X118.here hx rfl (hb hby dc0_265) rfl ?_
      show Steps p.tables e below (T118.setTop (mkF m 267 #[s0, .val (.int (2 : Int32)), s2, s3, .val (.ref b4), .val (.int P1), .val (.ref b6), .val (.ref A1), .val (.ref B1), .val (.int J1), .val (.ref r1), .val (.int x103), .val (.int (xs1.getD (J1).toNatClampNeg 0)), .val (.int (1 : Int32)), .val (.long (f1 (2 : Int32))), .second, .val (.int ((2 : Int32) * (S103 (own_dg (f1 (0 : Int32)) (xs1.getD (J1).toNatClampNeg 0)))))] [(.long (f1 (2 : Int32))), (.ref r1), (.int (2 : Int32))])) _
      refine X118.ldc2Long hx hown (mvT hZ (hw _ (List.mem_of_getElem? (i := 9) rfl))) (g := (mkF m 267 #[s0, .val (.int (2 : Int32)), s2, s3, .val (.ref b4), .val (.int P1), .val (.ref b6), .val (.ref A1), .val (.ref B1), .val (.int J1), .val (.ref r1), .val (.int x103), .val (.int (xs1.getD (J1).toNatClampNeg 0)), .val (.int (1 : Int32)), .val (.long (f1 (2 : Int32))), .second, .val (.int ((2 : Int32) * (S103 (own_dg (f1 (0 : Int32)) (xs1.getD (J1).toNatClampNeg 0)))))] [(.long (f1 (2 : Int32))), (.ref r1), (.int (2 : Int32))])) rfl (hb hby dc0_267) _ ?_
      refine XS.lxor X118.here hx rfl (hb hby dc0_270) rfl ?_
      refine XS.iload X118.here hx rfl (hb hby dc0_271) rfl ?_
      refine XS.lushr X118.here hx rfl (hb hby dc0_273) rfl ?_
      refine XS.l2i X118.here hx rfl (hb hby dc0_274) rfl ?_
      show Steps p.tables e below (T118.setTop (mkF m 275 #[s0, .val (.int (2 : Int32)), s2, s3, .val (.ref b4), .val (.int P1), .val (.ref b6), .val (.ref A1), .val (.ref B1), .val (.int J1), .val (.ref r1), .val (.int x103), .val (.int (xs1.getD (J1).toNatClampNeg 0)), .val (.int (1 : Int32)), .val (.long (f1 (2 : Int32))), .second, .val (.int ((2 : Int32) * (S103 (own_dg (f1 (0 : Int32)) (xs1.getD (J1).toNatClampNeg 0)))))] [(.int (((((f1 (2 : Int32)) ^^^ (-9223372036854775808 : Int64)).toUInt64 >>> ((xs1.getD (J1).toNatClampNeg 0) &&& 0x3f).toInt64.toUInt64).toInt64).toInt32)), (.ref r1), (.int (2 : Int32))])) _
      refine XS.sipush X118.here hx rfl (hb hby dc0_275) ?_
      refine XS.iand X118.here hx rfl (hb hby dc0_278) rfl ?_
      show Steps p.tables e below (T118.setTop (mkF m 279 #[s0, .val (.int (2 : Int32)), s2, s3, .val (.ref b4), .val (.int P1), .val (.ref b6), .val (.ref A1), .val (.ref B1), .val (.int J1), .val (.ref r1), .val (.int x103), .val (.int (xs1.getD (J1).toNatClampNeg 0)), .val (.int (1 : Int32)), .val (.long (f1 (2 : Int32))), .second, .val (.int ((2 : Int32) * (S103 (own_dg (f1 (0 : Int32)) (xs1.getD (J1).toNatClampNeg 0)))))] [(.int ((((((f1 (2 : Int32)) ^^^ (-9223372036854775808 : Int64)).toUInt64 >>> ((xs1.getD (J1).toNatClampNeg 0) &&& 0x3f).toInt64.toUInt64).toInt64).toInt32) &&& (255 : Int32))), (.ref r1), (.int (2 : Int32))])) _
      rw [(show ((((((f1 (2 : Int32)) ^^^ (-9223372036854775808 : Int64)).toUInt64 >>> ((xs1.getD (J1).toNatClampNeg 0) &&& 0x3f).toInt64.toUInt64).toInt64).toInt32) &&& (255 : Int32)) = own_dg (f1 (2 : Int32)) (xs1.getD (J1).toNatClampNeg 0) from rfl)]
      jvm_step X118.here [X118.here.top, hx, (hb hby dc0_279), Value.category]
      refine X118.iaload hx (j := (own_dg (f1 (2 : Int32)) (xs1.getD (J1).toNatClampNeg 0))) (v := (.int ((updI S103 (own_dg (f1 (0 : Int32)) (xs1.getD (J1).toNatClampNeg 0)) ((S103 (own_dg (f1 (0 : Int32)) (xs1.getD (J1).toNatClampNeg 0))) + (1 : Int32))) (own_dg (f1 (2 : Int32)) (xs1.getD (J1).toNatClampNeg 0))))) (by rw [e118]; exact Ar122.1) (State.isArrayOf_alike hZ.alike Ar122.2.1) Ar122.2.2 hin122 hat122 (g := (mkF m 280 #[s0, .val (.int (2 : Int32)), s2, s3, .val (.ref b4), .val (.int P1), .val (.ref b6), .val (.ref A1), .val (.ref B1), .val (.int J1), .val (.ref r1), .val (.int x103), .val (.int (xs1.getD (J1).toNatClampNeg 0)), .val (.int (1 : Int32)), .val (.long (f1 (2 : Int32))), .second, .val (.int ((2 : Int32) * (S103 (own_dg (f1 (0 : Int32)) (xs1.getD (J1).toNatClampNeg 0)))))] [(.int (own_dg (f1 (2 : Int32)) (xs1.getD (J1).toNatClampNeg 0))), (.ref r1), (.int (own_dg (f1 (2 : Int32)) (xs1.getD (J1).toNatClampNeg 0))), (.ref r1), (.int (2 : Int32))])) rfl rfl (hb hby dc0_280) _ ?_
      show Steps p.tables e below (T118.setTop (mkF m 281 #[s0, .val (.int (2 : Int32)), s2, s3, .val (.ref b4), .val (.int P1), .val (.ref b6), .val (.ref A1), .val (.ref B1), .val (.int J1), .val (.ref r1), .val (.int x103), .val (.int (xs1.getD (J1).toNatClampNeg 0)), .val (.int (1 : Int32)), .val (.long (f1 (2 : Int32))), .second, .val (.int ((2 : Int32) * (S103 (own_dg (f1 (0 : Int32)) (xs1.getD (J1).toNatClampNeg 0)))))] [(.int ((updI S103 (own_dg (f1 (0 : Int32)) (xs1.getD (J1).toNatClampNeg 0)) ((S103 (own_dg (f1 (0 : Int32)) (xs1.getD (J1).toNatClampNeg 0))) + (1 : Int32))) (own_dg (f1 (2 : Int32)) (xs1.getD (J1).toNatClampNeg 0)))), (.int (own_dg (f1 (2 : Int32)) (xs1.getD (J1).toNatClampNeg 0))), (.ref r1), (.int (2 : Int32))])) _
      jvm_step X118.here [X118.here.top, hx, (hb hby dc0_281), Value.category]
      refine XS.iconst X118.here hx rfl (hb hby dc0_282) ?_
      refine XS.iadd X118.here hx rfl (hb hby dc0_283) rfl ?_
      refine st124 _ ?_
      refine XS.imul X124.here hx rfl (hb hby dc0_285) rfl ?_
      show Steps p.tables e below (T124.setTop (mkF m 286 #[s0, .val (.int (2 : Int32)), s2, s3, .val (.ref b4), .val (.int P1), .val (.ref b6), .val (.ref A1), .val (.ref B1), .val (.int J1), .val (.ref r1), .val (.int x103), .val (.int (xs1.getD (J1).toNatClampNeg 0)), .val (.int (1 : Int32)), .val (.long (f1 (2 : Int32))), .second, .val (.int ((2 : Int32) * (S103 (own_dg (f1 (0 : Int32)) (xs1.getD (J1).toNatClampNeg 0)))))] [(.int ((2 : Int32) * ((updI S103 (own_dg (f1 (0 : Int32)) (xs1.getD (J1).toNatClampNeg 0)) ((S103 (own_dg (f1 (0 : Int32)) (xs1.getD (J1).toNatClampNeg 0))) + (1 : Int32))) (own_dg (f1 (2 : Int32)) (xs1.getD (J1).toNatClampNeg 0)))))])) _
      refine XS.istore X124.here hx rfl (hb hby dc0_286) rfl (l' := #[s0, .val (.int (2 : Int32)), s2, s3, .val (.ref b4), .val (.int P1), .val (.ref b6), .val (.ref A1), .val (.ref B1), .val (.int J1), .val (.ref r1), .val (.int x103), .val (.int (xs1.getD (J1).toNatClampNeg 0)), .val (.int (1 : Int32)), .val (.long (f1 (2 : Int32))), .second, .val (.int ((2 : Int32) * ((updI S103 (own_dg (f1 (0 : Int32)) (xs1.getD (J1).toNatClampNeg 0)) ((S103 (own_dg (f1 (0 : Int32)) (xs1.getD (J1).toNatClampNeg 0))) + (1 : Int32))) (own_dg (f1 (2 : Int32)) (xs1.getD (J1).toNatClampNeg 0)))))]) rfl ?_
      refine XS.aload X124.here hx rfl (hb hby dc0_288) rfl rfl ?_
      refine XS.iload X124.here hx rfl (hb hby dc0_290) rfl ?_
      refine XS.lload X124.here hx rfl (hb hby dc0_292) rfl ?_
      refine st127 _ ?_
      show Steps p.tables e below (T127.setTop (mkF m 295 #[s0, .val (.int (2 : Int32)), s2, s3, .val (.ref b4), .val (.int P1), .val (.ref b6), .val (.ref A1), .val (.ref B1), .val (.int J1), .val (.ref r1), .val (.int x103), .val (.int (xs1.getD (J1).toNatClampNeg 0)), .val (.int (1 : Int32)), .val (.long (f1 (2 : Int32))), .second, .val (.int ((2 : Int32) * ((updI S103 (own_dg (f1 (0 : Int32)) (xs1.getD (J1).toNatClampNeg 0)) ((S103 (own_dg (f1 (0 : Int32)) (xs1.getD (J1).toNatClampNeg 0))) + (1 : Int32))) (own_dg (f1 (2 : Int32)) (xs1.getD (J1).toNatClampNeg 0)))))] [])) _
      refine XS.aload X127.here hx rfl (hb hby dc0_295) rfl rfl ?_
      refine XS.iload X127.here hx rfl (hb hby dc0_297) rfl ?_
      refine XS.iconst X127.here hx rfl (hb hby dc0_299) ?_
      refine XS.iadd X127.here hx rfl (hb hby dc0_300) rfl ?_
      refine XS.aload X127.here hx rfl (hb hby dc0_301) rfl rfl ?_
      show Steps p.tables e below (T127.setTop (mkF m 303 #[s0, .val (.int (2 : Int32)), s2, s3, .val (.ref b4), .val (.int P1), .val (.ref b6), .val (.ref A1), .val (.ref B1), .val (.int J1), .val (.ref r1), .val (.int x103), .val (.int (xs1.getD (J1).toNatClampNeg 0)), .val (.int (1 : Int32)), .val (.long (f1 (2 : Int32))), .second, .val (.int ((2 : Int32) * ((updI S103 (own_dg (f1 (0 : Int32)) (xs1.getD (J1).toNatClampNeg 0)) ((S103 (own_dg (f1 (0 : Int32)) (xs1.getD (J1).toNatClampNeg 0))) + (1 : Int32))) (own_dg (f1 (2 : Int32)) (xs1.getD (J1).toNatClampNeg 0)))))] [(.ref A1), (.int (((2 : Int32) * ((updI S103 (own_dg (f1 (0 : Int32)) (xs1.getD (J1).toNatClampNeg 0)) ((S103 (own_dg (f1 (0 : Int32)) (xs1.getD (J1).toNatClampNeg 0))) + (1 : Int32))) (own_dg (f1 (2 : Int32)) (xs1.getD (J1).toNatClampNeg 0)))) + (1 : Int32))), (.ref B1)])) _
      refine XS.iconst X127.here hx rfl (hb hby dc0_303) ?_
      refine XS.iload X127.here hx rfl (hb hby dc0_304) rfl ?_
      refine XS.imul X127.here hx rfl (hb hby dc0_306) rfl ?_
      refine XS.iconst X127.here hx rfl (hb hby dc0_307) ?_
      refine XS.iadd X127.here hx rfl (hb hby dc0_308) rfl ?_
      show Steps p.tables e below (T127.setTop (mkF m 309 #[s0, .val (.int (2 : Int32)), s2, s3, .val (.ref b4), .val (.int P1), .val (.ref b6), .val (.ref A1), .val (.ref B1), .val (.int J1), .val (.ref r1), .val (.int x103), .val (.int (xs1.getD (J1).toNatClampNeg 0)), .val (.int (1 : Int32)), .val (.long (f1 (2 : Int32))), .second, .val (.int ((2 : Int32) * ((updI S103 (own_dg (f1 (0 : Int32)) (xs1.getD (J1).toNatClampNeg 0)) ((S103 (own_dg (f1 (0 : Int32)) (xs1.getD (J1).toNatClampNeg 0))) + (1 : Int32))) (own_dg (f1 (2 : Int32)) (xs1.getD (J1).toNatClampNeg 0)))))] [(.int (3 : Int32)), (.ref A1), (.int (((2 : Int32) * ((updI S103 (own_dg (f1 (0 : Int32)) (xs1.getD (J1).toNatClampNeg 0)) ((S103 (own_dg (f1 (0 : Int32)) (xs1.getD (J1).toNatClampNeg 0))) + (1 : Int32))) (own_dg (f1 (2 : Int32)) (xs1.getD (J1).toNatClampNeg 0)))) + (1 : Int32))), (.ref B1)])) _
      refine X127.laload hx (j := (3 : Int32)) (v := (.long (f1 (3 : Int32)))) (by rw [e127]; exact Ar129.1) (State.isArrayOf_alike hZ.alike Ar129.2.1) Ar129.2.2 hin129 hat129 (g := (mkF m 309 #[s0, .val (.int (2 : Int32)), s2, s3, .val (.ref b4), .val (.int P1), .val (.ref b6), .val (.ref A1), .val (.ref B1), .val (.int J1), .val (.ref r1), .val (.int x103), .val (.int (xs1.getD (J1).toNatClampNeg 0)), .val (.int (1 : Int32)), .val (.long (f1 (2 : Int32))), .second, .val (.int ((2 : Int32) * ((updI S103 (own_dg (f1 (0 : Int32)) (xs1.getD (J1).toNatClampNeg 0)) ((S103 (own_dg (f1 (0 : Int32)) (xs1.getD (J1).toNatClampNeg 0))) + (1 : Int32))) (own_dg (f1 (2 : Int32)) (xs1.getD (J1).toNatClampNeg 0)))))] [(.int (3 : Int32)), (.ref A1), (.int (((2 : Int32) * ((updI S103 (own_dg (f1 (0 : Int32)) (xs1.getD (J1).toNatClampNeg 0)) ((S103 (own_dg (f1 (0 : Int32)) (xs1.getD (J1).toNatClampNeg 0))) + (1 : Int32))) (own_dg (f1 (2 : Int32)) (xs1.getD (J1).toNatClampNeg 0)))) + (1 : Int32))), (.ref B1)])) rfl rfl (hb hby dc0_309) _ ?_
      refine st131 _ ?_
      refine XS.iinc X131.here hx rfl (hb hby dc0_311) rfl (l' := #[s0, .val (.int (2 : Int32)), s2, s3, .val (.ref b4), .val (.int P1), .val (.ref b6), .val (.ref A1), .val (.ref B1), .val (.int J1), .val (.ref r1), .val (.int x103), .val (.int (xs1.getD (J1).toNatClampNeg 0)), .val (.int (2 : Int32)), .val (.long (f1 (2 : Int32))), .second, .val (.int ((2 : Int32) * ((updI S103 (own_dg (f1 (0 : Int32)) (xs1.getD (J1).toNatClampNeg 0)) ((S103 (own_dg (f1 (0 : Int32)) (xs1.getD (J1).toNatClampNeg 0))) + (1 : Int32))) (own_dg (f1 (2 : Int32)) (xs1.getD (J1).toNatClampNeg 0)))))]) rfl ?_
      refine XS.goto X131.here hx rfl (pc0 := 314) (pc' := 247) rfl (hb hby dc0_314) (by decide) (by decide) ?_
      refine XS.iload X131.here hx rfl (hb hby dc0_247) rfl ?_
      show Steps p.tables e below (T131.setTop (mkF m 249 #[s0, .val (.int (2 : Int32)), s2, s3, .val (.ref b4), .val (.int P1), .val (.ref b6), .val (.ref A1), .val (.ref B1), .val (.int J1), .val (.ref r1), .val (.int x103), .val (.int (xs1.getD (J1).toNatClampNeg 0)), .val (.int (2 : Int32)), .val (.long (f1 (2 : Int32))), .second, .val (.int ((2 : Int32) * ((updI S103 (own_dg (f1 (0 : Int32)) (xs1.getD (J1).toNatClampNeg 0)) ((S103 (own_dg (f1 (0 : Int32)) (xs1.getD (J1).toNatClampNeg 0))) + (1 : Int32))) (own_dg (f1 (2 : Int32)) (xs1.getD (J1).toNatClampNeg 0)))))] [(.int (2 : Int32))])) _
      refine XS.iloadN X131.here hx rfl (hb hby dc0_249) rfl ?_
      show Steps p.tables e below (T131.setTop (mkF m 250 #[s0, .val (.int (2 : Int32)), s2, s3, .val (.ref b4), .val (.int P1), .val (.ref b6), .val (.ref A1), .val (.ref B1), .val (.int J1), .val (.ref r1), .val (.int x103), .val (.int (xs1.getD (J1).toNatClampNeg 0)), .val (.int (2 : Int32)), .val (.long (f1 (2 : Int32))), .second, .val (.int ((2 : Int32) * ((updI S103 (own_dg (f1 (0 : Int32)) (xs1.getD (J1).toNatClampNeg 0)) ((S103 (own_dg (f1 (0 : Int32)) (xs1.getD (J1).toNatClampNeg 0))) + (1 : Int32))) (own_dg (f1 (2 : Int32)) (xs1.getD (J1).toNatClampNeg 0)))))] [(.int (2 : Int32)), (.int (2 : Int32))])) _
      refine XS.icmpYes X131.here hx rfl (pc0 := 250) (pc' := 317) rfl (hb hby dc0_250) rfl (by decide) (by decide) (by decide) ?_
      refine XS.aload X131.here hx rfl (hb hby dc0_317) rfl rfl ?_
      refine XS.astore X131.here hx rfl (hb hby dc0_319) rfl rfl (l' := #[s0, .val (.int (2 : Int32)), s2, s3, .val (.ref b4), .val (.int P1), .val (.ref b6), .val (.ref A1), .val (.ref B1), .val (.int J1), .val (.ref r1), .val (.int x103), .val (.int (xs1.getD (J1).toNatClampNeg 0)), .val (.ref B1), .val (.long (f1 (2 : Int32))), .second, .val (.int ((2 : Int32) * ((updI S103 (own_dg (f1 (0 : Int32)) (xs1.getD (J1).toNatClampNeg 0)) ((S103 (own_dg (f1 (0 : Int32)) (xs1.getD (J1).toNatClampNeg 0))) + (1 : Int32))) (own_dg (f1 (2 : Int32)) (xs1.getD (J1).toNatClampNeg 0)))))]) rfl ?_
      refine XS.aload X131.here hx rfl (hb hby dc0_321) rfl rfl ?_
      show Steps p.tables e below (T131.setTop (mkF m 323 #[s0, .val (.int (2 : Int32)), s2, s3, .val (.ref b4), .val (.int P1), .val (.ref b6), .val (.ref A1), .val (.ref B1), .val (.int J1), .val (.ref r1), .val (.int x103), .val (.int (xs1.getD (J1).toNatClampNeg 0)), .val (.ref B1), .val (.long (f1 (2 : Int32))), .second, .val (.int ((2 : Int32) * ((updI S103 (own_dg (f1 (0 : Int32)) (xs1.getD (J1).toNatClampNeg 0)) ((S103 (own_dg (f1 (0 : Int32)) (xs1.getD (J1).toNatClampNeg 0))) + (1 : Int32))) (own_dg (f1 (2 : Int32)) (xs1.getD (J1).toNatClampNeg 0)))))] [(.ref A1)])) _
      refine XS.astore X131.here hx rfl (hb hby dc0_323) rfl rfl (l' := #[s0, .val (.int (2 : Int32)), s2, s3, .val (.ref b4), .val (.int P1), .val (.ref b6), .val (.ref A1), .val (.ref A1), .val (.int J1), .val (.ref r1), .val (.int x103), .val (.int (xs1.getD (J1).toNatClampNeg 0)), .val (.ref B1), .val (.long (f1 (2 : Int32))), .second, .val (.int ((2 : Int32) * ((updI S103 (own_dg (f1 (0 : Int32)) (xs1.getD (J1).toNatClampNeg 0)) ((S103 (own_dg (f1 (0 : Int32)) (xs1.getD (J1).toNatClampNeg 0))) + (1 : Int32))) (own_dg (f1 (2 : Int32)) (xs1.getD (J1).toNatClampNeg 0)))))]) rfl ?_
      refine XS.aload X131.here hx rfl (hb hby dc0_325) rfl rfl ?_
      refine XS.astore X131.here hx rfl (hb hby dc0_327) rfl rfl (l' := #[s0, .val (.int (2 : Int32)), s2, s3, .val (.ref b4), .val (.int P1), .val (.ref b6), .val (.ref B1), .val (.ref A1), .val (.int J1), .val (.ref r1), .val (.int x103), .val (.int (xs1.getD (J1).toNatClampNeg 0)), .val (.ref B1), .val (.long (f1 (2 : Int32))), .second, .val (.int ((2 : Int32) * ((updI S103 (own_dg (f1 (0 : Int32)) (xs1.getD (J1).toNatClampNeg 0)) ((S103 (own_dg (f1 (0 : Int32)) (xs1.getD (J1).toNatClampNeg 0))) + (1 : Int32))) (own_dg (f1 (2 : Int32)) (xs1.getD (J1).toNatClampNeg 0)))))]) rfl ?_
      refine XS.iinc X131.here hx rfl (hb hby dc0_329) rfl (l' := #[s0, .val (.int (2 : Int32)), s2, s3, .val (.ref b4), .val (.int P1), .val (.ref b6), .val (.ref B1), .val (.ref A1), .val (.int (J1 + (1 : Int32))), .val (.ref r1), .val (.int x103), .val (.int (xs1.getD (J1).toNatClampNeg 0)), .val (.ref B1), .val (.long (f1 (2 : Int32))), .second, .val (.int ((2 : Int32) * ((updI S103 (own_dg (f1 (0 : Int32)) (xs1.getD (J1).toNatClampNeg 0)) ((S103 (own_dg (f1 (0 : Int32)) (xs1.getD (J1).toNatClampNeg 0))) + (1 : Int32))) (own_dg (f1 (2 : Int32)) (xs1.getD (J1).toNatClampNeg 0)))))]) rfl ?_
      refine XS.goto X131.here hx rfl (pc0 := 332) (pc' := 182) rfl (hb hby dc0_332) (by decide) (by decide) ?_
      exact kt)
  have K133 : Keep h0 h131 [r1, B1] := (Keep.wr (Keep.wr (Keep.wr (Keep.wr (Keep.wr (Keep.wr (Keep.trans (Keep.refl h0 [r1, B1]) K103 (allS (P := fun x => x ∈ [r1, B1] ∨ h0.size ≤ x) (Or.inl (List.mem_of_getElem? (i := 0) rfl)) all0)) W111 (Or.inl (List.mem_of_getElem? (i := 0) rfl))) W114 (Or.inl (List.mem_of_getElem? (i := 1) rfl))) W118 (Or.inl (List.mem_of_getElem? (i := 1) rfl))) W124 (Or.inl (List.mem_of_getElem? (i := 0) rfl))) W127 (Or.inl (List.mem_of_getElem? (i := 1) rfl))) W131 (Or.inl (List.mem_of_getElem? (i := 1) rfl)))
  have f134 := ((((((f105.other W111 ne4r).other W114 ne4B).other W118 ne4B).other W124 ne4r).other W127 ne4B).other W131 ne4B)
  have f135 := (f128.other W131 neAB)
  have f136 := ((H124.other W127 (Ne.symm neBr)).other W131 (Ne.symm neBr))
  have O137 : Old Z n0 h131 := ((((((O103.wr W111 gr).wr W114 gB).wr W118 gB).wr W124 gr).wr W127 gB).wr W131 gB)
  exact ⟨_, _, _, (.val (.ref r1)), (.val (.int x103)), (.val (.int (xs1.getD (J1).toNatClampNeg 0))), (.val (.ref B1)), (.val (.long (f1 (2 : Int32)))), .second, (.val (.int ((2 : Int32) * ((updI S103 (own_dg (f1 (0 : Int32)) (xs1.getD (J1).toNatClampNeg 0)) ((S103 (own_dg (f1 (0 : Int32)) (xs1.getD (J1).toNatClampNeg 0))) + (1 : Int32))) (own_dg (f1 (2 : Int32)) (xs1.getD (J1).toNatClampNeg 0)))))), Or.inr ⟨_, _, _, _, _, _, rfl, rfl, rfl, rfl, rfl, rfl, rfl⟩, ⟨_, _, X131, e131, N131, O137, pre132⟩, f134, Gd.upd G6 (by omega) K133 (allS (Or.inl er) (allS (Or.inr hB) all0)) (er ▸ f136), f135, H131, fun i hi => if_neg hi, stp.2.2⟩
theorem ps2 {p : Program} {l : Launch} {e : Env} {R : Room} {s : State} {m : MethodId} {args : Array Value} {below : List Frame} {meth : Method} {c : Code} {Z : State} {a0 : Array Value} {n0 : Nat} {cells slots : Nat} {st0 : State} (hx : p.tables.exec = Jvm.exec) (hZ : Z.Warmed39 s.vm) (hw : ∀ d ∈ tables_1, d.before a0 Z = true) (hby : c.code = prog_98_method_19_code) (hml : c.maxLocals = 17) (hown : s.vm.findClass "com/example/keyfold/keyfold/SortedRows" = some m.cls) {h0 : Heap} (s0 s2 s3 : Slot) (b4 b6 q1 A1 B1 : Nat) (P1 J1 : Int32) (xs1 : List Int32) (f1 g1 : Int32 → Int64) (cc1 : Nat → Int32 → Int32) (k0 k1 w0 : Int64) (d1 : Nat) (u10 u11 u12 u13 u14 u15 u16 : Slot) (tl : Tl u10 u11 u12 u13 u14 u15 u16) (G0 : Rc p l e R s m args below meth c n0 Z cells slots st0 (mkF m 182 #[s0, .val (.int (2 : Int32)), s2, s3, .val (.ref b4), .val (.int P1), .val (.ref b6), .val (.ref A1), .val (.ref B1), .val (.int J1), u10, u11, u12, u13, u14, u15, u16] []) h0) (A4 : La Z h0 b4 .int (8 : Int32) xs1) (G6 : Gd Z h0 b6 q1 P1 cc1) (LA : Lv Z h0 A1 6 f1) (LB : Lv Z h0 B1 6 g1) (neAB : A1 ≠ B1) (hq : q1 = b6 + 1) (hA : A1 < b6 ∨ q1 + P1.toNatClampNeg ≤ A1) (hB : B1 < b6 ∨ q1 + P1.toNatClampNeg ≤ B1) (h4 : b4 < b6) (ne4B : b4 ≠ B1) (gB : n0 ≤ B1) (g6 : n0 ≤ b6) (hJ : ¬ J1 < 0 ∧ J1 < P1) (hP8 : P1.toInt ≤ 8) (hcc : cc1 J1.toNatClampNeg = own_C2 k0 k1 (xs1.getD (J1).toNatClampNeg 0)) (ok : Ok2 k0 k1 w0 d1 f1) (hd : d1 < 8) (hsh : (xs1.getD (J1).toNatClampNeg 0).toInt = 8 * (d1 : Int)) :
    ∃ (h' : Heap) (f' : Int32 → Int64) (cc' : Nat → Int32 → Int32) (u10' u11' u12' u13' u14' u15' u16' : Slot), Tl u10' u11' u12' u13' u14' u15' u16' ∧ Rc p l e R s m args below meth c n0 Z cells slots st0 (mkF m 182 #[s0, .val (.int (2 : Int32)), s2, s3, .val (.ref b4), .val (.int P1), .val (.ref b6), .val (.ref B1), .val (.ref A1), .val (.int (J1 + (1 : Int32))), u10', u11', u12', u13', u14', u15', u16'] []) h' ∧ La Z h' b4 .int (8 : Int32) xs1 ∧ Gd Z h' b6 q1 P1 cc' ∧ Lv Z h' A1 6 f1 ∧ Lv Z h' B1 6 f' ∧ (∀ i, i ≠ J1.toNatClampNeg → cc' i = cc1 i) ∧ Ok2 k0 k1 w0 (d1 + 1) f' := by
  rcases tl with ⟨i10, rfl, rfl, rfl, rfl, rfl, rfl, rfl⟩ | ⟨r10, i11, i12, r13, k14, i16, rfl, rfl, rfl, rfl, rfl, rfl, rfl⟩
  · exact ps2a hx hZ hw hby hml hown s0 s2 s3 b4 b6 q1 A1 B1 P1 J1 xs1 f1 g1 cc1 k0 k1 w0 d1 i10 G0 A4 G6 LA LB neAB hq hA hB h4 ne4B gB g6 hJ hP8 hcc ok hd hsh
  · exact ps2b hx hZ hw hby hml hown s0 s2 s3 b4 b6 q1 A1 B1 P1 J1 xs1 f1 g1 cc1 k0 k1 w0 d1 r10 i11 i12 r13 k14 i16 G0 A4 G6 LA LB neAB hq hA hB h4 ne4B gB g6 hJ hP8 hcc ok hd hsh
theorem psL2 {p : Program} {l : Launch} {e : Env} {R : Room} {s : State} {m : MethodId} {args : Array Value} {below : List Frame} {meth : Method} {c : Code} {Z : State} {a0 : Array Value} {n0 : Nat} {cells slots : Nat} {st0 : State} (hx : p.tables.exec = Jvm.exec) (hZ : Z.Warmed39 s.vm) (hw : ∀ d ∈ tables_1, d.before a0 Z = true) (hby : c.code = prog_98_method_19_code) (hml : c.maxLocals = 17) (hown : s.vm.findClass "com/example/keyfold/keyfold/SortedRows" = some m.cls) (s0 s2 s3 : Slot) (b4 b6 q1 : Nat) (P1 : Int32) (xs1 : List Int32) (k0 k1 w0 : Int64) (hq : q1 = b6 + 1) (h4 : b4 < b6) (g6 : n0 ≤ b6) (hP8 : P1.toInt ≤ 8) (hg : Dg (own_v2 k0 k1) 8 P1 xs1) : ∀ (kk : Nat) (h0 : Heap) (A1 B1 : Nat) (J1 : Int32) (f1 g1 : Int32 → Int64) (cc1 : Nat → Int32 → Int32) (u10 u11 u12 u13 u14 u15 u16 : Slot), J1.toInt + kk = P1.toInt → 0 ≤ J1.toInt → Tl u10 u11 u12 u13 u14 u15 u16 → La Z h0 b4 .int (8 : Int32) xs1 → Gd Z h0 b6 q1 P1 cc1 → Lv Z h0 A1 6 f1 → Lv Z h0 B1 6 g1 → A1 ≠ B1 → (A1 < b6 ∨ q1 + P1.toNatClampNeg ≤ A1) → (B1 < b6 ∨ q1 + P1.toNatClampNeg ≤ B1) → b4 ≠ A1 → b4 ≠ B1 → n0 ≤ A1 → n0 ≤ B1 → (∀ i, J1.toNatClampNeg ≤ i → i < P1.toNatClampNeg → cc1 i = own_C2 k0 k1 (xs1.getD i 0)) → Ok2 k0 k1 w0 ((DS (own_v2 k0 k1) 8).getD J1.toNatClampNeg 8) f1 → Rc p l e R s m args below meth c n0 Z cells slots st0 (mkF m 182 #[s0, .val (.int (2 : Int32)), s2, s3, .val (.ref b4), .val (.int P1), .val (.ref b6), .val (.ref A1), .val (.ref B1), .val (.int J1), u10, u11, u12, u13, u14, u15, u16] []) h0 →
    ∃ (h' : Heap) (A2 B2 : Nat) (f' : Int32 → Int64) (u10' u11' u12' u13' u14' u15' u16' : Slot), Rc p l e R s m args below meth c n0 Z cells slots st0 (mkF m 182 #[s0, .val (.int (2 : Int32)), s2, s3, .val (.ref b4), .val (.int P1), .val (.ref b6), .val (.ref A2), .val (.ref B2), .val (.int P1), u10', u11', u12', u13', u14', u15', u16'] []) h' ∧ Lv Z h' A2 6 f' ∧ Ok2 k0 k1 w0 8 f'
  | 0, h0, A1, B1, J1, f1, g1, cc1, u10, u11, u12, u13, u14, u15, u16, hk, hJ0, tl, A4, G6, LA, LB, neAB, hA, hB, n4A, n4B, gA, gB, hcc, ok, G0 => by
    obtain rfl : J1 = P1 := own_eqI (by omega)
    refine ⟨h0, A1, B1, f1, u10, u11, u12, u13, u14, u15, u16, G0, LA, ?_⟩
    rw [own_getD' (by have := hg.1; show _ ≤ J1.toInt.toNat; omega)] at ok; exact ok
  | kk + 1, h0, A1, B1, J1, f1, g1, cc1, u10, u11, u12, u13, u14, u15, u16, hk, hJ0, tl, A4, G6, LA, LB, neAB, hA, hB, n4A, n4B, gA, gB, hcc, ok, G0 => by
    have hJ : ¬ J1 < 0 ∧ J1 < P1 := ⟨own_nltI (by have e : (0 : Int32).toInt = 0 := rfl; omega), own_ltI (by omega)⟩
    have e1 := own_inc1 (J := J1) rfl (by omega) hJ0
    have eN : (J1 + (1 : Int32)).toNatClampNeg = J1.toNatClampNeg + 1 := by show (J1 + (1 : Int32)).toInt.toNat = J1.toInt.toNat + 1; omega
    have hl : J1.toNatClampNeg < (DS (own_v2 k0 k1) 8).length := by have := hg.1; show J1.toInt.toNat < _; omega
    obtain ⟨gp1, gp2, gp3⟩ := DS_gap hl
    obtain ⟨h1, f2, cc2, u102, u112, u122, u132, u142, u152, u162, tl2, G1, A41, G61, LA1, LB1, hcc2, ok2⟩ := ps2 hx hZ hw hby hml hown s0 s2 s3 b4 b6 q1 A1 B1 P1 J1 xs1 f1 g1 cc1 k0 k1 w0 _ u10 u11 u12 u13 u14 u15 u16 tl G0 A4 G6 LA LB neAB hq hA hB h4 n4B gB g6 hJ hP8 (hcc _ (Nat.le_refl _) (own_jn hJ)) ok (DS_lt hl) (hg.2.2 _ hl)
    exact psL2 hx hZ hw hby hml hown s0 s2 s3 b4 b6 q1 P1 xs1 k0 k1 w0 hq h4 g6 hP8 hg kk h1 B1 A1 (J1 + (1 : Int32)) f2 f1 cc2 u102 u112 u122 u132 u142 u152 u162 (by omega) (by omega) tl2 A41 G61 LB1 LA1 (Ne.symm neAB) hB hA n4B n4A gB gA (fun i hi hi2 => by rw [hcc2 i (by omega)]; exact hcc i (by omega) hi2) (by rw [eN]; exact ok2.skip gp1 (fun d a b => gp3 d a b)) G1
set_option maxRecDepth 65536 in
set_option maxHeartbeats 40000000 in
theorem ps3a {p : Program} {l : Launch} {e : Env} {R : Room} {s : State} {m : MethodId} {args : Array Value} {below : List Frame} {meth : Method} {c : Code} {Z : State} {a0 : Array Value} {n0 : Nat} {cells slots : Nat} {st0 : State} (hx : p.tables.exec = Jvm.exec) (hZ : Z.Warmed39 s.vm) (hw : ∀ d ∈ tables_1, d.before a0 Z = true) (hby : c.code = prog_98_method_19_code) (hml : c.maxLocals = 17) (hown : s.vm.findClass "com/example/keyfold/keyfold/SortedRows" = some m.cls) {h0 : Heap} (s0 s2 s3 : Slot) (b4 b6 q1 A1 B1 : Nat) (P1 J1 : Int32) (xs1 : List Int32) (f1 g1 : Int32 → Int64) (cc1 : Nat → Int32 → Int32) (k0 k1 k2 w0 : Int64) (d1 : Nat) (i10 : Int32) (G0 : Rc p l e R s m args below meth c n0 Z cells slots st0 (mkF m 182 #[s0, .val (.int (3 : Int32)), s2, s3, .val (.ref b4), .val (.int P1), .val (.ref b6), .val (.ref A1), .val (.ref B1), .val (.int J1), .val (.int i10), .unset, .unset, .unset, .unset, .unset, .unset] []) h0) (A4 : La Z h0 b4 .int (8 : Int32) xs1) (G6 : Gd Z h0 b6 q1 P1 cc1) (LA : Lv Z h0 A1 6 f1) (LB : Lv Z h0 B1 6 g1) (neAB : A1 ≠ B1) (hq : q1 = b6 + 1) (hA : A1 < b6 ∨ q1 + P1.toNatClampNeg ≤ A1) (hB : B1 < b6 ∨ q1 + P1.toNatClampNeg ≤ B1) (h4 : b4 < b6) (ne4B : b4 ≠ B1) (gB : n0 ≤ B1) (g6 : n0 ≤ b6) (hJ : ¬ J1 < 0 ∧ J1 < P1) (hP8 : P1.toInt ≤ 8) (hcc : cc1 J1.toNatClampNeg = own_C3 k0 k1 k2 (xs1.getD (J1).toNatClampNeg 0)) (ok : Ok3 k0 k1 k2 w0 d1 f1) (hd : d1 < 8) (hsh : (xs1.getD (J1).toNatClampNeg 0).toInt = 8 * (d1 : Int)) :
    ∃ (h' : Heap) (f' : Int32 → Int64) (cc' : Nat → Int32 → Int32) (u10 u11 u12 u13 u14 u15 u16 : Slot), Tl u10 u11 u12 u13 u14 u15 u16 ∧ Rc p l e R s m args below meth c n0 Z cells slots st0 (mkF m 182 #[s0, .val (.int (3 : Int32)), s2, s3, .val (.ref b4), .val (.int P1), .val (.ref b6), .val (.ref B1), .val (.ref A1), .val (.int (J1 + (1 : Int32))), u10, u11, u12, u13, u14, u15, u16] []) h' ∧ La Z h' b4 .int (8 : Int32) xs1 ∧ Gd Z h' b6 q1 P1 cc' ∧ Lv Z h' A1 6 f1 ∧ Lv Z h' B1 6 f' ∧ (∀ i, i ≠ J1.toNatClampNeg → cc' i = cc1 i) ∧ Ok3 k0 k1 k2 w0 (d1 + 1) f' := by
  obtain ⟨T0, L0, X0, e0, N0, O0, pre0⟩ := G0
  obtain ⟨r1, er⟩ : ∃ r : Nat, r = q1 + J1.toNatClampNeg := ⟨_, rfl⟩
  have ne4r : b4 ≠ r1 := by omega
  have gr : n0 ≤ r1 := by omega
  have neAr : A1 ≠ r1 := by have := own_jn hJ; omega
  have neBr : B1 ≠ r1 := by have := own_jn hJ; omega
  have I1 : Iv Z h0 r1 256 (own_C3 k0 k1 k2 (xs1.getD (J1).toNatClampNeg 0)) := by rw [← hcc, er]; exact G6.2 _ (own_jn hJ)
  obtain ⟨cl101, Ar101, hin101, hat101⟩ := Gd.at (J := J1) G6 hJ
  rw [← er] at hat101
  have pre102 : ∀ t, Steps p.tables e below (T0.setTop (mkF m 202 #[s0, .val (.int (3 : Int32)), s2, s3, .val (.ref b4), .val (.int P1), .val (.ref b6), .val (.ref A1), .val (.ref B1), .val (.int J1), .val (.ref r1), .val (.int (0 : Int32)), .val (.int (0 : Int32)), .unset, .unset, .unset, .unset] [])) t → Steps p.tables e below (st0) t := fun t kt => pre0 t (by
      show Steps p.tables e below (T0.setTop (mkF m 182 #[s0, .val (.int (3 : Int32)), s2, s3, .val (.ref b4), .val (.int P1), .val (.ref b6), .val (.ref A1), .val (.ref B1), .val (.int J1), .val (.int i10), .unset, .unset, .unset, .unset, .unset, .unset] [])) _
      refine XS.iload X0.here hx rfl (hb hby dc0_182) rfl ?_
      refine XS.iload X0.here hx rfl (hb hby dc0_184) rfl ?_
      show Steps p.tables e below (T0.setTop (mkF m 186 #[s0, .val (.int (3 : Int32)), s2, s3, .val (.ref b4), .val (.int P1), .val (.ref b6), .val (.ref A1), .val (.ref B1), .val (.int J1), .val (.int i10), .unset, .unset, .unset, .unset, .unset, .unset] [(.int P1), (.int J1)])) _
      refine XS.icmpNo X0.here hx rfl (hb hby dc0_186) rfl (tlt hJ.2).2.1 ?_
      refine XS.aload X0.here hx rfl (hb hby dc0_189) rfl rfl ?_
      show Steps p.tables e below (T0.setTop (mkF m 191 #[s0, .val (.int (3 : Int32)), s2, s3, .val (.ref b4), .val (.int P1), .val (.ref b6), .val (.ref A1), .val (.ref B1), .val (.int J1), .val (.int i10), .unset, .unset, .unset, .unset, .unset, .unset] [(.ref b6)])) _
      refine XS.iload X0.here hx rfl (hb hby dc0_191) rfl ?_
      refine X0.aaload hx (j := J1) (v := (.ref r1)) (by rw [e0]; exact Ar101.1) (State.isArrayOf_alike hZ.alike Ar101.2.1) rfl Ar101.2.2 hin101 hat101 (g := (mkF m 193 #[s0, .val (.int (3 : Int32)), s2, s3, .val (.ref b4), .val (.int P1), .val (.ref b6), .val (.ref A1), .val (.ref B1), .val (.int J1), .val (.int i10), .unset, .unset, .unset, .unset, .unset, .unset] [(.int J1), (.ref b6)])) rfl rfl (hb hby dc0_193) _ ?_
      refine XS.astore X0.here hx rfl (hb hby dc0_194) rfl rfl (l' := #[s0, .val (.int (3 : Int32)), s2, s3, .val (.ref b4), .val (.int P1), .val (.ref b6), .val (.ref A1), .val (.ref B1), .val (.int J1), .val (.ref r1), .unset, .unset, .unset, .unset, .unset, .unset]) rfl ?_
      refine XS.iconst X0.here hx rfl (hb hby dc0_196) ?_
      refine XS.istore X0.here hx rfl (hb hby dc0_197) rfl (l' := #[s0, .val (.int (3 : Int32)), s2, s3, .val (.ref b4), .val (.int P1), .val (.ref b6), .val (.ref A1), .val (.ref B1), .val (.int J1), .val (.ref r1), .val (.int (0 : Int32)), .unset, .unset, .unset, .unset, .unset]) rfl ?_
      show Steps p.tables e below (T0.setTop (mkF m 199 #[s0, .val (.int (3 : Int32)), s2, s3, .val (.ref b4), .val (.int P1), .val (.ref b6), .val (.ref A1), .val (.ref B1), .val (.int J1), .val (.ref r1), .val (.int (0 : Int32)), .unset, .unset, .unset, .unset, .unset] [])) _
      refine XS.iconst X0.here hx rfl (hb hby dc0_199) ?_
      refine XS.istore X0.here hx rfl (hb hby dc0_200) rfl (l' := #[s0, .val (.int (3 : Int32)), s2, s3, .val (.ref b4), .val (.int P1), .val (.ref b6), .val (.ref A1), .val (.ref B1), .val (.int J1), .val (.ref r1), .val (.int (0 : Int32)), .val (.int (0 : Int32)), .unset, .unset, .unset, .unset]) rfl ?_
      exact kt)
  obtain ⟨h103, x103, S103, w103, G103, K103, hw103, I103, hS103⟩ := prL hx hZ hw hby hml hown (s0) (.val (.int (3 : Int32))) (s2) (s3) (.val (.ref b4)) (.val (.int P1)) (.val (.ref b6)) (.val (.ref A1)) (.val (.ref B1)) (.val (.int J1)) (.unset) (.unset) (.unset) r1 (own_C3 k0 k1 k2 (xs1.getD (J1).toNatClampNeg 0)) gr 256 h0 (0 : Int32) (0 : Int32) (own_C3 k0 k1 k2 (xs1.getD (J1).toNatClampNeg 0)) (.unset) 0 (by omega) rfl rfl (fun j a b => by omega) (fun j a => rfl) One.u I1 ⟨_, _, X0, e0, N0, O0, pre102⟩
  obtain ⟨T103, L103, X103, e103, N103, O103, pre103⟩ := G103
  have stp := own_step3 (g := g1) hd hsh ok hS103
  obtain ⟨cl104, Ar104, S104, -⟩ := id I103
  have f105 := (A4.keep K103 (ninS ne4r nin0))
  obtain ⟨cl106, Ar106, hin106, hat106⟩ := La.at (j := J1) f105 (own_J8 hJ hP8)
  have f107 := (LA.keep K103 (ninS neAr nin0))
  obtain ⟨cl108, Ar108, S108, H108⟩ := id f107
  have hin108 : ¬ ((0 : Int32) < 0 ∨ cl108.slots.size ≤ ((0 : Int32)).toNatClampNeg) := by rw [S108]; exact (by decide)
  have hat108 : cl108.slots[((0 : Int32)).toNatClampNeg]? = some (.long (f1 (0 : Int32))) := H108 _ hin108
  obtain ⟨cl109, Ar109, S109, H109⟩ := id I103
  have hin109 : ¬ ((own_dg (f1 (0 : Int32)) (xs1.getD (J1).toNatClampNeg 0)) < 0 ∨ cl109.slots.size ≤ ((own_dg (f1 (0 : Int32)) (xs1.getD (J1).toNatClampNeg 0))).toNatClampNeg) := by rw [S109]; exact (own_in256 (own_dg_rng _ _))
  have hat109 : cl109.slots[((own_dg (f1 (0 : Int32)) (xs1.getD (J1).toNatClampNeg 0))).toNatClampNeg]? = some (.int (S103 (own_dg (f1 (0 : Int32)) (xs1.getD (J1).toNatClampNeg 0)))) := H109 _ hin109
  obtain ⟨cl110, Ar110, S110, H110⟩ := id I103
  have hin110 : ¬ ((own_dg (f1 (0 : Int32)) (xs1.getD (J1).toNatClampNeg 0)) < 0 ∨ cl110.slots.size ≤ ((own_dg (f1 (0 : Int32)) (xs1.getD (J1).toNatClampNeg 0))).toNatClampNeg) := by rw [S110]; exact (own_in256 (own_dg_rng _ _))
  obtain ⟨T111, h111, X111, e111, W111, st111⟩ := stI X103 hx hZ e103 Ar110 (j := (own_dg (f1 (0 : Int32)) (xs1.getD (J1).toNatClampNeg 0))) hin110 (g := (mkF m 284 #[s0, .val (.int (3 : Int32)), s2, s3, .val (.ref b4), .val (.int P1), .val (.ref b6), .val (.ref A1), .val (.ref B1), .val (.int J1), .val (.ref r1), .val (.int x103), .val (.int (xs1.getD (J1).toNatClampNeg 0)), .val (.int (0 : Int32)), .val (.long (f1 (0 : Int32))), .second, .unset] [(.int ((S103 (own_dg (f1 (0 : Int32)) (xs1.getD (J1).toNatClampNeg 0))) + (1 : Int32))), (.int (own_dg (f1 (0 : Int32)) (xs1.getD (J1).toNatClampNeg 0))), (.ref r1), (.int (S103 (own_dg (f1 (0 : Int32)) (xs1.getD (J1).toNatClampNeg 0)))), (.int (2 : Int32))])) rfl rfl (hb hby dc0_284)
  have H111 : Iv Z h111 r1 256 (updI S103 (own_dg (f1 (0 : Int32)) (xs1.getD (J1).toNatClampNeg 0)) ((S103 (own_dg (f1 (0 : Int32)) (xs1.getD (J1).toNatClampNeg 0))) + (1 : Int32))) := Iv.set Ar110 S110 H110 hin110 W111
  have N111 := Fr.snoc X111 N103 gr
  have f112 := ((LB.keep K103 (ninS neBr nin0)).other W111 neBr)
  obtain ⟨cl113, Ar113, S113, H113⟩ := id f112
  have hin113 : ¬ (((2 : Int32) * (S103 (own_dg (f1 (0 : Int32)) (xs1.getD (J1).toNatClampNeg 0)))) < 0 ∨ cl113.slots.size ≤ (((2 : Int32) * (S103 (own_dg (f1 (0 : Int32)) (xs1.getD (J1).toNatClampNeg 0))))).toNatClampNeg) := by rw [S113]; exact (own_b0 stp.1)
  obtain ⟨T114, h114, X114, e114, W114, st114⟩ := stJ X111 hx hZ e111 Ar113 (j := ((2 : Int32) * (S103 (own_dg (f1 (0 : Int32)) (xs1.getD (J1).toNatClampNeg 0))))) hin113 (g := (mkF m 294 #[s0, .val (.int (3 : Int32)), s2, s3, .val (.ref b4), .val (.int P1), .val (.ref b6), .val (.ref A1), .val (.ref B1), .val (.int J1), .val (.ref r1), .val (.int x103), .val (.int (xs1.getD (J1).toNatClampNeg 0)), .val (.int (0 : Int32)), .val (.long (f1 (0 : Int32))), .second, .val (.int ((2 : Int32) * (S103 (own_dg (f1 (0 : Int32)) (xs1.getD (J1).toNatClampNeg 0)))))] [(.long (f1 (0 : Int32))), (.int ((2 : Int32) * (S103 (own_dg (f1 (0 : Int32)) (xs1.getD (J1).toNatClampNeg 0))))), (.ref B1)])) rfl rfl (hb hby dc0_294)
  have H114 : Lv Z h114 B1 6 (upd g1 ((2 : Int32) * (S103 (own_dg (f1 (0 : Int32)) (xs1.getD (J1).toNatClampNeg 0)))) (f1 (0 : Int32))) := Lv.set Ar113 S113 H113 hin113 W114
  have N114 := Fr.snoc X114 N111 gB
  have f115 := ((f107.other W111 neAr).other W114 neAB)
  obtain ⟨cl116, Ar116, S116, H116⟩ := id f115
  have hin116 : ¬ ((1 : Int32) < 0 ∨ cl116.slots.size ≤ ((1 : Int32)).toNatClampNeg) := by rw [S116]; exact (by decide)
  have hat116 : cl116.slots[((1 : Int32)).toNatClampNeg]? = some (.long (f1 (1 : Int32))) := H116 _ hin116
  obtain ⟨cl117, Ar117, S117, H117⟩ := id H114
  have hin117 : ¬ ((((2 : Int32) * (S103 (own_dg (f1 (0 : Int32)) (xs1.getD (J1).toNatClampNeg 0)))) + (1 : Int32)) < 0 ∨ cl117.slots.size ≤ ((((2 : Int32) * (S103 (own_dg (f1 (0 : Int32)) (xs1.getD (J1).toNatClampNeg 0)))) + (1 : Int32))).toNatClampNeg) := by rw [S117]; exact (own_b1 stp.1)
  obtain ⟨T118, h118, X118, e118, W118, st118⟩ := stJ X114 hx hZ e114 Ar117 (j := (((2 : Int32) * (S103 (own_dg (f1 (0 : Int32)) (xs1.getD (J1).toNatClampNeg 0)))) + (1 : Int32))) hin117 (g := (mkF m 310 #[s0, .val (.int (3 : Int32)), s2, s3, .val (.ref b4), .val (.int P1), .val (.ref b6), .val (.ref A1), .val (.ref B1), .val (.int J1), .val (.ref r1), .val (.int x103), .val (.int (xs1.getD (J1).toNatClampNeg 0)), .val (.int (0 : Int32)), .val (.long (f1 (0 : Int32))), .second, .val (.int ((2 : Int32) * (S103 (own_dg (f1 (0 : Int32)) (xs1.getD (J1).toNatClampNeg 0)))))] [(.long (f1 (1 : Int32))), (.int (((2 : Int32) * (S103 (own_dg (f1 (0 : Int32)) (xs1.getD (J1).toNatClampNeg 0)))) + (1 : Int32))), (.ref B1)])) rfl rfl (hb hby dc0_310)
  have H118 : Lv Z h118 B1 6 (upd (upd g1 ((2 : Int32) * (S103 (own_dg (f1 (0 : Int32)) (xs1.getD (J1).toNatClampNeg 0)))) (f1 (0 : Int32))) (((2 : Int32) * (S103 (own_dg (f1 (0 : Int32)) (xs1.getD (J1).toNatClampNeg 0)))) + (1 : Int32)) (f1 (1 : Int32))) := Lv.set Ar117 S117 H117 hin117 W118
  have N118 := Fr.snoc X118 N114 gB
  have f119 := (f115.other W118 neAB)
  obtain ⟨cl120, Ar120, S120, H120⟩ := id f119
  have hin120 : ¬ ((2 : Int32) < 0 ∨ cl120.slots.size ≤ ((2 : Int32)).toNatClampNeg) := by rw [S120]; exact (by decide)
  have hat120 : cl120.slots[((2 : Int32)).toNatClampNeg]? = some (.long (f1 (2 : Int32))) := H120 _ hin120
  have f121 := ((H111.other W114 (Ne.symm neBr)).other W118 (Ne.symm neBr))
  obtain ⟨cl122, Ar122, S122, H122⟩ := id f121
  have hin122 : ¬ ((own_dg (f1 (2 : Int32)) (xs1.getD (J1).toNatClampNeg 0)) < 0 ∨ cl122.slots.size ≤ ((own_dg (f1 (2 : Int32)) (xs1.getD (J1).toNatClampNeg 0))).toNatClampNeg) := by rw [S122]; exact (own_in256 (own_dg_rng _ _))
  have hat122 : cl122.slots[((own_dg (f1 (2 : Int32)) (xs1.getD (J1).toNatClampNeg 0))).toNatClampNeg]? = some (.int ((updI S103 (own_dg (f1 (0 : Int32)) (xs1.getD (J1).toNatClampNeg 0)) ((S103 (own_dg (f1 (0 : Int32)) (xs1.getD (J1).toNatClampNeg 0))) + (1 : Int32))) (own_dg (f1 (2 : Int32)) (xs1.getD (J1).toNatClampNeg 0)))) := H122 _ hin122
  obtain ⟨cl123, Ar123, S123, H123⟩ := id f121
  have hin123 : ¬ ((own_dg (f1 (2 : Int32)) (xs1.getD (J1).toNatClampNeg 0)) < 0 ∨ cl123.slots.size ≤ ((own_dg (f1 (2 : Int32)) (xs1.getD (J1).toNatClampNeg 0))).toNatClampNeg) := by rw [S123]; exact (own_in256 (own_dg_rng _ _))
  obtain ⟨T124, h124, X124, e124, W124, st124⟩ := stI X118 hx hZ e118 Ar123 (j := (own_dg (f1 (2 : Int32)) (xs1.getD (J1).toNatClampNeg 0))) hin123 (g := (mkF m 284 #[s0, .val (.int (3 : Int32)), s2, s3, .val (.ref b4), .val (.int P1), .val (.ref b6), .val (.ref A1), .val (.ref B1), .val (.int J1), .val (.ref r1), .val (.int x103), .val (.int (xs1.getD (J1).toNatClampNeg 0)), .val (.int (1 : Int32)), .val (.long (f1 (2 : Int32))), .second, .val (.int ((2 : Int32) * (S103 (own_dg (f1 (0 : Int32)) (xs1.getD (J1).toNatClampNeg 0)))))] [(.int (((updI S103 (own_dg (f1 (0 : Int32)) (xs1.getD (J1).toNatClampNeg 0)) ((S103 (own_dg (f1 (0 : Int32)) (xs1.getD (J1).toNatClampNeg 0))) + (1 : Int32))) (own_dg (f1 (2 : Int32)) (xs1.getD (J1).toNatClampNeg 0))) + (1 : Int32))), (.int (own_dg (f1 (2 : Int32)) (xs1.getD (J1).toNatClampNeg 0))), (.ref r1), (.int ((updI S103 (own_dg (f1 (0 : Int32)) (xs1.getD (J1).toNatClampNeg 0)) ((S103 (own_dg (f1 (0 : Int32)) (xs1.getD (J1).toNatClampNeg 0))) + (1 : Int32))) (own_dg (f1 (2 : Int32)) (xs1.getD (J1).toNatClampNeg 0)))), (.int (2 : Int32))])) rfl rfl (hb hby dc0_284)
  have H124 : Iv Z h124 r1 256 (updI (updI S103 (own_dg (f1 (0 : Int32)) (xs1.getD (J1).toNatClampNeg 0)) ((S103 (own_dg (f1 (0 : Int32)) (xs1.getD (J1).toNatClampNeg 0))) + (1 : Int32))) (own_dg (f1 (2 : Int32)) (xs1.getD (J1).toNatClampNeg 0)) (((updI S103 (own_dg (f1 (0 : Int32)) (xs1.getD (J1).toNatClampNeg 0)) ((S103 (own_dg (f1 (0 : Int32)) (xs1.getD (J1).toNatClampNeg 0))) + (1 : Int32))) (own_dg (f1 (2 : Int32)) (xs1.getD (J1).toNatClampNeg 0))) + (1 : Int32))) := Iv.set Ar123 S123 H123 hin123 W124
  have N124 := Fr.snoc X124 N118 gr
  have f125 := (H118.other W124 neBr)
  obtain ⟨cl126, Ar126, S126, H126⟩ := id f125
  have hin126 : ¬ (((2 : Int32) * ((updI S103 (own_dg (f1 (0 : Int32)) (xs1.getD (J1).toNatClampNeg 0)) ((S103 (own_dg (f1 (0 : Int32)) (xs1.getD (J1).toNatClampNeg 0))) + (1 : Int32))) (own_dg (f1 (2 : Int32)) (xs1.getD (J1).toNatClampNeg 0)))) < 0 ∨ cl126.slots.size ≤ (((2 : Int32) * ((updI S103 (own_dg (f1 (0 : Int32)) (xs1.getD (J1).toNatClampNeg 0)) ((S103 (own_dg (f1 (0 : Int32)) (xs1.getD (J1).toNatClampNeg 0))) + (1 : Int32))) (own_dg (f1 (2 : Int32)) (xs1.getD (J1).toNatClampNeg 0))))).toNatClampNeg) := by rw [S126]; exact (own_b0 stp.2.1)
  obtain ⟨T127, h127, X127, e127, W127, st127⟩ := stJ X124 hx hZ e124 Ar126 (j := ((2 : Int32) * ((updI S103 (own_dg (f1 (0 : Int32)) (xs1.getD (J1).toNatClampNeg 0)) ((S103 (own_dg (f1 (0 : Int32)) (xs1.getD (J1).toNatClampNeg 0))) + (1 : Int32))) (own_dg (f1 (2 : Int32)) (xs1.getD (J1).toNatClampNeg 0))))) hin126 (g := (mkF m 294 #[s0, .val (.int (3 : Int32)), s2, s3, .val (.ref b4), .val (.int P1), .val (.ref b6), .val (.ref A1), .val (.ref B1), .val (.int J1), .val (.ref r1), .val (.int x103), .val (.int (xs1.getD (J1).toNatClampNeg 0)), .val (.int (1 : Int32)), .val (.long (f1 (2 : Int32))), .second, .val (.int ((2 : Int32) * ((updI S103 (own_dg (f1 (0 : Int32)) (xs1.getD (J1).toNatClampNeg 0)) ((S103 (own_dg (f1 (0 : Int32)) (xs1.getD (J1).toNatClampNeg 0))) + (1 : Int32))) (own_dg (f1 (2 : Int32)) (xs1.getD (J1).toNatClampNeg 0)))))] [(.long (f1 (2 : Int32))), (.int ((2 : Int32) * ((updI S103 (own_dg (f1 (0 : Int32)) (xs1.getD (J1).toNatClampNeg 0)) ((S103 (own_dg (f1 (0 : Int32)) (xs1.getD (J1).toNatClampNeg 0))) + (1 : Int32))) (own_dg (f1 (2 : Int32)) (xs1.getD (J1).toNatClampNeg 0))))), (.ref B1)])) rfl rfl (hb hby dc0_294)
  have H127 : Lv Z h127 B1 6 (upd (upd (upd g1 ((2 : Int32) * (S103 (own_dg (f1 (0 : Int32)) (xs1.getD (J1).toNatClampNeg 0)))) (f1 (0 : Int32))) (((2 : Int32) * (S103 (own_dg (f1 (0 : Int32)) (xs1.getD (J1).toNatClampNeg 0)))) + (1 : Int32)) (f1 (1 : Int32))) ((2 : Int32) * ((updI S103 (own_dg (f1 (0 : Int32)) (xs1.getD (J1).toNatClampNeg 0)) ((S103 (own_dg (f1 (0 : Int32)) (xs1.getD (J1).toNatClampNeg 0))) + (1 : Int32))) (own_dg (f1 (2 : Int32)) (xs1.getD (J1).toNatClampNeg 0)))) (f1 (2 : Int32))) := Lv.set Ar126 S126 H126 hin126 W127
  have N127 := Fr.snoc X127 N124 gB
  have f128 := ((f119.other W124 neAr).other W127 neAB)
  obtain ⟨cl129, Ar129, S129, H129⟩ := id f128
  have hin129 : ¬ ((3 : Int32) < 0 ∨ cl129.slots.size ≤ ((3 : Int32)).toNatClampNeg) := by rw [S129]; exact (by decide)
  have hat129 : cl129.slots[((3 : Int32)).toNatClampNeg]? = some (.long (f1 (3 : Int32))) := H129 _ hin129
  obtain ⟨cl130, Ar130, S130, H130⟩ := id H127
  have hin130 : ¬ ((((2 : Int32) * ((updI S103 (own_dg (f1 (0 : Int32)) (xs1.getD (J1).toNatClampNeg 0)) ((S103 (own_dg (f1 (0 : Int32)) (xs1.getD (J1).toNatClampNeg 0))) + (1 : Int32))) (own_dg (f1 (2 : Int32)) (xs1.getD (J1).toNatClampNeg 0)))) + (1 : Int32)) < 0 ∨ cl130.slots.size ≤ ((((2 : Int32) * ((updI S103 (own_dg (f1 (0 : Int32)) (xs1.getD (J1).toNatClampNeg 0)) ((S103 (own_dg (f1 (0 : Int32)) (xs1.getD (J1).toNatClampNeg 0))) + (1 : Int32))) (own_dg (f1 (2 : Int32)) (xs1.getD (J1).toNatClampNeg 0)))) + (1 : Int32))).toNatClampNeg) := by rw [S130]; exact (own_b1 stp.2.1)
  obtain ⟨T131, h131, X131, e131, W131, st131⟩ := stJ X127 hx hZ e127 Ar130 (j := (((2 : Int32) * ((updI S103 (own_dg (f1 (0 : Int32)) (xs1.getD (J1).toNatClampNeg 0)) ((S103 (own_dg (f1 (0 : Int32)) (xs1.getD (J1).toNatClampNeg 0))) + (1 : Int32))) (own_dg (f1 (2 : Int32)) (xs1.getD (J1).toNatClampNeg 0)))) + (1 : Int32))) hin130 (g := (mkF m 310 #[s0, .val (.int (3 : Int32)), s2, s3, .val (.ref b4), .val (.int P1), .val (.ref b6), .val (.ref A1), .val (.ref B1), .val (.int J1), .val (.ref r1), .val (.int x103), .val (.int (xs1.getD (J1).toNatClampNeg 0)), .val (.int (1 : Int32)), .val (.long (f1 (2 : Int32))), .second, .val (.int ((2 : Int32) * ((updI S103 (own_dg (f1 (0 : Int32)) (xs1.getD (J1).toNatClampNeg 0)) ((S103 (own_dg (f1 (0 : Int32)) (xs1.getD (J1).toNatClampNeg 0))) + (1 : Int32))) (own_dg (f1 (2 : Int32)) (xs1.getD (J1).toNatClampNeg 0)))))] [(.long (f1 (3 : Int32))), (.int (((2 : Int32) * ((updI S103 (own_dg (f1 (0 : Int32)) (xs1.getD (J1).toNatClampNeg 0)) ((S103 (own_dg (f1 (0 : Int32)) (xs1.getD (J1).toNatClampNeg 0))) + (1 : Int32))) (own_dg (f1 (2 : Int32)) (xs1.getD (J1).toNatClampNeg 0)))) + (1 : Int32))), (.ref B1)])) rfl rfl (hb hby dc0_310)
  have H131 : Lv Z h131 B1 6 (upd (upd (upd (upd g1 ((2 : Int32) * (S103 (own_dg (f1 (0 : Int32)) (xs1.getD (J1).toNatClampNeg 0)))) (f1 (0 : Int32))) (((2 : Int32) * (S103 (own_dg (f1 (0 : Int32)) (xs1.getD (J1).toNatClampNeg 0)))) + (1 : Int32)) (f1 (1 : Int32))) ((2 : Int32) * ((updI S103 (own_dg (f1 (0 : Int32)) (xs1.getD (J1).toNatClampNeg 0)) ((S103 (own_dg (f1 (0 : Int32)) (xs1.getD (J1).toNatClampNeg 0))) + (1 : Int32))) (own_dg (f1 (2 : Int32)) (xs1.getD (J1).toNatClampNeg 0)))) (f1 (2 : Int32))) (((2 : Int32) * ((updI S103 (own_dg (f1 (0 : Int32)) (xs1.getD (J1).toNatClampNeg 0)) ((S103 (own_dg (f1 (0 : Int32)) (xs1.getD (J1).toNatClampNeg 0))) + (1 : Int32))) (own_dg (f1 (2 : Int32)) (xs1.getD (J1).toNatClampNeg 0)))) + (1 : Int32)) (f1 (3 : Int32))) := Lv.set Ar130 S130 H130 hin130 W131
  have N131 := Fr.snoc X131 N127 gB
  have f132 := (f128.other W131 neAB)
  obtain ⟨cl133, Ar133, S133, H133⟩ := id f132
  have hin133 : ¬ ((4 : Int32) < 0 ∨ cl133.slots.size ≤ ((4 : Int32)).toNatClampNeg) := by rw [S133]; exact (by decide)
  have hat133 : cl133.slots[((4 : Int32)).toNatClampNeg]? = some (.long (f1 (4 : Int32))) := H133 _ hin133
  have f134 := ((H124.other W127 (Ne.symm neBr)).other W131 (Ne.symm neBr))
  obtain ⟨cl135, Ar135, S135, H135⟩ := id f134
  have hin135 : ¬ ((own_dg (f1 (4 : Int32)) (xs1.getD (J1).toNatClampNeg 0)) < 0 ∨ cl135.slots.size ≤ ((own_dg (f1 (4 : Int32)) (xs1.getD (J1).toNatClampNeg 0))).toNatClampNeg) := by rw [S135]; exact (own_in256 (own_dg_rng _ _))
  have hat135 : cl135.slots[((own_dg (f1 (4 : Int32)) (xs1.getD (J1).toNatClampNeg 0))).toNatClampNeg]? = some (.int ((updI (updI S103 (own_dg (f1 (0 : Int32)) (xs1.getD (J1).toNatClampNeg 0)) ((S103 (own_dg (f1 (0 : Int32)) (xs1.getD (J1).toNatClampNeg 0))) + (1 : Int32))) (own_dg (f1 (2 : Int32)) (xs1.getD (J1).toNatClampNeg 0)) (((updI S103 (own_dg (f1 (0 : Int32)) (xs1.getD (J1).toNatClampNeg 0)) ((S103 (own_dg (f1 (0 : Int32)) (xs1.getD (J1).toNatClampNeg 0))) + (1 : Int32))) (own_dg (f1 (2 : Int32)) (xs1.getD (J1).toNatClampNeg 0))) + (1 : Int32))) (own_dg (f1 (4 : Int32)) (xs1.getD (J1).toNatClampNeg 0)))) := H135 _ hin135
  obtain ⟨cl136, Ar136, S136, H136⟩ := id f134
  have hin136 : ¬ ((own_dg (f1 (4 : Int32)) (xs1.getD (J1).toNatClampNeg 0)) < 0 ∨ cl136.slots.size ≤ ((own_dg (f1 (4 : Int32)) (xs1.getD (J1).toNatClampNeg 0))).toNatClampNeg) := by rw [S136]; exact (own_in256 (own_dg_rng _ _))
  obtain ⟨T137, h137, X137, e137, W137, st137⟩ := stI X131 hx hZ e131 Ar136 (j := (own_dg (f1 (4 : Int32)) (xs1.getD (J1).toNatClampNeg 0))) hin136 (g := (mkF m 284 #[s0, .val (.int (3 : Int32)), s2, s3, .val (.ref b4), .val (.int P1), .val (.ref b6), .val (.ref A1), .val (.ref B1), .val (.int J1), .val (.ref r1), .val (.int x103), .val (.int (xs1.getD (J1).toNatClampNeg 0)), .val (.int (2 : Int32)), .val (.long (f1 (4 : Int32))), .second, .val (.int ((2 : Int32) * ((updI S103 (own_dg (f1 (0 : Int32)) (xs1.getD (J1).toNatClampNeg 0)) ((S103 (own_dg (f1 (0 : Int32)) (xs1.getD (J1).toNatClampNeg 0))) + (1 : Int32))) (own_dg (f1 (2 : Int32)) (xs1.getD (J1).toNatClampNeg 0)))))] [(.int (((updI (updI S103 (own_dg (f1 (0 : Int32)) (xs1.getD (J1).toNatClampNeg 0)) ((S103 (own_dg (f1 (0 : Int32)) (xs1.getD (J1).toNatClampNeg 0))) + (1 : Int32))) (own_dg (f1 (2 : Int32)) (xs1.getD (J1).toNatClampNeg 0)) (((updI S103 (own_dg (f1 (0 : Int32)) (xs1.getD (J1).toNatClampNeg 0)) ((S103 (own_dg (f1 (0 : Int32)) (xs1.getD (J1).toNatClampNeg 0))) + (1 : Int32))) (own_dg (f1 (2 : Int32)) (xs1.getD (J1).toNatClampNeg 0))) + (1 : Int32))) (own_dg (f1 (4 : Int32)) (xs1.getD (J1).toNatClampNeg 0))) + (1 : Int32))), (.int (own_dg (f1 (4 : Int32)) (xs1.getD (J1).toNatClampNeg 0))), (.ref r1), (.int ((updI (updI S103 (own_dg (f1 (0 : Int32)) (xs1.getD (J1).toNatClampNeg 0)) ((S103 (own_dg (f1 (0 : Int32)) (xs1.getD (J1).toNatClampNeg 0))) + (1 : Int32))) (own_dg (f1 (2 : Int32)) (xs1.getD (J1).toNatClampNeg 0)) (((updI S103 (own_dg (f1 (0 : Int32)) (xs1.getD (J1).toNatClampNeg 0)) ((S103 (own_dg (f1 (0 : Int32)) (xs1.getD (J1).toNatClampNeg 0))) + (1 : Int32))) (own_dg (f1 (2 : Int32)) (xs1.getD (J1).toNatClampNeg 0))) + (1 : Int32))) (own_dg (f1 (4 : Int32)) (xs1.getD (J1).toNatClampNeg 0)))), (.int (2 : Int32))])) rfl rfl (hb hby dc0_284)
  have H137 : Iv Z h137 r1 256 (updI (updI (updI S103 (own_dg (f1 (0 : Int32)) (xs1.getD (J1).toNatClampNeg 0)) ((S103 (own_dg (f1 (0 : Int32)) (xs1.getD (J1).toNatClampNeg 0))) + (1 : Int32))) (own_dg (f1 (2 : Int32)) (xs1.getD (J1).toNatClampNeg 0)) (((updI S103 (own_dg (f1 (0 : Int32)) (xs1.getD (J1).toNatClampNeg 0)) ((S103 (own_dg (f1 (0 : Int32)) (xs1.getD (J1).toNatClampNeg 0))) + (1 : Int32))) (own_dg (f1 (2 : Int32)) (xs1.getD (J1).toNatClampNeg 0))) + (1 : Int32))) (own_dg (f1 (4 : Int32)) (xs1.getD (J1).toNatClampNeg 0)) (((updI (updI S103 (own_dg (f1 (0 : Int32)) (xs1.getD (J1).toNatClampNeg 0)) ((S103 (own_dg (f1 (0 : Int32)) (xs1.getD (J1).toNatClampNeg 0))) + (1 : Int32))) (own_dg (f1 (2 : Int32)) (xs1.getD (J1).toNatClampNeg 0)) (((updI S103 (own_dg (f1 (0 : Int32)) (xs1.getD (J1).toNatClampNeg 0)) ((S103 (own_dg (f1 (0 : Int32)) (xs1.getD (J1).toNatClampNeg 0))) + (1 : Int32))) (own_dg (f1 (2 : Int32)) (xs1.getD (J1).toNatClampNeg 0))) + (1 : Int32))) (own_dg (f1 (4 : Int32)) (xs1.getD (J1).toNatClampNeg 0))) + (1 : Int32))) := Iv.set Ar136 S136 H136 hin136 W137
  have N137 := Fr.snoc X137 N131 gr
  have f138 := (H131.other W137 neBr)
  obtain ⟨cl139, Ar139, S139, H139⟩ := id f138
  have hin139 : ¬ (((2 : Int32) * ((updI (updI S103 (own_dg (f1 (0 : Int32)) (xs1.getD (J1).toNatClampNeg 0)) ((S103 (own_dg (f1 (0 : Int32)) (xs1.getD (J1).toNatClampNeg 0))) + (1 : Int32))) (own_dg (f1 (2 : Int32)) (xs1.getD (J1).toNatClampNeg 0)) (((updI S103 (own_dg (f1 (0 : Int32)) (xs1.getD (J1).toNatClampNeg 0)) ((S103 (own_dg (f1 (0 : Int32)) (xs1.getD (J1).toNatClampNeg 0))) + (1 : Int32))) (own_dg (f1 (2 : Int32)) (xs1.getD (J1).toNatClampNeg 0))) + (1 : Int32))) (own_dg (f1 (4 : Int32)) (xs1.getD (J1).toNatClampNeg 0)))) < 0 ∨ cl139.slots.size ≤ (((2 : Int32) * ((updI (updI S103 (own_dg (f1 (0 : Int32)) (xs1.getD (J1).toNatClampNeg 0)) ((S103 (own_dg (f1 (0 : Int32)) (xs1.getD (J1).toNatClampNeg 0))) + (1 : Int32))) (own_dg (f1 (2 : Int32)) (xs1.getD (J1).toNatClampNeg 0)) (((updI S103 (own_dg (f1 (0 : Int32)) (xs1.getD (J1).toNatClampNeg 0)) ((S103 (own_dg (f1 (0 : Int32)) (xs1.getD (J1).toNatClampNeg 0))) + (1 : Int32))) (own_dg (f1 (2 : Int32)) (xs1.getD (J1).toNatClampNeg 0))) + (1 : Int32))) (own_dg (f1 (4 : Int32)) (xs1.getD (J1).toNatClampNeg 0))))).toNatClampNeg) := by rw [S139]; exact (own_b0 stp.2.2.1)
  obtain ⟨T140, h140, X140, e140, W140, st140⟩ := stJ X137 hx hZ e137 Ar139 (j := ((2 : Int32) * ((updI (updI S103 (own_dg (f1 (0 : Int32)) (xs1.getD (J1).toNatClampNeg 0)) ((S103 (own_dg (f1 (0 : Int32)) (xs1.getD (J1).toNatClampNeg 0))) + (1 : Int32))) (own_dg (f1 (2 : Int32)) (xs1.getD (J1).toNatClampNeg 0)) (((updI S103 (own_dg (f1 (0 : Int32)) (xs1.getD (J1).toNatClampNeg 0)) ((S103 (own_dg (f1 (0 : Int32)) (xs1.getD (J1).toNatClampNeg 0))) + (1 : Int32))) (own_dg (f1 (2 : Int32)) (xs1.getD (J1).toNatClampNeg 0))) + (1 : Int32))) (own_dg (f1 (4 : Int32)) (xs1.getD (J1).toNatClampNeg 0))))) hin139 (g := (mkF m 294 #[s0, .val (.int (3 : Int32)), s2, s3, .val (.ref b4), .val (.int P1), .val (.ref b6), .val (.ref A1), .val (.ref B1), .val (.int J1), .val (.ref r1), .val (.int x103), .val (.int (xs1.getD (J1).toNatClampNeg 0)), .val (.int (2 : Int32)), .val (.long (f1 (4 : Int32))), .second, .val (.int ((2 : Int32) * ((updI (updI S103 (own_dg (f1 (0 : Int32)) (xs1.getD (J1).toNatClampNeg 0)) ((S103 (own_dg (f1 (0 : Int32)) (xs1.getD (J1).toNatClampNeg 0))) + (1 : Int32))) (own_dg (f1 (2 : Int32)) (xs1.getD (J1).toNatClampNeg 0)) (((updI S103 (own_dg (f1 (0 : Int32)) (xs1.getD (J1).toNatClampNeg 0)) ((S103 (own_dg (f1 (0 : Int32)) (xs1.getD (J1).toNatClampNeg 0))) + (1 : Int32))) (own_dg (f1 (2 : Int32)) (xs1.getD (J1).toNatClampNeg 0))) + (1 : Int32))) (own_dg (f1 (4 : Int32)) (xs1.getD (J1).toNatClampNeg 0)))))] [(.long (f1 (4 : Int32))), (.int ((2 : Int32) * ((updI (updI S103 (own_dg (f1 (0 : Int32)) (xs1.getD (J1).toNatClampNeg 0)) ((S103 (own_dg (f1 (0 : Int32)) (xs1.getD (J1).toNatClampNeg 0))) + (1 : Int32))) (own_dg (f1 (2 : Int32)) (xs1.getD (J1).toNatClampNeg 0)) (((updI S103 (own_dg (f1 (0 : Int32)) (xs1.getD (J1).toNatClampNeg 0)) ((S103 (own_dg (f1 (0 : Int32)) (xs1.getD (J1).toNatClampNeg 0))) + (1 : Int32))) (own_dg (f1 (2 : Int32)) (xs1.getD (J1).toNatClampNeg 0))) + (1 : Int32))) (own_dg (f1 (4 : Int32)) (xs1.getD (J1).toNatClampNeg 0))))), (.ref B1)])) rfl rfl (hb hby dc0_294)
  have H140 : Lv Z h140 B1 6 (upd (upd (upd (upd (upd g1 ((2 : Int32) * (S103 (own_dg (f1 (0 : Int32)) (xs1.getD (J1).toNatClampNeg 0)))) (f1 (0 : Int32))) (((2 : Int32) * (S103 (own_dg (f1 (0 : Int32)) (xs1.getD (J1).toNatClampNeg 0)))) + (1 : Int32)) (f1 (1 : Int32))) ((2 : Int32) * ((updI S103 (own_dg (f1 (0 : Int32)) (xs1.getD (J1).toNatClampNeg 0)) ((S103 (own_dg (f1 (0 : Int32)) (xs1.getD (J1).toNatClampNeg 0))) + (1 : Int32))) (own_dg (f1 (2 : Int32)) (xs1.getD (J1).toNatClampNeg 0)))) (f1 (2 : Int32))) (((2 : Int32) * ((updI S103 (own_dg (f1 (0 : Int32)) (xs1.getD (J1).toNatClampNeg 0)) ((S103 (own_dg (f1 (0 : Int32)) (xs1.getD (J1).toNatClampNeg 0))) + (1 : Int32))) (own_dg (f1 (2 : Int32)) (xs1.getD (J1).toNatClampNeg 0)))) + (1 : Int32)) (f1 (3 : Int32))) ((2 : Int32) * ((updI (updI S103 (own_dg (f1 (0 : Int32)) (xs1.getD (J1).toNatClampNeg 0)) ((S103 (own_dg (f1 (0 : Int32)) (xs1.getD (J1).toNatClampNeg 0))) + (1 : Int32))) (own_dg (f1 (2 : Int32)) (xs1.getD (J1).toNatClampNeg 0)) (((updI S103 (own_dg (f1 (0 : Int32)) (xs1.getD (J1).toNatClampNeg 0)) ((S103 (own_dg (f1 (0 : Int32)) (xs1.getD (J1).toNatClampNeg 0))) + (1 : Int32))) (own_dg (f1 (2 : Int32)) (xs1.getD (J1).toNatClampNeg 0))) + (1 : Int32))) (own_dg (f1 (4 : Int32)) (xs1.getD (J1).toNatClampNeg 0)))) (f1 (4 : Int32))) := Lv.set Ar139 S139 H139 hin139 W140
  have N140 := Fr.snoc X140 N137 gB
  have f141 := ((f132.other W137 neAr).other W140 neAB)
  obtain ⟨cl142, Ar142, S142, H142⟩ := id f141
  have hin142 : ¬ ((5 : Int32) < 0 ∨ cl142.slots.size ≤ ((5 : Int32)).toNatClampNeg) := by rw [S142]; exact (by decide)
  have hat142 : cl142.slots[((5 : Int32)).toNatClampNeg]? = some (.long (f1 (5 : Int32))) := H142 _ hin142
  obtain ⟨cl143, Ar143, S143, H143⟩ := id H140
  have hin143 : ¬ ((((2 : Int32) * ((updI (updI S103 (own_dg (f1 (0 : Int32)) (xs1.getD (J1).toNatClampNeg 0)) ((S103 (own_dg (f1 (0 : Int32)) (xs1.getD (J1).toNatClampNeg 0))) + (1 : Int32))) (own_dg (f1 (2 : Int32)) (xs1.getD (J1).toNatClampNeg 0)) (((updI S103 (own_dg (f1 (0 : Int32)) (xs1.getD (J1).toNatClampNeg 0)) ((S103 (own_dg (f1 (0 : Int32)) (xs1.getD (J1).toNatClampNeg 0))) + (1 : Int32))) (own_dg (f1 (2 : Int32)) (xs1.getD (J1).toNatClampNeg 0))) + (1 : Int32))) (own_dg (f1 (4 : Int32)) (xs1.getD (J1).toNatClampNeg 0)))) + (1 : Int32)) < 0 ∨ cl143.slots.size ≤ ((((2 : Int32) * ((updI (updI S103 (own_dg (f1 (0 : Int32)) (xs1.getD (J1).toNatClampNeg 0)) ((S103 (own_dg (f1 (0 : Int32)) (xs1.getD (J1).toNatClampNeg 0))) + (1 : Int32))) (own_dg (f1 (2 : Int32)) (xs1.getD (J1).toNatClampNeg 0)) (((updI S103 (own_dg (f1 (0 : Int32)) (xs1.getD (J1).toNatClampNeg 0)) ((S103 (own_dg (f1 (0 : Int32)) (xs1.getD (J1).toNatClampNeg 0))) + (1 : Int32))) (own_dg (f1 (2 : Int32)) (xs1.getD (J1).toNatClampNeg 0))) + (1 : Int32))) (own_dg (f1 (4 : Int32)) (xs1.getD (J1).toNatClampNeg 0)))) + (1 : Int32))).toNatClampNeg) := by rw [S143]; exact (own_b1 stp.2.2.1)
  obtain ⟨T144, h144, X144, e144, W144, st144⟩ := stJ X140 hx hZ e140 Ar143 (j := (((2 : Int32) * ((updI (updI S103 (own_dg (f1 (0 : Int32)) (xs1.getD (J1).toNatClampNeg 0)) ((S103 (own_dg (f1 (0 : Int32)) (xs1.getD (J1).toNatClampNeg 0))) + (1 : Int32))) (own_dg (f1 (2 : Int32)) (xs1.getD (J1).toNatClampNeg 0)) (((updI S103 (own_dg (f1 (0 : Int32)) (xs1.getD (J1).toNatClampNeg 0)) ((S103 (own_dg (f1 (0 : Int32)) (xs1.getD (J1).toNatClampNeg 0))) + (1 : Int32))) (own_dg (f1 (2 : Int32)) (xs1.getD (J1).toNatClampNeg 0))) + (1 : Int32))) (own_dg (f1 (4 : Int32)) (xs1.getD (J1).toNatClampNeg 0)))) + (1 : Int32))) hin143 (g := (mkF m 310 #[s0, .val (.int (3 : Int32)), s2, s3, .val (.ref b4), .val (.int P1), .val (.ref b6), .val (.ref A1), .val (.ref B1), .val (.int J1), .val (.ref r1), .val (.int x103), .val (.int (xs1.getD (J1).toNatClampNeg 0)), .val (.int (2 : Int32)), .val (.long (f1 (4 : Int32))), .second, .val (.int ((2 : Int32) * ((updI (updI S103 (own_dg (f1 (0 : Int32)) (xs1.getD (J1).toNatClampNeg 0)) ((S103 (own_dg (f1 (0 : Int32)) (xs1.getD (J1).toNatClampNeg 0))) + (1 : Int32))) (own_dg (f1 (2 : Int32)) (xs1.getD (J1).toNatClampNeg 0)) (((updI S103 (own_dg (f1 (0 : Int32)) (xs1.getD (J1).toNatClampNeg 0)) ((S103 (own_dg (f1 (0 : Int32)) (xs1.getD (J1).toNatClampNeg 0))) + (1 : Int32))) (own_dg (f1 (2 : Int32)) (xs1.getD (J1).toNatClampNeg 0))) + (1 : Int32))) (own_dg (f1 (4 : Int32)) (xs1.getD (J1).toNatClampNeg 0)))))] [(.long (f1 (5 : Int32))), (.int (((2 : Int32) * ((updI (updI S103 (own_dg (f1 (0 : Int32)) (xs1.getD (J1).toNatClampNeg 0)) ((S103 (own_dg (f1 (0 : Int32)) (xs1.getD (J1).toNatClampNeg 0))) + (1 : Int32))) (own_dg (f1 (2 : Int32)) (xs1.getD (J1).toNatClampNeg 0)) (((updI S103 (own_dg (f1 (0 : Int32)) (xs1.getD (J1).toNatClampNeg 0)) ((S103 (own_dg (f1 (0 : Int32)) (xs1.getD (J1).toNatClampNeg 0))) + (1 : Int32))) (own_dg (f1 (2 : Int32)) (xs1.getD (J1).toNatClampNeg 0))) + (1 : Int32))) (own_dg (f1 (4 : Int32)) (xs1.getD (J1).toNatClampNeg 0)))) + (1 : Int32))), (.ref B1)])) rfl rfl (hb hby dc0_310)
  have H144 : Lv Z h144 B1 6 (upd (upd (upd (upd (upd (upd g1 ((2 : Int32) * (S103 (own_dg (f1 (0 : Int32)) (xs1.getD (J1).toNatClampNeg 0)))) (f1 (0 : Int32))) (((2 : Int32) * (S103 (own_dg (f1 (0 : Int32)) (xs1.getD (J1).toNatClampNeg 0)))) + (1 : Int32)) (f1 (1 : Int32))) ((2 : Int32) * ((updI S103 (own_dg (f1 (0 : Int32)) (xs1.getD (J1).toNatClampNeg 0)) ((S103 (own_dg (f1 (0 : Int32)) (xs1.getD (J1).toNatClampNeg 0))) + (1 : Int32))) (own_dg (f1 (2 : Int32)) (xs1.getD (J1).toNatClampNeg 0)))) (f1 (2 : Int32))) (((2 : Int32) * ((updI S103 (own_dg (f1 (0 : Int32)) (xs1.getD (J1).toNatClampNeg 0)) ((S103 (own_dg (f1 (0 : Int32)) (xs1.getD (J1).toNatClampNeg 0))) + (1 : Int32))) (own_dg (f1 (2 : Int32)) (xs1.getD (J1).toNatClampNeg 0)))) + (1 : Int32)) (f1 (3 : Int32))) ((2 : Int32) * ((updI (updI S103 (own_dg (f1 (0 : Int32)) (xs1.getD (J1).toNatClampNeg 0)) ((S103 (own_dg (f1 (0 : Int32)) (xs1.getD (J1).toNatClampNeg 0))) + (1 : Int32))) (own_dg (f1 (2 : Int32)) (xs1.getD (J1).toNatClampNeg 0)) (((updI S103 (own_dg (f1 (0 : Int32)) (xs1.getD (J1).toNatClampNeg 0)) ((S103 (own_dg (f1 (0 : Int32)) (xs1.getD (J1).toNatClampNeg 0))) + (1 : Int32))) (own_dg (f1 (2 : Int32)) (xs1.getD (J1).toNatClampNeg 0))) + (1 : Int32))) (own_dg (f1 (4 : Int32)) (xs1.getD (J1).toNatClampNeg 0)))) (f1 (4 : Int32))) (((2 : Int32) * ((updI (updI S103 (own_dg (f1 (0 : Int32)) (xs1.getD (J1).toNatClampNeg 0)) ((S103 (own_dg (f1 (0 : Int32)) (xs1.getD (J1).toNatClampNeg 0))) + (1 : Int32))) (own_dg (f1 (2 : Int32)) (xs1.getD (J1).toNatClampNeg 0)) (((updI S103 (own_dg (f1 (0 : Int32)) (xs1.getD (J1).toNatClampNeg 0)) ((S103 (own_dg (f1 (0 : Int32)) (xs1.getD (J1).toNatClampNeg 0))) + (1 : Int32))) (own_dg (f1 (2 : Int32)) (xs1.getD (J1).toNatClampNeg 0))) + (1 : Int32))) (own_dg (f1 (4 : Int32)) (xs1.getD (J1).toNatClampNeg 0)))) + (1 : Int32)) (f1 (5 : Int32))) := Lv.set Ar143 S143 H143 hin143 W144
  have N144 := Fr.snoc X144 N140 gB
  have pre145 : ∀ t, Steps p.tables e below (T144.setTop (mkF m 182 #[s0, .val (.int (3 : Int32)), s2, s3, .val (.ref b4), .val (.int P1), .val (.ref b6), .val (.ref B1), .val (.ref A1), .val (.int (J1 + (1 : Int32))), .val (.ref r1), .val (.int x103), .val (.int (xs1.getD (J1).toNatClampNeg 0)), .val (.ref B1), .val (.long (f1 (4 : Int32))), .second, .val (.int ((2 : Int32) * ((updI (updI S103 (own_dg (f1 (0 : Int32)) (xs1.getD (J1).toNatClampNeg 0)) ((S103 (own_dg (f1 (0 : Int32)) (xs1.getD (J1).toNatClampNeg 0))) + (1 : Int32))) (own_dg (f1 (2 : Int32)) (xs1.getD (J1).toNatClampNeg 0)) (((updI S103 (own_dg (f1 (0 : Int32)) (xs1.getD (J1).toNatClampNeg 0)) ((S103 (own_dg (f1 (0 : Int32)) (xs1.getD (J1).toNatClampNeg 0))) + (1 : Int32))) (own_dg (f1 (2 : Int32)) (xs1.getD (J1).toNatClampNeg 0))) + (1 : Int32))) (own_dg (f1 (4 : Int32)) (xs1.getD (J1).toNatClampNeg 0)))))] [])) t → Steps p.tables e below (st0) t := fun t kt => pre103 t (by
      show Steps p.tables e below (T103.setTop (mkF m 202 #[s0, .val (.int (3 : Int32)), s2, s3, .val (.ref b4), .val (.int P1), .val (.ref b6), .val (.ref A1), .val (.ref B1), .val (.int J1), .val (.ref r1), .val (.int x103), .val (.int (256 : Int32)), w103, .unset, .unset, .unset] [])) _
      refine XS.iload X103.here hx rfl (hb hby dc0_202) rfl ?_
      refine XS.aload X103.here hx rfl (hb hby dc0_204) rfl rfl ?_
      refine X103.arraylength hx (by rw [e103]; exact Ar104.1) (State.isArrayOf_alike hZ.alike Ar104.2.1) (g := (mkF m 206 #[s0, .val (.int (3 : Int32)), s2, s3, .val (.ref b4), .val (.int P1), .val (.ref b6), .val (.ref A1), .val (.ref B1), .val (.int J1), .val (.ref r1), .val (.int x103), .val (.int (256 : Int32)), w103, .unset, .unset, .unset] [(.ref r1), (.int (256 : Int32))])) rfl rfl (hb hby dc0_206) _ ?_
      rw [show cl104.slots.size.toInt32 = (256 : Int32) from by rw [S104]; rfl]
      show Steps p.tables e below (T103.setTop (mkF m 207 #[s0, .val (.int (3 : Int32)), s2, s3, .val (.ref b4), .val (.int P1), .val (.ref b6), .val (.ref A1), .val (.ref B1), .val (.int J1), .val (.ref r1), .val (.int x103), .val (.int (256 : Int32)), w103, .unset, .unset, .unset] [(.int (256 : Int32)), (.int (256 : Int32))])) _
      refine XS.icmpYes X103.here hx rfl (pc0 := 207) (pc' := 237) rfl (hb hby dc0_207) rfl (by decide) (by decide) (by decide) ?_
      refine XS.aload X103.here hx rfl (hb hby dc0_237) rfl rfl ?_
      refine XS.iload X103.here hx rfl (hb hby dc0_239) rfl ?_
      refine X103.iaload hx (j := J1) (v := (.int (xs1.getD (J1).toNatClampNeg 0))) (by rw [e103]; exact Ar106.1) (State.isArrayOf_alike hZ.alike Ar106.2.1) Ar106.2.2 hin106 hat106 (g := (mkF m 241 #[s0, .val (.int (3 : Int32)), s2, s3, .val (.ref b4), .val (.int P1), .val (.ref b6), .val (.ref A1), .val (.ref B1), .val (.int J1), .val (.ref r1), .val (.int x103), .val (.int (256 : Int32)), w103, .unset, .unset, .unset] [(.int J1), (.ref b4)])) rfl rfl (hb hby dc0_241) _ ?_
      refine XS.istore X103.here hx rfl (hb hby dc0_242) rfl (l' := #[s0, .val (.int (3 : Int32)), s2, s3, .val (.ref b4), .val (.int P1), .val (.ref b6), .val (.ref A1), .val (.ref B1), .val (.int J1), .val (.ref r1), .val (.int x103), .val (.int (xs1.getD (J1).toNatClampNeg 0)), w103, .unset, .unset, .unset]) rfl ?_
      show Steps p.tables e below (T103.setTop (mkF m 244 #[s0, .val (.int (3 : Int32)), s2, s3, .val (.ref b4), .val (.int P1), .val (.ref b6), .val (.ref A1), .val (.ref B1), .val (.int J1), .val (.ref r1), .val (.int x103), .val (.int (xs1.getD (J1).toNatClampNeg 0)), w103, .unset, .unset, .unset] [])) _
      refine XS.iconst X103.here hx rfl (hb hby dc0_244) ?_
      refine XS.istore X103.here hx rfl (hb hby dc0_245) rfl (l' := #[s0, .val (.int (3 : Int32)), s2, s3, .val (.ref b4), .val (.int P1), .val (.ref b6), .val (.ref A1), .val (.ref B1), .val (.int J1), .val (.ref r1), .val (.int x103), .val (.int (xs1.getD (J1).toNatClampNeg 0)), .val (.int (0 : Int32)), .unset, .unset, .unset]) (os_1 hw103) ?_
      refine XS.iload X103.here hx rfl (hb hby dc0_247) rfl ?_
      refine XS.iloadN X103.here hx rfl (hb hby dc0_249) rfl ?_
      show Steps p.tables e below (T103.setTop (mkF m 250 #[s0, .val (.int (3 : Int32)), s2, s3, .val (.ref b4), .val (.int P1), .val (.ref b6), .val (.ref A1), .val (.ref B1), .val (.int J1), .val (.ref r1), .val (.int x103), .val (.int (xs1.getD (J1).toNatClampNeg 0)), .val (.int (0 : Int32)), .unset, .unset, .unset] [(.int (3 : Int32)), (.int (0 : Int32))])) _
      refine XS.icmpNo X103.here hx rfl (hb hby dc0_250) rfl (by decide) ?_
      show Steps p.tables e below (T103.setTop (mkF m 253 #[s0, .val (.int (3 : Int32)), s2, s3, .val (.ref b4), .val (.int P1), .val (.ref b6), .val (.ref A1), .val (.ref B1), .val (.int J1), .val (.ref r1), .val (.int x103), .val (.int (xs1.getD (J1).toNatClampNeg 0)), .val (.int (0 : Int32)), .unset, .unset, .unset] [])) _
      refine XS.aload X103.here hx rfl (hb hby dc0_253) rfl rfl ?_
      refine XS.iconst X103.here hx rfl (hb hby dc0_255) ?_
      refine XS.iload X103.here hx rfl (hb hby dc0_256) rfl ?_
      refine XS.imul X103.here hx rfl (hb hby dc0_258) rfl ?_
      refine X103.laload hx (j := (0 : Int32)) (v := (.long (f1 (0 : Int32)))) (by rw [e103]; exact Ar108.1) (State.isArrayOf_alike hZ.alike Ar108.2.1) Ar108.2.2 hin108 hat108 (g := (mkF m 259 #[s0, .val (.int (3 : Int32)), s2, s3, .val (.ref b4), .val (.int P1), .val (.ref b6), .val (.ref A1), .val (.ref B1), .val (.int J1), .val (.ref r1), .val (.int x103), .val (.int (xs1.getD (J1).toNatClampNeg 0)), .val (.int (0 : Int32)), .unset, .unset, .unset] [(.int (0 : Int32)), (.ref A1)])) rfl rfl (hb hby dc0_259) _ ?_
      show Steps p.tables e below (T103.setTop (mkF m 260 #[s0, .val (.int (3 : Int32)), s2, s3, .val (.ref b4), .val (.int P1), .val (.ref b6), .val (.ref A1), .val (.ref B1), .val (.int J1), .val (.ref r1), .val (.int x103), .val (.int (xs1.getD (J1).toNatClampNeg 0)), .val (.int (0 : Int32)), .unset, .unset, .unset] [(.long (f1 (0 : Int32)))])) _
      refine XS.lstore X103.here hx rfl (hb hby dc0_260) rfl (l' := #[s0, .val (.int (3 : Int32)), s2, s3, .val (.ref b4), .val (.int P1), .val (.ref b6), .val (.ref A1), .val (.ref B1), .val (.int J1), .val (.ref r1), .val (.int x103), .val (.int (xs1.getD (J1).toNatClampNeg 0)), .val (.int (0 : Int32)), .val (.long (f1 (0 : Int32))), .second, .unset]) rfl ?_
      refine XS.iconst X103.here hx rfl (hb hby dc0_262) ?_
      refine XS.aload X103.here hx rfl (hb hby dc0_263) rfl rfl ?_
      refine XS.lload X103.here hx rfl (hb hby dc0_265) rfl ?_
      refine X103.ldc2Long hx hown (mvT hZ (hw _ (List.mem_of_getElem? (i := 9) rfl))) (g := (mkF m 267 #[s0, .val (.int (3 : Int32)), s2, s3, .val (.ref b4), .val (.int P1), .val (.ref b6), .val (.ref A1), .val (.ref B1), .val (.int J1), .val (.ref r1), .val (.int x103), .val (.int (xs1.getD (J1).toNatClampNeg 0)), .val (.int (0 : Int32)), .val (.long (f1 (0 : Int32))), .second, .unset] [(.long (f1 (0 : Int32))), (.ref r1), (.int (2 : Int32))])) rfl (hb hby dc0_267) _ ?_
      show Steps p.tables e below (T103.setTop (mkF m 270 #[s0, .val (.int (3 : Int32)), s2, s3, .val (.ref b4), .val (.int P1), .val (.ref b6), .val (.ref A1), .val (.ref B1), .val (.int J1), .val (.ref r1), .val (.int x103), .val (.int (xs1.getD (J1).toNatClampNeg 0)), .val (.int (0 : Int32)), .val (.long (f1 (0 : Int32))), .second, .unset] [(.long (-9223372036854775808 : Int64)), (.long (f1 (0 : Int32))), (.ref r1), (.int (2 : Int32))])) _
      refine XS.lxor X103.here hx rfl (hb hby dc0_270) rfl ?_
      refine XS.iload X103.here hx rfl (hb hby dc0_271) rfl ?_
      refine XS.lushr X103.here hx rfl (hb hby dc0_273) rfl ?_
      refine XS.l2i X103.here hx rfl (hb hby dc0_274) rfl ?_
      refine XS.sipush X103.here hx rfl (hb hby dc0_275) ?_
      show Steps p.tables e below (T103.setTop (mkF m 278 #[s0, .val (.int (3 : Int32)), s2, s3, .val (.ref b4), .val (.int P1), .val (.ref b6), .val (.ref A1), .val (.ref B1), .val (.int J1), .val (.ref r1), .val (.int x103), .val (.int (xs1.getD (J1).toNatClampNeg 0)), .val (.int (0 : Int32)), .val (.long (f1 (0 : Int32))), .second, .unset] [(.int (255 : Int32)), (.int (((((f1 (0 : Int32)) ^^^ (-9223372036854775808 : Int64)).toUInt64 >>> ((xs1.getD (J1).toNatClampNeg 0) &&& 0x3f).toInt64.toUInt64).toInt64).toInt32)), (.ref r1), (.int (2 : Int32))])) _
      refine XS.iand X103.here hx rfl (hb hby dc0_278) rfl ?_
      show Steps p.tables e below (T103.setTop (mkF m 279 #[s0, .val (.int (3 : Int32)), s2, s3, .val (.ref b4), .val (.int P1), .val (.ref b6), .val (.ref A1), .val (.ref B1), .val (.int J1), .val (.ref r1), .val (.int x103), .val (.int (xs1.getD (J1).toNatClampNeg 0)), .val (.int (0 : Int32)), .val (.long (f1 (0 : Int32))), .second, .unset] [(.int ((((((f1 (0 : Int32)) ^^^ (-9223372036854775808 : Int64)).toUInt64 >>> ((xs1.getD (J1).toNatClampNeg 0) &&& 0x3f).toInt64.toUInt64).toInt64).toInt32) &&& (255 : Int32))), (.ref r1), (.int (2 : Int32))])) _
      rw [(show ((((((f1 (0 : Int32)) ^^^ (-9223372036854775808 : Int64)).toUInt64 >>> ((xs1.getD (J1).toNatClampNeg 0) &&& 0x3f).toInt64.toUInt64).toInt64).toInt32) &&& (255 : Int32)) = own_dg (f1 (0 : Int32)) (xs1.getD (J1).toNatClampNeg 0) from rfl)]
      jvm_step X103.here [X103.here.top, hx, (hb hby dc0_279), Value.category]
      refine X103.iaload hx (j := (own_dg (f1 (0 : Int32)) (xs1.getD (J1).toNatClampNeg 0))) (v := (.int (S103 (own_dg (f1 (0 : Int32)) (xs1.getD (J1).toNatClampNeg 0))))) (by rw [e103]; exact Ar109.1) (State.isArrayOf_alike hZ.alike Ar109.2.1) Ar109.2.2 hin109 hat109 (g := (mkF m 280 #[s0, .val (.int (3 : Int32)), s2, s3, .val (.ref b4), .val (.int P1), .val (.ref b6), .val (.ref A1), .val (.ref B1), .val (.int J1), .val (.ref r1), .val (.int x103), .val (.int (xs1.getD (J1).toNatClampNeg 0)), .val (.int (0 : Int32)), .val (.long (f1 (0 : Int32))), .second, .unset] [(.int (own_dg (f1 (0 : Int32)) (xs1.getD (J1).toNatClampNeg 0))), (.ref r1), (.int (own_dg (f1 (0 : Int32)) (xs1.getD (J1).toNatClampNeg 0))), (.ref r1), (.int (2 : Int32))])) rfl rfl (hb hby dc0_280) _ ?_
      jvm_step X103.here [X103.here.top, hx, (hb hby dc0_281), Value.category]
      show Steps p.tables e below (T103.setTop (mkF m 282 #[s0, .val (.int (3 : Int32)), s2, s3, .val (.ref b4), .val (.int P1), .val (.ref b6), .val (.ref A1), .val (.ref B1), .val (.int J1), .val (.ref r1), .val (.int x103), .val (.int (xs1.getD (J1).toNatClampNeg 0)), .val (.int (0 : Int32)), .val (.long (f1 (0 : Int32))), .second, .unset] [(.int (S103 (own_dg (f1 (0 : Int32)) (xs1.getD (J1).toNatClampNeg 0)))), (.int (own_dg (f1 (0 : Int32)) (xs1.getD (J1).toNatClampNeg 0))), (.ref r1), (.int (S103 (own_dg (f1 (0 : Int32)) (xs1.getD (J1).toNatClampNeg 0)))), (.int (2 : Int32))])) _
      refine XS.iconst X103.here hx rfl (hb hby dc0_282) ?_
      refine XS.iadd X103.here hx rfl (hb hby dc0_283) rfl ?_
      refine st111 _ ?_
      refine XS.imul X111.here hx rfl (hb hby dc0_285) rfl ?_
      refine XS.istore X111.here hx rfl (hb hby dc0_286) rfl (l' := #[s0, .val (.int (3 : Int32)), s2, s3, .val (.ref b4), .val (.int P1), .val (.ref b6), .val (.ref A1), .val (.ref B1), .val (.int J1), .val (.ref r1), .val (.int x103), .val (.int (xs1.getD (J1).toNatClampNeg 0)), .val (.int (0 : Int32)), .val (.long (f1 (0 : Int32))), .second, .val (.int ((2 : Int32) * (S103 (own_dg (f1 (0 : Int32)) (xs1.getD (J1).toNatClampNeg 0)))))]) rfl ?_
      show Steps p.tables e below (T111.setTop (mkF m 288 #[s0, .val (.int (3 : Int32)), s2, s3, .val (.ref b4), .val (.int P1), .val (.ref b6), .val (.ref A1), .val (.ref B1), .val (.int J1), .val (.ref r1), .val (.int x103), .val (.int (xs1.getD (J1).toNatClampNeg 0)), .val (.int (0 : Int32)), .val (.long (f1 (0 : Int32))), .second, .val (.int ((2 : Int32) * (S103 (own_dg (f1 (0 : Int32)) (xs1.getD (J1).toNatClampNeg 0)))))] [])) _
      refine XS.aload X111.here hx rfl (hb hby dc0_288) rfl rfl ?_
      refine XS.iload X111.here hx rfl (hb hby dc0_290) rfl ?_
      refine XS.lload X111.here hx rfl (hb hby dc0_292) rfl ?_
      refine st114 _ ?_
      refine XS.aload X114.here hx rfl (hb hby dc0_295) rfl rfl ?_
      show Steps p.tables e below (T114.setTop (mkF m 297 #[s0, .val (.int (3 : Int32)), s2, s3, .val (.ref b4), .val (.int P1), .val (.ref b6), .val (.ref A1), .val (.ref B1), .val (.int J1), .val (.ref r1), .val (.int x103), .val (.int (xs1.getD (J1).toNatClampNeg 0)), .val (.int (0 : Int32)), .val (.long (f1 (0 : Int32))), .second, .val (.int ((2 : Int32) * (S103 (own_dg (f1 (0 : Int32)) (xs1.getD (J1).toNatClampNeg 0)))))] [(.ref B1)])) _
      refine XS.iload X114.here hx rfl (hb hby dc0_297) rfl ?_
      refine XS.iconst X114.here hx rfl (hb hby dc0_299) ?_
      refine XS.iadd X114.here hx rfl (hb hby dc0_300) rfl ?_
      refine XS.aload X114.here hx rfl (hb hby dc0_301) rfl rfl ?_
      refine XS.iconst X114.here hx rfl (hb hby dc0_303) ?_
      show Steps p.tables e below (T114.setTop (mkF m 304 #[s0, .val (.int (3 : Int32)), s2, s3, .val (.ref b4), .val (.int P1), .val (.ref b6), .val (.ref A1), .val (.ref B1), .val (.int J1), .val (.ref r1), .val (.int x103), .val (.int (xs1.getD (J1).toNatClampNeg 0)), .val (.int (0 : Int32)), .val (.long (f1 (0 : Int32))), .second, .val (.int ((2 : Int32) * (S103 (own_dg (f1 (0 : Int32)) (xs1.getD (J1).toNatClampNeg 0)))))] [(.int (2 : Int32)), (.ref A1), (.int (((2 : Int32) * (S103 (own_dg (f1 (0 : Int32)) (xs1.getD (J1).toNatClampNeg 0)))) + (1 : Int32))), (.ref B1)])) _
      refine XS.iload X114.here hx rfl (hb hby dc0_304) rfl ?_
      refine XS.imul X114.here hx rfl (hb hby dc0_306) rfl ?_
      refine XS.iconst X114.here hx rfl (hb hby dc0_307) ?_
      refine XS.iadd X114.here hx rfl (hb hby dc0_308) rfl ?_
      refine X114.laload hx (j := (1 : Int32)) (v := (.long (f1 (1 : Int32)))) (by rw [e114]; exact Ar116.1) (State.isArrayOf_alike hZ.alike Ar116.2.1) Ar116.2.2 hin116 hat116 (g := (mkF m 309 #[s0, .val (.int (3 : Int32)), s2, s3, .val (.ref b4), .val (.int P1), .val (.ref b6), .val (.ref A1), .val (.ref B1), .val (.int J1), .val (.ref r1), .val (.int x103), .val (.int (xs1.getD (J1).toNatClampNeg 0)), .val (.int (0 : Int32)), .val (.long (f1 (0 : Int32))), .second, .val (.int ((2 : Int32) * (S103 (own_dg (f1 (0 : Int32)) (xs1.getD (J1).toNatClampNeg 0)))))] [(.int (1 : Int32)), (.ref A1), (.int (((2 : Int32) * (S103 (own_dg (f1 (0 : Int32)) (xs1.getD (J1).toNatClampNeg 0)))) + (1 : Int32))), (.ref B1)])) rfl rfl (hb hby dc0_309) _ ?_
      show Steps p.tables e below (T114.setTop (mkF m 310 #[s0, .val (.int (3 : Int32)), s2, s3, .val (.ref b4), .val (.int P1), .val (.ref b6), .val (.ref A1), .val (.ref B1), .val (.int J1), .val (.ref r1), .val (.int x103), .val (.int (xs1.getD (J1).toNatClampNeg 0)), .val (.int (0 : Int32)), .val (.long (f1 (0 : Int32))), .second, .val (.int ((2 : Int32) * (S103 (own_dg (f1 (0 : Int32)) (xs1.getD (J1).toNatClampNeg 0)))))] [(.long (f1 (1 : Int32))), (.int (((2 : Int32) * (S103 (own_dg (f1 (0 : Int32)) (xs1.getD (J1).toNatClampNeg 0)))) + (1 : Int32))), (.ref B1)])) _
      refine st118 _ ?_
      refine XS.iinc X118.here hx rfl (hb hby dc0_311) rfl (l' := #[s0, .val (.int (3 : Int32)), s2, s3, .val (.ref b4), .val (.int P1), .val (.ref b6), .val (.ref A1), .val (.ref B1), .val (.int J1), .val (.ref r1), .val (.int x103), .val (.int (xs1.getD (J1).toNatClampNeg 0)), .val (.int (1 : Int32)), .val (.long (f1 (0 : Int32))), .second, .val (.int ((2 : Int32) * (S103 (own_dg (f1 (0 : Int32)) (xs1.getD (J1).toNatClampNeg 0)))))]) rfl ?_
      refine XS.goto X118.here hx rfl (pc0 := 314) (pc' := 247) rfl (hb hby dc0_314) (by decide) (by decide) ?_
      refine XS.iload X118.here hx rfl (hb hby dc0_247) rfl ?_
      refine XS.iloadN X118.here hx rfl (hb hby dc0_249) rfl ?_
      show Steps p.tables e below (T118.setTop (mkF m 250 #[s0, .val (.int (3 : Int32)), s2, s3, .val (.ref b4), .val (.int P1), .val (.ref b6), .val (.ref A1), .val (.ref B1), .val (.int J1), .val (.ref r1), .val (.int x103), .val (.int (xs1.getD (J1).toNatClampNeg 0)), .val (.int (1 : Int32)), .val (.long (f1 (0 : Int32))), .second, .val (.int ((2 : Int32) * (S103 (own_dg (f1 (0 : Int32)) (xs1.getD (J1).toNatClampNeg 0)))))] [(.int (3 : Int32)), (.int (1 : Int32))])) _
      refine XS.icmpNo X118.here hx rfl (hb hby dc0_250) rfl (by decide) ?_
      refine XS.aload X118.here hx rfl (hb hby dc0_253) rfl rfl ?_
      refine XS.iconst X118.here hx rfl (hb hby dc0_255) ?_
      refine XS.iload X118.here hx rfl (hb hby dc0_256) rfl ?_
      refine XS.imul X118.here hx rfl (hb hby dc0_258) rfl ?_
      show Steps p.tables e below (T118.setTop (mkF m 259 #[s0, .val (.int (3 : Int32)), s2, s3, .val (.ref b4), .val (.int P1), .val (.ref b6), .val (.ref A1), .val (.ref B1), .val (.int J1), .val (.ref r1), .val (.int x103), .val (.int (xs1.getD (J1).toNatClampNeg 0)), .val (.int (1 : Int32)), .val (.long (f1 (0 : Int32))), .second, .val (.int ((2 : Int32) * (S103 (own_dg (f1 (0 : Int32)) (xs1.getD (J1).toNatClampNeg 0)))))] [(.int (2 : Int32)), (.ref A1)])) _
      refine X118.laload hx (j := (2 : Int32)) (v := (.long (f1 (2 : Int32)))) (by rw [e118]; exact Ar120.1) (State.isArrayOf_alike hZ.alike Ar120.2.1) Ar120.2.2 hin120 hat120 (g := (mkF m 259 #[s0, .val (.int (3 : Int32)), s2, s3, .val (.ref b4), .val (.int P1), .val (.ref b6), .val (.ref A1), .val (.ref B1), .val (.int J1), .val (.ref r1), .val (.int x103), .val (.int (xs1.getD (J1).toNatClampNeg 0)), .val (.int (1 : Int32)), .val (.long (f1 (0 : Int32))), .second, .val (.int ((2 : Int32) * (S103 (own_dg (f1 (0 : Int32)) (xs1.getD (J1).toNatClampNeg 0)))))] [(.int (2 : Int32)), (.ref A1)])) rfl rfl (hb hby dc0_259) _ ?_
      refine XS.lstore X118.here hx rfl (hb hby dc0_260) rfl (l' := #[s0, .val (.int (3 : Int32)), s2, s3, .val (.ref b4), .val (.int P1), .val (.ref b6), .val (.ref A1), .val (.ref B1), .val (.int J1), .val (.ref r1), .val (.int x103), .val (.int (xs1.getD (J1).toNatClampNeg 0)), .val (.int (1 : Int32)), .val (.long (f1 (2 : Int32))), .second, .val (.int ((2 : Int32) * (S103 (own_dg (f1 (0 : Int32)) (xs1.getD (J1).toNatClampNeg 0)))))]) rfl ?_
      refine XS.iconst X118.here hx rfl (hb hby dc0_262) ?_
      refine XS.aload X118.here hx rfl (hb hby dc0_263) rfl rfl ?_
      refine XS.lload X118.here hx rfl (hb hby dc0_265) rfl ?_
      show Steps p.tables e below (T118.setTop (mkF m 267 #[s0, .val (.int (3 : Int32)), s2, s3, .val (.ref b4), .val (.int P1), .val (.ref b6), .val (.ref A1), .val (.ref B1), .val (.int J1), .val (.ref r1), .val (.int x103), .val (.int (xs1.getD (J1).toNatClampNeg 0)), .val (.int (1 : Int32)), .val (.long (f1 (2 : Int32))), .second, .val (.int ((2 : Int32) * (S103 (own_dg (f1 (0 : Int32)) (xs1.getD (J1).toNatClampNeg 0)))))] [(.long (f1 (2 : Int32))), (.ref r1), (.int (2 : Int32))])) _
      refine X118.ldc2Long hx hown (mvT hZ (hw _ (List.mem_of_getElem? (i := 9) rfl))) (g := (mkF m 267 #[s0, .val (.int (3 : Int32)), s2, s3, .val (.ref b4), .val (.int P1), .val (.ref b6), .val (.ref A1), .val (.ref B1), .val (.int J1), .val (.ref r1), .val (.int x103), .val (.int (xs1.getD (J1).toNatClampNeg 0)), .val (.int (1 : Int32)), .val (.long (f1 (2 : Int32))), .second, .val (.int ((2 : Int32) * (S103 (own_dg (f1 (0 : Int32)) (xs1.getD (J1).toNatClampNeg 0)))))] [(.long (f1 (2 : Int32))), (.ref r1), (.int (2 : Int32))])) rfl (hb hby dc0_267) _ ?_
      refine XS.lxor X118.here hx rfl (hb hby dc0_270) rfl ?_
      refine XS.iload X118.here hx rfl (hb hby dc0_271) rfl ?_
      refine XS.lushr X118.here hx rfl (hb hby dc0_273) rfl ?_
      refine XS.l2i X118.here hx rfl (hb hby dc0_274) rfl ?_
      show Steps p.tables e below (T118.setTop (mkF m 275 #[s0, .val (.int (3 : Int32)), s2, s3, .val (.ref b4), .val (.int P1), .val (.ref b6), .val (.ref A1), .val (.ref B1), .val (.int J1), .val (.ref r1), .val (.int x103), .val (.int (xs1.getD (J1).toNatClampNeg 0)), .val (.int (1 : Int32)), .val (.long (f1 (2 : Int32))), .second, .val (.int ((2 : Int32) * (S103 (own_dg (f1 (0 : Int32)) (xs1.getD (J1).toNatClampNeg 0)))))] [(.int (((((f1 (2 : Int32)) ^^^ (-9223372036854775808 : Int64)).toUInt64 >>> ((xs1.getD (J1).toNatClampNeg 0) &&& 0x3f).toInt64.toUInt64).toInt64).toInt32)), (.ref r1), (.int (2 : Int32))])) _
      refine XS.sipush X118.here hx rfl (hb hby dc0_275) ?_
      refine XS.iand X118.here hx rfl (hb hby dc0_278) rfl ?_
      show Steps p.tables e below (T118.setTop (mkF m 279 #[s0, .val (.int (3 : Int32)), s2, s3, .val (.ref b4), .val (.int P1), .val (.ref b6), .val (.ref A1), .val (.ref B1), .val (.int J1), .val (.ref r1), .val (.int x103), .val (.int (xs1.getD (J1).toNatClampNeg 0)), .val (.int (1 : Int32)), .val (.long (f1 (2 : Int32))), .second, .val (.int ((2 : Int32) * (S103 (own_dg (f1 (0 : Int32)) (xs1.getD (J1).toNatClampNeg 0)))))] [(.int ((((((f1 (2 : Int32)) ^^^ (-9223372036854775808 : Int64)).toUInt64 >>> ((xs1.getD (J1).toNatClampNeg 0) &&& 0x3f).toInt64.toUInt64).toInt64).toInt32) &&& (255 : Int32))), (.ref r1), (.int (2 : Int32))])) _
      rw [(show ((((((f1 (2 : Int32)) ^^^ (-9223372036854775808 : Int64)).toUInt64 >>> ((xs1.getD (J1).toNatClampNeg 0) &&& 0x3f).toInt64.toUInt64).toInt64).toInt32) &&& (255 : Int32)) = own_dg (f1 (2 : Int32)) (xs1.getD (J1).toNatClampNeg 0) from rfl)]
      jvm_step X118.here [X118.here.top, hx, (hb hby dc0_279), Value.category]
      refine X118.iaload hx (j := (own_dg (f1 (2 : Int32)) (xs1.getD (J1).toNatClampNeg 0))) (v := (.int ((updI S103 (own_dg (f1 (0 : Int32)) (xs1.getD (J1).toNatClampNeg 0)) ((S103 (own_dg (f1 (0 : Int32)) (xs1.getD (J1).toNatClampNeg 0))) + (1 : Int32))) (own_dg (f1 (2 : Int32)) (xs1.getD (J1).toNatClampNeg 0))))) (by rw [e118]; exact Ar122.1) (State.isArrayOf_alike hZ.alike Ar122.2.1) Ar122.2.2 hin122 hat122 (g := (mkF m 280 #[s0, .val (.int (3 : Int32)), s2, s3, .val (.ref b4), .val (.int P1), .val (.ref b6), .val (.ref A1), .val (.ref B1), .val (.int J1), .val (.ref r1), .val (.int x103), .val (.int (xs1.getD (J1).toNatClampNeg 0)), .val (.int (1 : Int32)), .val (.long (f1 (2 : Int32))), .second, .val (.int ((2 : Int32) * (S103 (own_dg (f1 (0 : Int32)) (xs1.getD (J1).toNatClampNeg 0)))))] [(.int (own_dg (f1 (2 : Int32)) (xs1.getD (J1).toNatClampNeg 0))), (.ref r1), (.int (own_dg (f1 (2 : Int32)) (xs1.getD (J1).toNatClampNeg 0))), (.ref r1), (.int (2 : Int32))])) rfl rfl (hb hby dc0_280) _ ?_
      show Steps p.tables e below (T118.setTop (mkF m 281 #[s0, .val (.int (3 : Int32)), s2, s3, .val (.ref b4), .val (.int P1), .val (.ref b6), .val (.ref A1), .val (.ref B1), .val (.int J1), .val (.ref r1), .val (.int x103), .val (.int (xs1.getD (J1).toNatClampNeg 0)), .val (.int (1 : Int32)), .val (.long (f1 (2 : Int32))), .second, .val (.int ((2 : Int32) * (S103 (own_dg (f1 (0 : Int32)) (xs1.getD (J1).toNatClampNeg 0)))))] [(.int ((updI S103 (own_dg (f1 (0 : Int32)) (xs1.getD (J1).toNatClampNeg 0)) ((S103 (own_dg (f1 (0 : Int32)) (xs1.getD (J1).toNatClampNeg 0))) + (1 : Int32))) (own_dg (f1 (2 : Int32)) (xs1.getD (J1).toNatClampNeg 0)))), (.int (own_dg (f1 (2 : Int32)) (xs1.getD (J1).toNatClampNeg 0))), (.ref r1), (.int (2 : Int32))])) _
      jvm_step X118.here [X118.here.top, hx, (hb hby dc0_281), Value.category]
      refine XS.iconst X118.here hx rfl (hb hby dc0_282) ?_
      refine XS.iadd X118.here hx rfl (hb hby dc0_283) rfl ?_
      refine st124 _ ?_
      refine XS.imul X124.here hx rfl (hb hby dc0_285) rfl ?_
      show Steps p.tables e below (T124.setTop (mkF m 286 #[s0, .val (.int (3 : Int32)), s2, s3, .val (.ref b4), .val (.int P1), .val (.ref b6), .val (.ref A1), .val (.ref B1), .val (.int J1), .val (.ref r1), .val (.int x103), .val (.int (xs1.getD (J1).toNatClampNeg 0)), .val (.int (1 : Int32)), .val (.long (f1 (2 : Int32))), .second, .val (.int ((2 : Int32) * (S103 (own_dg (f1 (0 : Int32)) (xs1.getD (J1).toNatClampNeg 0)))))] [(.int ((2 : Int32) * ((updI S103 (own_dg (f1 (0 : Int32)) (xs1.getD (J1).toNatClampNeg 0)) ((S103 (own_dg (f1 (0 : Int32)) (xs1.getD (J1).toNatClampNeg 0))) + (1 : Int32))) (own_dg (f1 (2 : Int32)) (xs1.getD (J1).toNatClampNeg 0)))))])) _
      refine XS.istore X124.here hx rfl (hb hby dc0_286) rfl (l' := #[s0, .val (.int (3 : Int32)), s2, s3, .val (.ref b4), .val (.int P1), .val (.ref b6), .val (.ref A1), .val (.ref B1), .val (.int J1), .val (.ref r1), .val (.int x103), .val (.int (xs1.getD (J1).toNatClampNeg 0)), .val (.int (1 : Int32)), .val (.long (f1 (2 : Int32))), .second, .val (.int ((2 : Int32) * ((updI S103 (own_dg (f1 (0 : Int32)) (xs1.getD (J1).toNatClampNeg 0)) ((S103 (own_dg (f1 (0 : Int32)) (xs1.getD (J1).toNatClampNeg 0))) + (1 : Int32))) (own_dg (f1 (2 : Int32)) (xs1.getD (J1).toNatClampNeg 0)))))]) rfl ?_
      refine XS.aload X124.here hx rfl (hb hby dc0_288) rfl rfl ?_
      refine XS.iload X124.here hx rfl (hb hby dc0_290) rfl ?_
      refine XS.lload X124.here hx rfl (hb hby dc0_292) rfl ?_
      refine st127 _ ?_
      show Steps p.tables e below (T127.setTop (mkF m 295 #[s0, .val (.int (3 : Int32)), s2, s3, .val (.ref b4), .val (.int P1), .val (.ref b6), .val (.ref A1), .val (.ref B1), .val (.int J1), .val (.ref r1), .val (.int x103), .val (.int (xs1.getD (J1).toNatClampNeg 0)), .val (.int (1 : Int32)), .val (.long (f1 (2 : Int32))), .second, .val (.int ((2 : Int32) * ((updI S103 (own_dg (f1 (0 : Int32)) (xs1.getD (J1).toNatClampNeg 0)) ((S103 (own_dg (f1 (0 : Int32)) (xs1.getD (J1).toNatClampNeg 0))) + (1 : Int32))) (own_dg (f1 (2 : Int32)) (xs1.getD (J1).toNatClampNeg 0)))))] [])) _
      refine XS.aload X127.here hx rfl (hb hby dc0_295) rfl rfl ?_
      refine XS.iload X127.here hx rfl (hb hby dc0_297) rfl ?_
      refine XS.iconst X127.here hx rfl (hb hby dc0_299) ?_
      refine XS.iadd X127.here hx rfl (hb hby dc0_300) rfl ?_
      refine XS.aload X127.here hx rfl (hb hby dc0_301) rfl rfl ?_
      show Steps p.tables e below (T127.setTop (mkF m 303 #[s0, .val (.int (3 : Int32)), s2, s3, .val (.ref b4), .val (.int P1), .val (.ref b6), .val (.ref A1), .val (.ref B1), .val (.int J1), .val (.ref r1), .val (.int x103), .val (.int (xs1.getD (J1).toNatClampNeg 0)), .val (.int (1 : Int32)), .val (.long (f1 (2 : Int32))), .second, .val (.int ((2 : Int32) * ((updI S103 (own_dg (f1 (0 : Int32)) (xs1.getD (J1).toNatClampNeg 0)) ((S103 (own_dg (f1 (0 : Int32)) (xs1.getD (J1).toNatClampNeg 0))) + (1 : Int32))) (own_dg (f1 (2 : Int32)) (xs1.getD (J1).toNatClampNeg 0)))))] [(.ref A1), (.int (((2 : Int32) * ((updI S103 (own_dg (f1 (0 : Int32)) (xs1.getD (J1).toNatClampNeg 0)) ((S103 (own_dg (f1 (0 : Int32)) (xs1.getD (J1).toNatClampNeg 0))) + (1 : Int32))) (own_dg (f1 (2 : Int32)) (xs1.getD (J1).toNatClampNeg 0)))) + (1 : Int32))), (.ref B1)])) _
      refine XS.iconst X127.here hx rfl (hb hby dc0_303) ?_
      refine XS.iload X127.here hx rfl (hb hby dc0_304) rfl ?_
      refine XS.imul X127.here hx rfl (hb hby dc0_306) rfl ?_
      refine XS.iconst X127.here hx rfl (hb hby dc0_307) ?_
      refine XS.iadd X127.here hx rfl (hb hby dc0_308) rfl ?_
      show Steps p.tables e below (T127.setTop (mkF m 309 #[s0, .val (.int (3 : Int32)), s2, s3, .val (.ref b4), .val (.int P1), .val (.ref b6), .val (.ref A1), .val (.ref B1), .val (.int J1), .val (.ref r1), .val (.int x103), .val (.int (xs1.getD (J1).toNatClampNeg 0)), .val (.int (1 : Int32)), .val (.long (f1 (2 : Int32))), .second, .val (.int ((2 : Int32) * ((updI S103 (own_dg (f1 (0 : Int32)) (xs1.getD (J1).toNatClampNeg 0)) ((S103 (own_dg (f1 (0 : Int32)) (xs1.getD (J1).toNatClampNeg 0))) + (1 : Int32))) (own_dg (f1 (2 : Int32)) (xs1.getD (J1).toNatClampNeg 0)))))] [(.int (3 : Int32)), (.ref A1), (.int (((2 : Int32) * ((updI S103 (own_dg (f1 (0 : Int32)) (xs1.getD (J1).toNatClampNeg 0)) ((S103 (own_dg (f1 (0 : Int32)) (xs1.getD (J1).toNatClampNeg 0))) + (1 : Int32))) (own_dg (f1 (2 : Int32)) (xs1.getD (J1).toNatClampNeg 0)))) + (1 : Int32))), (.ref B1)])) _
      refine X127.laload hx (j := (3 : Int32)) (v := (.long (f1 (3 : Int32)))) (by rw [e127]; exact Ar129.1) (State.isArrayOf_alike hZ.alike Ar129.2.1) Ar129.2.2 hin129 hat129 (g := (mkF m 309 #[s0, .val (.int (3 : Int32)), s2, s3, .val (.ref b4), .val (.int P1), .val (.ref b6), .val (.ref A1), .val (.ref B1), .val (.int J1), .val (.ref r1), .val (.int x103), .val (.int (xs1.getD (J1).toNatClampNeg 0)), .val (.int (1 : Int32)), .val (.long (f1 (2 : Int32))), .second, .val (.int ((2 : Int32) * ((updI S103 (own_dg (f1 (0 : Int32)) (xs1.getD (J1).toNatClampNeg 0)) ((S103 (own_dg (f1 (0 : Int32)) (xs1.getD (J1).toNatClampNeg 0))) + (1 : Int32))) (own_dg (f1 (2 : Int32)) (xs1.getD (J1).toNatClampNeg 0)))))] [(.int (3 : Int32)), (.ref A1), (.int (((2 : Int32) * ((updI S103 (own_dg (f1 (0 : Int32)) (xs1.getD (J1).toNatClampNeg 0)) ((S103 (own_dg (f1 (0 : Int32)) (xs1.getD (J1).toNatClampNeg 0))) + (1 : Int32))) (own_dg (f1 (2 : Int32)) (xs1.getD (J1).toNatClampNeg 0)))) + (1 : Int32))), (.ref B1)])) rfl rfl (hb hby dc0_309) _ ?_
      refine st131 _ ?_
      refine XS.iinc X131.here hx rfl (hb hby dc0_311) rfl (l' := #[s0, .val (.int (3 : Int32)), s2, s3, .val (.ref b4), .val (.int P1), .val (.ref b6), .val (.ref A1), .val (.ref B1), .val (.int J1), .val (.ref r1), .val (.int x103), .val (.int (xs1.getD (J1).toNatClampNeg 0)), .val (.int (2 : Int32)), .val (.long (f1 (2 : Int32))), .second, .val (.int ((2 : Int32) * ((updI S103 (own_dg (f1 (0 : Int32)) (xs1.getD (J1).toNatClampNeg 0)) ((S103 (own_dg (f1 (0 : Int32)) (xs1.getD (J1).toNatClampNeg 0))) + (1 : Int32))) (own_dg (f1 (2 : Int32)) (xs1.getD (J1).toNatClampNeg 0)))))]) rfl ?_
      refine XS.goto X131.here hx rfl (pc0 := 314) (pc' := 247) rfl (hb hby dc0_314) (by decide) (by decide) ?_
      refine XS.iload X131.here hx rfl (hb hby dc0_247) rfl ?_
      show Steps p.tables e below (T131.setTop (mkF m 249 #[s0, .val (.int (3 : Int32)), s2, s3, .val (.ref b4), .val (.int P1), .val (.ref b6), .val (.ref A1), .val (.ref B1), .val (.int J1), .val (.ref r1), .val (.int x103), .val (.int (xs1.getD (J1).toNatClampNeg 0)), .val (.int (2 : Int32)), .val (.long (f1 (2 : Int32))), .second, .val (.int ((2 : Int32) * ((updI S103 (own_dg (f1 (0 : Int32)) (xs1.getD (J1).toNatClampNeg 0)) ((S103 (own_dg (f1 (0 : Int32)) (xs1.getD (J1).toNatClampNeg 0))) + (1 : Int32))) (own_dg (f1 (2 : Int32)) (xs1.getD (J1).toNatClampNeg 0)))))] [(.int (2 : Int32))])) _
      refine XS.iloadN X131.here hx rfl (hb hby dc0_249) rfl ?_
      show Steps p.tables e below (T131.setTop (mkF m 250 #[s0, .val (.int (3 : Int32)), s2, s3, .val (.ref b4), .val (.int P1), .val (.ref b6), .val (.ref A1), .val (.ref B1), .val (.int J1), .val (.ref r1), .val (.int x103), .val (.int (xs1.getD (J1).toNatClampNeg 0)), .val (.int (2 : Int32)), .val (.long (f1 (2 : Int32))), .second, .val (.int ((2 : Int32) * ((updI S103 (own_dg (f1 (0 : Int32)) (xs1.getD (J1).toNatClampNeg 0)) ((S103 (own_dg (f1 (0 : Int32)) (xs1.getD (J1).toNatClampNeg 0))) + (1 : Int32))) (own_dg (f1 (2 : Int32)) (xs1.getD (J1).toNatClampNeg 0)))))] [(.int (3 : Int32)), (.int (2 : Int32))])) _
      refine XS.icmpNo X131.here hx rfl (hb hby dc0_250) rfl (by decide) ?_
      refine XS.aload X131.here hx rfl (hb hby dc0_253) rfl rfl ?_
      refine XS.iconst X131.here hx rfl (hb hby dc0_255) ?_
      refine XS.iload X131.here hx rfl (hb hby dc0_256) rfl ?_
      show Steps p.tables e below (T131.setTop (mkF m 258 #[s0, .val (.int (3 : Int32)), s2, s3, .val (.ref b4), .val (.int P1), .val (.ref b6), .val (.ref A1), .val (.ref B1), .val (.int J1), .val (.ref r1), .val (.int x103), .val (.int (xs1.getD (J1).toNatClampNeg 0)), .val (.int (2 : Int32)), .val (.long (f1 (2 : Int32))), .second, .val (.int ((2 : Int32) * ((updI S103 (own_dg (f1 (0 : Int32)) (xs1.getD (J1).toNatClampNeg 0)) ((S103 (own_dg (f1 (0 : Int32)) (xs1.getD (J1).toNatClampNeg 0))) + (1 : Int32))) (own_dg (f1 (2 : Int32)) (xs1.getD (J1).toNatClampNeg 0)))))] [(.int (2 : Int32)), (.int (2 : Int32)), (.ref A1)])) _
      refine XS.imul X131.here hx rfl (hb hby dc0_258) rfl ?_
      refine X131.laload hx (j := (4 : Int32)) (v := (.long (f1 (4 : Int32)))) (by rw [e131]; exact Ar133.1) (State.isArrayOf_alike hZ.alike Ar133.2.1) Ar133.2.2 hin133 hat133 (g := (mkF m 259 #[s0, .val (.int (3 : Int32)), s2, s3, .val (.ref b4), .val (.int P1), .val (.ref b6), .val (.ref A1), .val (.ref B1), .val (.int J1), .val (.ref r1), .val (.int x103), .val (.int (xs1.getD (J1).toNatClampNeg 0)), .val (.int (2 : Int32)), .val (.long (f1 (2 : Int32))), .second, .val (.int ((2 : Int32) * ((updI S103 (own_dg (f1 (0 : Int32)) (xs1.getD (J1).toNatClampNeg 0)) ((S103 (own_dg (f1 (0 : Int32)) (xs1.getD (J1).toNatClampNeg 0))) + (1 : Int32))) (own_dg (f1 (2 : Int32)) (xs1.getD (J1).toNatClampNeg 0)))))] [(.int (4 : Int32)), (.ref A1)])) rfl rfl (hb hby dc0_259) _ ?_
      refine XS.lstore X131.here hx rfl (hb hby dc0_260) rfl (l' := #[s0, .val (.int (3 : Int32)), s2, s3, .val (.ref b4), .val (.int P1), .val (.ref b6), .val (.ref A1), .val (.ref B1), .val (.int J1), .val (.ref r1), .val (.int x103), .val (.int (xs1.getD (J1).toNatClampNeg 0)), .val (.int (2 : Int32)), .val (.long (f1 (4 : Int32))), .second, .val (.int ((2 : Int32) * ((updI S103 (own_dg (f1 (0 : Int32)) (xs1.getD (J1).toNatClampNeg 0)) ((S103 (own_dg (f1 (0 : Int32)) (xs1.getD (J1).toNatClampNeg 0))) + (1 : Int32))) (own_dg (f1 (2 : Int32)) (xs1.getD (J1).toNatClampNeg 0)))))]) rfl ?_
      refine XS.iconst X131.here hx rfl (hb hby dc0_262) ?_
      refine XS.aload X131.here hx rfl (hb hby dc0_263) rfl rfl ?_
      show Steps p.tables e below (T131.setTop (mkF m 265 #[s0, .val (.int (3 : Int32)), s2, s3, .val (.ref b4), .val (.int P1), .val (.ref b6), .val (.ref A1), .val (.ref B1), .val (.int J1), .val (.ref r1), .val (.int x103), .val (.int (xs1.getD (J1).toNatClampNeg 0)), .val (.int (2 : Int32)), .val (.long (f1 (4 : Int32))), .second, .val (.int ((2 : Int32) * ((updI S103 (own_dg (f1 (0 : Int32)) (xs1.getD (J1).toNatClampNeg 0)) ((S103 (own_dg (f1 (0 : Int32)) (xs1.getD (J1).toNatClampNeg 0))) + (1 : Int32))) (own_dg (f1 (2 : Int32)) (xs1.getD (J1).toNatClampNeg 0)))))] [(.ref r1), (.int (2 : Int32))])) _
      refine XS.lload X131.here hx rfl (hb hby dc0_265) rfl ?_
      refine X131.ldc2Long hx hown (mvT hZ (hw _ (List.mem_of_getElem? (i := 9) rfl))) (g := (mkF m 267 #[s0, .val (.int (3 : Int32)), s2, s3, .val (.ref b4), .val (.int P1), .val (.ref b6), .val (.ref A1), .val (.ref B1), .val (.int J1), .val (.ref r1), .val (.int x103), .val (.int (xs1.getD (J1).toNatClampNeg 0)), .val (.int (2 : Int32)), .val (.long (f1 (4 : Int32))), .second, .val (.int ((2 : Int32) * ((updI S103 (own_dg (f1 (0 : Int32)) (xs1.getD (J1).toNatClampNeg 0)) ((S103 (own_dg (f1 (0 : Int32)) (xs1.getD (J1).toNatClampNeg 0))) + (1 : Int32))) (own_dg (f1 (2 : Int32)) (xs1.getD (J1).toNatClampNeg 0)))))] [(.long (f1 (4 : Int32))), (.ref r1), (.int (2 : Int32))])) rfl (hb hby dc0_267) _ ?_
      refine XS.lxor X131.here hx rfl (hb hby dc0_270) rfl ?_
      refine XS.iload X131.here hx rfl (hb hby dc0_271) rfl ?_
      refine XS.lushr X131.here hx rfl (hb hby dc0_273) rfl ?_
      show Steps p.tables e below (T131.setTop (mkF m 274 #[s0, .val (.int (3 : Int32)), s2, s3, .val (.ref b4), .val (.int P1), .val (.ref b6), .val (.ref A1), .val (.ref B1), .val (.int J1), .val (.ref r1), .val (.int x103), .val (.int (xs1.getD (J1).toNatClampNeg 0)), .val (.int (2 : Int32)), .val (.long (f1 (4 : Int32))), .second, .val (.int ((2 : Int32) * ((updI S103 (own_dg (f1 (0 : Int32)) (xs1.getD (J1).toNatClampNeg 0)) ((S103 (own_dg (f1 (0 : Int32)) (xs1.getD (J1).toNatClampNeg 0))) + (1 : Int32))) (own_dg (f1 (2 : Int32)) (xs1.getD (J1).toNatClampNeg 0)))))] [(.long ((((f1 (4 : Int32)) ^^^ (-9223372036854775808 : Int64)).toUInt64 >>> ((xs1.getD (J1).toNatClampNeg 0) &&& 0x3f).toInt64.toUInt64).toInt64)), (.ref r1), (.int (2 : Int32))])) _
      refine XS.l2i X131.here hx rfl (hb hby dc0_274) rfl ?_
      refine XS.sipush X131.here hx rfl (hb hby dc0_275) ?_
      refine XS.iand X131.here hx rfl (hb hby dc0_278) rfl ?_
      show Steps p.tables e below (T131.setTop (mkF m 279 #[s0, .val (.int (3 : Int32)), s2, s3, .val (.ref b4), .val (.int P1), .val (.ref b6), .val (.ref A1), .val (.ref B1), .val (.int J1), .val (.ref r1), .val (.int x103), .val (.int (xs1.getD (J1).toNatClampNeg 0)), .val (.int (2 : Int32)), .val (.long (f1 (4 : Int32))), .second, .val (.int ((2 : Int32) * ((updI S103 (own_dg (f1 (0 : Int32)) (xs1.getD (J1).toNatClampNeg 0)) ((S103 (own_dg (f1 (0 : Int32)) (xs1.getD (J1).toNatClampNeg 0))) + (1 : Int32))) (own_dg (f1 (2 : Int32)) (xs1.getD (J1).toNatClampNeg 0)))))] [(.int ((((((f1 (4 : Int32)) ^^^ (-9223372036854775808 : Int64)).toUInt64 >>> ((xs1.getD (J1).toNatClampNeg 0) &&& 0x3f).toInt64.toUInt64).toInt64).toInt32) &&& (255 : Int32))), (.ref r1), (.int (2 : Int32))])) _
      rw [(show ((((((f1 (4 : Int32)) ^^^ (-9223372036854775808 : Int64)).toUInt64 >>> ((xs1.getD (J1).toNatClampNeg 0) &&& 0x3f).toInt64.toUInt64).toInt64).toInt32) &&& (255 : Int32)) = own_dg (f1 (4 : Int32)) (xs1.getD (J1).toNatClampNeg 0) from rfl)]
      jvm_step X131.here [X131.here.top, hx, (hb hby dc0_279), Value.category]
      show Steps p.tables e below (T131.setTop (mkF m 280 #[s0, .val (.int (3 : Int32)), s2, s3, .val (.ref b4), .val (.int P1), .val (.ref b6), .val (.ref A1), .val (.ref B1), .val (.int J1), .val (.ref r1), .val (.int x103), .val (.int (xs1.getD (J1).toNatClampNeg 0)), .val (.int (2 : Int32)), .val (.long (f1 (4 : Int32))), .second, .val (.int ((2 : Int32) * ((updI S103 (own_dg (f1 (0 : Int32)) (xs1.getD (J1).toNatClampNeg 0)) ((S103 (own_dg (f1 (0 : Int32)) (xs1.getD (J1).toNatClampNeg 0))) + (1 : Int32))) (own_dg (f1 (2 : Int32)) (xs1.getD (J1).toNatClampNeg 0)))))] [(.int (own_dg (f1 (4 : Int32)) (xs1.getD (J1).toNatClampNeg 0))), (.ref r1), (.int (own_dg (f1 (4 : Int32)) (xs1.getD (J1).toNatClampNeg 0))), (.ref r1), (.int (2 : Int32))])) _
      refine X131.iaload hx (j := (own_dg (f1 (4 : Int32)) (xs1.getD (J1).toNatClampNeg 0))) (v := (.int ((updI (updI S103 (own_dg (f1 (0 : Int32)) (xs1.getD (J1).toNatClampNeg 0)) ((S103 (own_dg (f1 (0 : Int32)) (xs1.getD (J1).toNatClampNeg 0))) + (1 : Int32))) (own_dg (f1 (2 : Int32)) (xs1.getD (J1).toNatClampNeg 0)) (((updI S103 (own_dg (f1 (0 : Int32)) (xs1.getD (J1).toNatClampNeg 0)) ((S103 (own_dg (f1 (0 : Int32)) (xs1.getD (J1).toNatClampNeg 0))) + (1 : Int32))) (own_dg (f1 (2 : Int32)) (xs1.getD (J1).toNatClampNeg 0))) + (1 : Int32))) (own_dg (f1 (4 : Int32)) (xs1.getD (J1).toNatClampNeg 0))))) (by rw [e131]; exact Ar135.1) (State.isArrayOf_alike hZ.alike Ar135.2.1) Ar135.2.2 hin135 hat135 (g := (mkF m 280 #[s0, .val (.int (3 : Int32)), s2, s3, .val (.ref b4), .val (.int P1), .val (.ref b6), .val (.ref A1), .val (.ref B1), .val (.int J1), .val (.ref r1), .val (.int x103), .val (.int (xs1.getD (J1).toNatClampNeg 0)), .val (.int (2 : Int32)), .val (.long (f1 (4 : Int32))), .second, .val (.int ((2 : Int32) * ((updI S103 (own_dg (f1 (0 : Int32)) (xs1.getD (J1).toNatClampNeg 0)) ((S103 (own_dg (f1 (0 : Int32)) (xs1.getD (J1).toNatClampNeg 0))) + (1 : Int32))) (own_dg (f1 (2 : Int32)) (xs1.getD (J1).toNatClampNeg 0)))))] [(.int (own_dg (f1 (4 : Int32)) (xs1.getD (J1).toNatClampNeg 0))), (.ref r1), (.int (own_dg (f1 (4 : Int32)) (xs1.getD (J1).toNatClampNeg 0))), (.ref r1), (.int (2 : Int32))])) rfl rfl (hb hby dc0_280) _ ?_
      jvm_step X131.here [X131.here.top, hx, (hb hby dc0_281), Value.category]
      refine XS.iconst X131.here hx rfl (hb hby dc0_282) ?_
      refine XS.iadd X131.here hx rfl (hb hby dc0_283) rfl ?_
      refine st137 _ ?_
      show Steps p.tables e below (T137.setTop (mkF m 285 #[s0, .val (.int (3 : Int32)), s2, s3, .val (.ref b4), .val (.int P1), .val (.ref b6), .val (.ref A1), .val (.ref B1), .val (.int J1), .val (.ref r1), .val (.int x103), .val (.int (xs1.getD (J1).toNatClampNeg 0)), .val (.int (2 : Int32)), .val (.long (f1 (4 : Int32))), .second, .val (.int ((2 : Int32) * ((updI S103 (own_dg (f1 (0 : Int32)) (xs1.getD (J1).toNatClampNeg 0)) ((S103 (own_dg (f1 (0 : Int32)) (xs1.getD (J1).toNatClampNeg 0))) + (1 : Int32))) (own_dg (f1 (2 : Int32)) (xs1.getD (J1).toNatClampNeg 0)))))] [(.int ((updI (updI S103 (own_dg (f1 (0 : Int32)) (xs1.getD (J1).toNatClampNeg 0)) ((S103 (own_dg (f1 (0 : Int32)) (xs1.getD (J1).toNatClampNeg 0))) + (1 : Int32))) (own_dg (f1 (2 : Int32)) (xs1.getD (J1).toNatClampNeg 0)) (((updI S103 (own_dg (f1 (0 : Int32)) (xs1.getD (J1).toNatClampNeg 0)) ((S103 (own_dg (f1 (0 : Int32)) (xs1.getD (J1).toNatClampNeg 0))) + (1 : Int32))) (own_dg (f1 (2 : Int32)) (xs1.getD (J1).toNatClampNeg 0))) + (1 : Int32))) (own_dg (f1 (4 : Int32)) (xs1.getD (J1).toNatClampNeg 0)))), (.int (2 : Int32))])) _
      refine XS.imul X137.here hx rfl (hb hby dc0_285) rfl ?_
      refine XS.istore X137.here hx rfl (hb hby dc0_286) rfl (l' := #[s0, .val (.int (3 : Int32)), s2, s3, .val (.ref b4), .val (.int P1), .val (.ref b6), .val (.ref A1), .val (.ref B1), .val (.int J1), .val (.ref r1), .val (.int x103), .val (.int (xs1.getD (J1).toNatClampNeg 0)), .val (.int (2 : Int32)), .val (.long (f1 (4 : Int32))), .second, .val (.int ((2 : Int32) * ((updI (updI S103 (own_dg (f1 (0 : Int32)) (xs1.getD (J1).toNatClampNeg 0)) ((S103 (own_dg (f1 (0 : Int32)) (xs1.getD (J1).toNatClampNeg 0))) + (1 : Int32))) (own_dg (f1 (2 : Int32)) (xs1.getD (J1).toNatClampNeg 0)) (((updI S103 (own_dg (f1 (0 : Int32)) (xs1.getD (J1).toNatClampNeg 0)) ((S103 (own_dg (f1 (0 : Int32)) (xs1.getD (J1).toNatClampNeg 0))) + (1 : Int32))) (own_dg (f1 (2 : Int32)) (xs1.getD (J1).toNatClampNeg 0))) + (1 : Int32))) (own_dg (f1 (4 : Int32)) (xs1.getD (J1).toNatClampNeg 0)))))]) rfl ?_
      refine XS.aload X137.here hx rfl (hb hby dc0_288) rfl rfl ?_
      refine XS.iload X137.here hx rfl (hb hby dc0_290) rfl ?_
      refine XS.lload X137.here hx rfl (hb hby dc0_292) rfl ?_
      show Steps p.tables e below (T137.setTop (mkF m 294 #[s0, .val (.int (3 : Int32)), s2, s3, .val (.ref b4), .val (.int P1), .val (.ref b6), .val (.ref A1), .val (.ref B1), .val (.int J1), .val (.ref r1), .val (.int x103), .val (.int (xs1.getD (J1).toNatClampNeg 0)), .val (.int (2 : Int32)), .val (.long (f1 (4 : Int32))), .second, .val (.int ((2 : Int32) * ((updI (updI S103 (own_dg (f1 (0 : Int32)) (xs1.getD (J1).toNatClampNeg 0)) ((S103 (own_dg (f1 (0 : Int32)) (xs1.getD (J1).toNatClampNeg 0))) + (1 : Int32))) (own_dg (f1 (2 : Int32)) (xs1.getD (J1).toNatClampNeg 0)) (((updI S103 (own_dg (f1 (0 : Int32)) (xs1.getD (J1).toNatClampNeg 0)) ((S103 (own_dg (f1 (0 : Int32)) (xs1.getD (J1).toNatClampNeg 0))) + (1 : Int32))) (own_dg (f1 (2 : Int32)) (xs1.getD (J1).toNatClampNeg 0))) + (1 : Int32))) (own_dg (f1 (4 : Int32)) (xs1.getD (J1).toNatClampNeg 0)))))] [(.long (f1 (4 : Int32))), (.int ((2 : Int32) * ((updI (updI S103 (own_dg (f1 (0 : Int32)) (xs1.getD (J1).toNatClampNeg 0)) ((S103 (own_dg (f1 (0 : Int32)) (xs1.getD (J1).toNatClampNeg 0))) + (1 : Int32))) (own_dg (f1 (2 : Int32)) (xs1.getD (J1).toNatClampNeg 0)) (((updI S103 (own_dg (f1 (0 : Int32)) (xs1.getD (J1).toNatClampNeg 0)) ((S103 (own_dg (f1 (0 : Int32)) (xs1.getD (J1).toNatClampNeg 0))) + (1 : Int32))) (own_dg (f1 (2 : Int32)) (xs1.getD (J1).toNatClampNeg 0))) + (1 : Int32))) (own_dg (f1 (4 : Int32)) (xs1.getD (J1).toNatClampNeg 0))))), (.ref B1)])) _
      refine st140 _ ?_
      refine XS.aload X140.here hx rfl (hb hby dc0_295) rfl rfl ?_
      refine XS.iload X140.here hx rfl (hb hby dc0_297) rfl ?_
      refine XS.iconst X140.here hx rfl (hb hby dc0_299) ?_
      refine XS.iadd X140.here hx rfl (hb hby dc0_300) rfl ?_
      show Steps p.tables e below (T140.setTop (mkF m 301 #[s0, .val (.int (3 : Int32)), s2, s3, .val (.ref b4), .val (.int P1), .val (.ref b6), .val (.ref A1), .val (.ref B1), .val (.int J1), .val (.ref r1), .val (.int x103), .val (.int (xs1.getD (J1).toNatClampNeg 0)), .val (.int (2 : Int32)), .val (.long (f1 (4 : Int32))), .second, .val (.int ((2 : Int32) * ((updI (updI S103 (own_dg (f1 (0 : Int32)) (xs1.getD (J1).toNatClampNeg 0)) ((S103 (own_dg (f1 (0 : Int32)) (xs1.getD (J1).toNatClampNeg 0))) + (1 : Int32))) (own_dg (f1 (2 : Int32)) (xs1.getD (J1).toNatClampNeg 0)) (((updI S103 (own_dg (f1 (0 : Int32)) (xs1.getD (J1).toNatClampNeg 0)) ((S103 (own_dg (f1 (0 : Int32)) (xs1.getD (J1).toNatClampNeg 0))) + (1 : Int32))) (own_dg (f1 (2 : Int32)) (xs1.getD (J1).toNatClampNeg 0))) + (1 : Int32))) (own_dg (f1 (4 : Int32)) (xs1.getD (J1).toNatClampNeg 0)))))] [(.int (((2 : Int32) * ((updI (updI S103 (own_dg (f1 (0 : Int32)) (xs1.getD (J1).toNatClampNeg 0)) ((S103 (own_dg (f1 (0 : Int32)) (xs1.getD (J1).toNatClampNeg 0))) + (1 : Int32))) (own_dg (f1 (2 : Int32)) (xs1.getD (J1).toNatClampNeg 0)) (((updI S103 (own_dg (f1 (0 : Int32)) (xs1.getD (J1).toNatClampNeg 0)) ((S103 (own_dg (f1 (0 : Int32)) (xs1.getD (J1).toNatClampNeg 0))) + (1 : Int32))) (own_dg (f1 (2 : Int32)) (xs1.getD (J1).toNatClampNeg 0))) + (1 : Int32))) (own_dg (f1 (4 : Int32)) (xs1.getD (J1).toNatClampNeg 0)))) + (1 : Int32))), (.ref B1)])) _
      refine XS.aload X140.here hx rfl (hb hby dc0_301) rfl rfl ?_
      refine XS.iconst X140.here hx rfl (hb hby dc0_303) ?_
      refine XS.iload X140.here hx rfl (hb hby dc0_304) rfl ?_
      refine XS.imul X140.here hx rfl (hb hby dc0_306) rfl ?_
      refine XS.iconst X140.here hx rfl (hb hby dc0_307) ?_
      show Steps p.tables e below (T140.setTop (mkF m 308 #[s0, .val (.int (3 : Int32)), s2, s3, .val (.ref b4), .val (.int P1), .val (.ref b6), .val (.ref A1), .val (.ref B1), .val (.int J1), .val (.ref r1), .val (.int x103), .val (.int (xs1.getD (J1).toNatClampNeg 0)), .val (.int (2 : Int32)), .val (.long (f1 (4 : Int32))), .second, .val (.int ((2 : Int32) * ((updI (updI S103 (own_dg (f1 (0 : Int32)) (xs1.getD (J1).toNatClampNeg 0)) ((S103 (own_dg (f1 (0 : Int32)) (xs1.getD (J1).toNatClampNeg 0))) + (1 : Int32))) (own_dg (f1 (2 : Int32)) (xs1.getD (J1).toNatClampNeg 0)) (((updI S103 (own_dg (f1 (0 : Int32)) (xs1.getD (J1).toNatClampNeg 0)) ((S103 (own_dg (f1 (0 : Int32)) (xs1.getD (J1).toNatClampNeg 0))) + (1 : Int32))) (own_dg (f1 (2 : Int32)) (xs1.getD (J1).toNatClampNeg 0))) + (1 : Int32))) (own_dg (f1 (4 : Int32)) (xs1.getD (J1).toNatClampNeg 0)))))] [(.int (1 : Int32)), (.int (4 : Int32)), (.ref A1), (.int (((2 : Int32) * ((updI (updI S103 (own_dg (f1 (0 : Int32)) (xs1.getD (J1).toNatClampNeg 0)) ((S103 (own_dg (f1 (0 : Int32)) (xs1.getD (J1).toNatClampNeg 0))) + (1 : Int32))) (own_dg (f1 (2 : Int32)) (xs1.getD (J1).toNatClampNeg 0)) (((updI S103 (own_dg (f1 (0 : Int32)) (xs1.getD (J1).toNatClampNeg 0)) ((S103 (own_dg (f1 (0 : Int32)) (xs1.getD (J1).toNatClampNeg 0))) + (1 : Int32))) (own_dg (f1 (2 : Int32)) (xs1.getD (J1).toNatClampNeg 0))) + (1 : Int32))) (own_dg (f1 (4 : Int32)) (xs1.getD (J1).toNatClampNeg 0)))) + (1 : Int32))), (.ref B1)])) _
      refine XS.iadd X140.here hx rfl (hb hby dc0_308) rfl ?_
      refine X140.laload hx (j := (5 : Int32)) (v := (.long (f1 (5 : Int32)))) (by rw [e140]; exact Ar142.1) (State.isArrayOf_alike hZ.alike Ar142.2.1) Ar142.2.2 hin142 hat142 (g := (mkF m 309 #[s0, .val (.int (3 : Int32)), s2, s3, .val (.ref b4), .val (.int P1), .val (.ref b6), .val (.ref A1), .val (.ref B1), .val (.int J1), .val (.ref r1), .val (.int x103), .val (.int (xs1.getD (J1).toNatClampNeg 0)), .val (.int (2 : Int32)), .val (.long (f1 (4 : Int32))), .second, .val (.int ((2 : Int32) * ((updI (updI S103 (own_dg (f1 (0 : Int32)) (xs1.getD (J1).toNatClampNeg 0)) ((S103 (own_dg (f1 (0 : Int32)) (xs1.getD (J1).toNatClampNeg 0))) + (1 : Int32))) (own_dg (f1 (2 : Int32)) (xs1.getD (J1).toNatClampNeg 0)) (((updI S103 (own_dg (f1 (0 : Int32)) (xs1.getD (J1).toNatClampNeg 0)) ((S103 (own_dg (f1 (0 : Int32)) (xs1.getD (J1).toNatClampNeg 0))) + (1 : Int32))) (own_dg (f1 (2 : Int32)) (xs1.getD (J1).toNatClampNeg 0))) + (1 : Int32))) (own_dg (f1 (4 : Int32)) (xs1.getD (J1).toNatClampNeg 0)))))] [(.int (5 : Int32)), (.ref A1), (.int (((2 : Int32) * ((updI (updI S103 (own_dg (f1 (0 : Int32)) (xs1.getD (J1).toNatClampNeg 0)) ((S103 (own_dg (f1 (0 : Int32)) (xs1.getD (J1).toNatClampNeg 0))) + (1 : Int32))) (own_dg (f1 (2 : Int32)) (xs1.getD (J1).toNatClampNeg 0)) (((updI S103 (own_dg (f1 (0 : Int32)) (xs1.getD (J1).toNatClampNeg 0)) ((S103 (own_dg (f1 (0 : Int32)) (xs1.getD (J1).toNatClampNeg 0))) + (1 : Int32))) (own_dg (f1 (2 : Int32)) (xs1.getD (J1).toNatClampNeg 0))) + (1 : Int32))) (own_dg (f1 (4 : Int32)) (xs1.getD (J1).toNatClampNeg 0)))) + (1 : Int32))), (.ref B1)])) rfl rfl (hb hby dc0_309) _ ?_
      refine st144 _ ?_
      refine XS.iinc X144.here hx rfl (hb hby dc0_311) rfl (l' := #[s0, .val (.int (3 : Int32)), s2, s3, .val (.ref b4), .val (.int P1), .val (.ref b6), .val (.ref A1), .val (.ref B1), .val (.int J1), .val (.ref r1), .val (.int x103), .val (.int (xs1.getD (J1).toNatClampNeg 0)), .val (.int (3 : Int32)), .val (.long (f1 (4 : Int32))), .second, .val (.int ((2 : Int32) * ((updI (updI S103 (own_dg (f1 (0 : Int32)) (xs1.getD (J1).toNatClampNeg 0)) ((S103 (own_dg (f1 (0 : Int32)) (xs1.getD (J1).toNatClampNeg 0))) + (1 : Int32))) (own_dg (f1 (2 : Int32)) (xs1.getD (J1).toNatClampNeg 0)) (((updI S103 (own_dg (f1 (0 : Int32)) (xs1.getD (J1).toNatClampNeg 0)) ((S103 (own_dg (f1 (0 : Int32)) (xs1.getD (J1).toNatClampNeg 0))) + (1 : Int32))) (own_dg (f1 (2 : Int32)) (xs1.getD (J1).toNatClampNeg 0))) + (1 : Int32))) (own_dg (f1 (4 : Int32)) (xs1.getD (J1).toNatClampNeg 0)))))]) rfl ?_
      refine XS.goto X144.here hx rfl (pc0 := 314) (pc' := 247) rfl (hb hby dc0_314) (by decide) (by decide) ?_
      show Steps p.tables e below (T144.setTop (mkF m 247 #[s0, .val (.int (3 : Int32)), s2, s3, .val (.ref b4), .val (.int P1), .val (.ref b6), .val (.ref A1), .val (.ref B1), .val (.int J1), .val (.ref r1), .val (.int x103), .val (.int (xs1.getD (J1).toNatClampNeg 0)), .val (.int (3 : Int32)), .val (.long (f1 (4 : Int32))), .second, .val (.int ((2 : Int32) * ((updI (updI S103 (own_dg (f1 (0 : Int32)) (xs1.getD (J1).toNatClampNeg 0)) ((S103 (own_dg (f1 (0 : Int32)) (xs1.getD (J1).toNatClampNeg 0))) + (1 : Int32))) (own_dg (f1 (2 : Int32)) (xs1.getD (J1).toNatClampNeg 0)) (((updI S103 (own_dg (f1 (0 : Int32)) (xs1.getD (J1).toNatClampNeg 0)) ((S103 (own_dg (f1 (0 : Int32)) (xs1.getD (J1).toNatClampNeg 0))) + (1 : Int32))) (own_dg (f1 (2 : Int32)) (xs1.getD (J1).toNatClampNeg 0))) + (1 : Int32))) (own_dg (f1 (4 : Int32)) (xs1.getD (J1).toNatClampNeg 0)))))] [])) _
      refine XS.iload X144.here hx rfl (hb hby dc0_247) rfl ?_
      refine XS.iloadN X144.here hx rfl (hb hby dc0_249) rfl ?_
      show Steps p.tables e below (T144.setTop (mkF m 250 #[s0, .val (.int (3 : Int32)), s2, s3, .val (.ref b4), .val (.int P1), .val (.ref b6), .val (.ref A1), .val (.ref B1), .val (.int J1), .val (.ref r1), .val (.int x103), .val (.int (xs1.getD (J1).toNatClampNeg 0)), .val (.int (3 : Int32)), .val (.long (f1 (4 : Int32))), .second, .val (.int ((2 : Int32) * ((updI (updI S103 (own_dg (f1 (0 : Int32)) (xs1.getD (J1).toNatClampNeg 0)) ((S103 (own_dg (f1 (0 : Int32)) (xs1.getD (J1).toNatClampNeg 0))) + (1 : Int32))) (own_dg (f1 (2 : Int32)) (xs1.getD (J1).toNatClampNeg 0)) (((updI S103 (own_dg (f1 (0 : Int32)) (xs1.getD (J1).toNatClampNeg 0)) ((S103 (own_dg (f1 (0 : Int32)) (xs1.getD (J1).toNatClampNeg 0))) + (1 : Int32))) (own_dg (f1 (2 : Int32)) (xs1.getD (J1).toNatClampNeg 0))) + (1 : Int32))) (own_dg (f1 (4 : Int32)) (xs1.getD (J1).toNatClampNeg 0)))))] [(.int (3 : Int32)), (.int (3 : Int32))])) _
      refine XS.icmpYes X144.here hx rfl (pc0 := 250) (pc' := 317) rfl (hb hby dc0_250) rfl (by decide) (by decide) (by decide) ?_
      refine XS.aload X144.here hx rfl (hb hby dc0_317) rfl rfl ?_
      refine XS.astore X144.here hx rfl (hb hby dc0_319) rfl rfl (l' := #[s0, .val (.int (3 : Int32)), s2, s3, .val (.ref b4), .val (.int P1), .val (.ref b6), .val (.ref A1), .val (.ref B1), .val (.int J1), .val (.ref r1), .val (.int x103), .val (.int (xs1.getD (J1).toNatClampNeg 0)), .val (.ref B1), .val (.long (f1 (4 : Int32))), .second, .val (.int ((2 : Int32) * ((updI (updI S103 (own_dg (f1 (0 : Int32)) (xs1.getD (J1).toNatClampNeg 0)) ((S103 (own_dg (f1 (0 : Int32)) (xs1.getD (J1).toNatClampNeg 0))) + (1 : Int32))) (own_dg (f1 (2 : Int32)) (xs1.getD (J1).toNatClampNeg 0)) (((updI S103 (own_dg (f1 (0 : Int32)) (xs1.getD (J1).toNatClampNeg 0)) ((S103 (own_dg (f1 (0 : Int32)) (xs1.getD (J1).toNatClampNeg 0))) + (1 : Int32))) (own_dg (f1 (2 : Int32)) (xs1.getD (J1).toNatClampNeg 0))) + (1 : Int32))) (own_dg (f1 (4 : Int32)) (xs1.getD (J1).toNatClampNeg 0)))))]) rfl ?_
      show Steps p.tables e below (T144.setTop (mkF m 321 #[s0, .val (.int (3 : Int32)), s2, s3, .val (.ref b4), .val (.int P1), .val (.ref b6), .val (.ref A1), .val (.ref B1), .val (.int J1), .val (.ref r1), .val (.int x103), .val (.int (xs1.getD (J1).toNatClampNeg 0)), .val (.ref B1), .val (.long (f1 (4 : Int32))), .second, .val (.int ((2 : Int32) * ((updI (updI S103 (own_dg (f1 (0 : Int32)) (xs1.getD (J1).toNatClampNeg 0)) ((S103 (own_dg (f1 (0 : Int32)) (xs1.getD (J1).toNatClampNeg 0))) + (1 : Int32))) (own_dg (f1 (2 : Int32)) (xs1.getD (J1).toNatClampNeg 0)) (((updI S103 (own_dg (f1 (0 : Int32)) (xs1.getD (J1).toNatClampNeg 0)) ((S103 (own_dg (f1 (0 : Int32)) (xs1.getD (J1).toNatClampNeg 0))) + (1 : Int32))) (own_dg (f1 (2 : Int32)) (xs1.getD (J1).toNatClampNeg 0))) + (1 : Int32))) (own_dg (f1 (4 : Int32)) (xs1.getD (J1).toNatClampNeg 0)))))] [])) _
      refine XS.aload X144.here hx rfl (hb hby dc0_321) rfl rfl ?_
      refine XS.astore X144.here hx rfl (hb hby dc0_323) rfl rfl (l' := #[s0, .val (.int (3 : Int32)), s2, s3, .val (.ref b4), .val (.int P1), .val (.ref b6), .val (.ref A1), .val (.ref A1), .val (.int J1), .val (.ref r1), .val (.int x103), .val (.int (xs1.getD (J1).toNatClampNeg 0)), .val (.ref B1), .val (.long (f1 (4 : Int32))), .second, .val (.int ((2 : Int32) * ((updI (updI S103 (own_dg (f1 (0 : Int32)) (xs1.getD (J1).toNatClampNeg 0)) ((S103 (own_dg (f1 (0 : Int32)) (xs1.getD (J1).toNatClampNeg 0))) + (1 : Int32))) (own_dg (f1 (2 : Int32)) (xs1.getD (J1).toNatClampNeg 0)) (((updI S103 (own_dg (f1 (0 : Int32)) (xs1.getD (J1).toNatClampNeg 0)) ((S103 (own_dg (f1 (0 : Int32)) (xs1.getD (J1).toNatClampNeg 0))) + (1 : Int32))) (own_dg (f1 (2 : Int32)) (xs1.getD (J1).toNatClampNeg 0))) + (1 : Int32))) (own_dg (f1 (4 : Int32)) (xs1.getD (J1).toNatClampNeg 0)))))]) rfl ?_
      refine XS.aload X144.here hx rfl (hb hby dc0_325) rfl rfl ?_
      refine XS.astore X144.here hx rfl (hb hby dc0_327) rfl rfl (l' := #[s0, .val (.int (3 : Int32)), s2, s3, .val (.ref b4), .val (.int P1), .val (.ref b6), .val (.ref B1), .val (.ref A1), .val (.int J1), .val (.ref r1), .val (.int x103), .val (.int (xs1.getD (J1).toNatClampNeg 0)), .val (.ref B1), .val (.long (f1 (4 : Int32))), .second, .val (.int ((2 : Int32) * ((updI (updI S103 (own_dg (f1 (0 : Int32)) (xs1.getD (J1).toNatClampNeg 0)) ((S103 (own_dg (f1 (0 : Int32)) (xs1.getD (J1).toNatClampNeg 0))) + (1 : Int32))) (own_dg (f1 (2 : Int32)) (xs1.getD (J1).toNatClampNeg 0)) (((updI S103 (own_dg (f1 (0 : Int32)) (xs1.getD (J1).toNatClampNeg 0)) ((S103 (own_dg (f1 (0 : Int32)) (xs1.getD (J1).toNatClampNeg 0))) + (1 : Int32))) (own_dg (f1 (2 : Int32)) (xs1.getD (J1).toNatClampNeg 0))) + (1 : Int32))) (own_dg (f1 (4 : Int32)) (xs1.getD (J1).toNatClampNeg 0)))))]) rfl ?_
      refine XS.iinc X144.here hx rfl (hb hby dc0_329) rfl (l' := #[s0, .val (.int (3 : Int32)), s2, s3, .val (.ref b4), .val (.int P1), .val (.ref b6), .val (.ref B1), .val (.ref A1), .val (.int (J1 + (1 : Int32))), .val (.ref r1), .val (.int x103), .val (.int (xs1.getD (J1).toNatClampNeg 0)), .val (.ref B1), .val (.long (f1 (4 : Int32))), .second, .val (.int ((2 : Int32) * ((updI (updI S103 (own_dg (f1 (0 : Int32)) (xs1.getD (J1).toNatClampNeg 0)) ((S103 (own_dg (f1 (0 : Int32)) (xs1.getD (J1).toNatClampNeg 0))) + (1 : Int32))) (own_dg (f1 (2 : Int32)) (xs1.getD (J1).toNatClampNeg 0)) (((updI S103 (own_dg (f1 (0 : Int32)) (xs1.getD (J1).toNatClampNeg 0)) ((S103 (own_dg (f1 (0 : Int32)) (xs1.getD (J1).toNatClampNeg 0))) + (1 : Int32))) (own_dg (f1 (2 : Int32)) (xs1.getD (J1).toNatClampNeg 0))) + (1 : Int32))) (own_dg (f1 (4 : Int32)) (xs1.getD (J1).toNatClampNeg 0)))))]) rfl ?_
      show Steps p.tables e below (T144.setTop (mkF m 332 #[s0, .val (.int (3 : Int32)), s2, s3, .val (.ref b4), .val (.int P1), .val (.ref b6), .val (.ref B1), .val (.ref A1), .val (.int (J1 + (1 : Int32))), .val (.ref r1), .val (.int x103), .val (.int (xs1.getD (J1).toNatClampNeg 0)), .val (.ref B1), .val (.long (f1 (4 : Int32))), .second, .val (.int ((2 : Int32) * ((updI (updI S103 (own_dg (f1 (0 : Int32)) (xs1.getD (J1).toNatClampNeg 0)) ((S103 (own_dg (f1 (0 : Int32)) (xs1.getD (J1).toNatClampNeg 0))) + (1 : Int32))) (own_dg (f1 (2 : Int32)) (xs1.getD (J1).toNatClampNeg 0)) (((updI S103 (own_dg (f1 (0 : Int32)) (xs1.getD (J1).toNatClampNeg 0)) ((S103 (own_dg (f1 (0 : Int32)) (xs1.getD (J1).toNatClampNeg 0))) + (1 : Int32))) (own_dg (f1 (2 : Int32)) (xs1.getD (J1).toNatClampNeg 0))) + (1 : Int32))) (own_dg (f1 (4 : Int32)) (xs1.getD (J1).toNatClampNeg 0)))))] [])) _
      refine XS.goto X144.here hx rfl (pc0 := 332) (pc' := 182) rfl (hb hby dc0_332) (by decide) (by decide) ?_
      exact kt)
  have K146 : Keep h0 h144 [r1, B1] := (Keep.wr (Keep.wr (Keep.wr (Keep.wr (Keep.wr (Keep.wr (Keep.wr (Keep.wr (Keep.wr (Keep.trans (Keep.refl h0 [r1, B1]) K103 (allS (P := fun x => x ∈ [r1, B1] ∨ h0.size ≤ x) (Or.inl (List.mem_of_getElem? (i := 0) rfl)) all0)) W111 (Or.inl (List.mem_of_getElem? (i := 0) rfl))) W114 (Or.inl (List.mem_of_getElem? (i := 1) rfl))) W118 (Or.inl (List.mem_of_getElem? (i := 1) rfl))) W124 (Or.inl (List.mem_of_getElem? (i := 0) rfl))) W127 (Or.inl (List.mem_of_getElem? (i := 1) rfl))) W131 (Or.inl (List.mem_of_getElem? (i := 1) rfl))) W137 (Or.inl (List.mem_of_getElem? (i := 0) rfl))) W140 (Or.inl (List.mem_of_getElem? (i := 1) rfl))) W144 (Or.inl (List.mem_of_getElem? (i := 1) rfl)))
  have f147 := (((((((((f105.other W111 ne4r).other W114 ne4B).other W118 ne4B).other W124 ne4r).other W127 ne4B).other W131 ne4B).other W137 ne4r).other W140 ne4B).other W144 ne4B)
  have f148 := (f141.other W144 neAB)
  have f149 := ((H137.other W140 (Ne.symm neBr)).other W144 (Ne.symm neBr))
  have O150 : Old Z n0 h144 := (((((((((O103.wr W111 gr).wr W114 gB).wr W118 gB).wr W124 gr).wr W127 gB).wr W131 gB).wr W137 gr).wr W140 gB).wr W144 gB)
  exact ⟨_, _, _, (.val (.ref r1)), (.val (.int x103)), (.val (.int (xs1.getD (J1).toNatClampNeg 0))), (.val (.ref B1)), (.val (.long (f1 (4 : Int32)))), .second, (.val (.int ((2 : Int32) * ((updI (updI S103 (own_dg (f1 (0 : Int32)) (xs1.getD (J1).toNatClampNeg 0)) ((S103 (own_dg (f1 (0 : Int32)) (xs1.getD (J1).toNatClampNeg 0))) + (1 : Int32))) (own_dg (f1 (2 : Int32)) (xs1.getD (J1).toNatClampNeg 0)) (((updI S103 (own_dg (f1 (0 : Int32)) (xs1.getD (J1).toNatClampNeg 0)) ((S103 (own_dg (f1 (0 : Int32)) (xs1.getD (J1).toNatClampNeg 0))) + (1 : Int32))) (own_dg (f1 (2 : Int32)) (xs1.getD (J1).toNatClampNeg 0))) + (1 : Int32))) (own_dg (f1 (4 : Int32)) (xs1.getD (J1).toNatClampNeg 0)))))), Or.inr ⟨_, _, _, _, _, _, rfl, rfl, rfl, rfl, rfl, rfl, rfl⟩, ⟨_, _, X144, e144, N144, O150, pre145⟩, f147, Gd.upd G6 (by omega) K146 (allS (Or.inl er) (allS (Or.inr hB) all0)) (er ▸ f149), f148, H144, fun i hi => if_neg hi, stp.2.2.2⟩
set_option maxRecDepth 65536 in
set_option maxHeartbeats 40000000 in
theorem ps3b {p : Program} {l : Launch} {e : Env} {R : Room} {s : State} {m : MethodId} {args : Array Value} {below : List Frame} {meth : Method} {c : Code} {Z : State} {a0 : Array Value} {n0 : Nat} {cells slots : Nat} {st0 : State} (hx : p.tables.exec = Jvm.exec) (hZ : Z.Warmed39 s.vm) (hw : ∀ d ∈ tables_1, d.before a0 Z = true) (hby : c.code = prog_98_method_19_code) (hml : c.maxLocals = 17) (hown : s.vm.findClass "com/example/keyfold/keyfold/SortedRows" = some m.cls) {h0 : Heap} (s0 s2 s3 : Slot) (b4 b6 q1 A1 B1 : Nat) (P1 J1 : Int32) (xs1 : List Int32) (f1 g1 : Int32 → Int64) (cc1 : Nat → Int32 → Int32) (k0 k1 k2 w0 : Int64) (d1 : Nat) (r10 : Addr) (i11 i12 : Int32) (r13 : Addr) (k14 : Int64) (i16 : Int32) (G0 : Rc p l e R s m args below meth c n0 Z cells slots st0 (mkF m 182 #[s0, .val (.int (3 : Int32)), s2, s3, .val (.ref b4), .val (.int P1), .val (.ref b6), .val (.ref A1), .val (.ref B1), .val (.int J1), .val (.ref r10), .val (.int i11), .val (.int i12), .val (.ref r13), .val (.long k14), .second, .val (.int i16)] []) h0) (A4 : La Z h0 b4 .int (8 : Int32) xs1) (G6 : Gd Z h0 b6 q1 P1 cc1) (LA : Lv Z h0 A1 6 f1) (LB : Lv Z h0 B1 6 g1) (neAB : A1 ≠ B1) (hq : q1 = b6 + 1) (hA : A1 < b6 ∨ q1 + P1.toNatClampNeg ≤ A1) (hB : B1 < b6 ∨ q1 + P1.toNatClampNeg ≤ B1) (h4 : b4 < b6) (ne4B : b4 ≠ B1) (gB : n0 ≤ B1) (g6 : n0 ≤ b6) (hJ : ¬ J1 < 0 ∧ J1 < P1) (hP8 : P1.toInt ≤ 8) (hcc : cc1 J1.toNatClampNeg = own_C3 k0 k1 k2 (xs1.getD (J1).toNatClampNeg 0)) (ok : Ok3 k0 k1 k2 w0 d1 f1) (hd : d1 < 8) (hsh : (xs1.getD (J1).toNatClampNeg 0).toInt = 8 * (d1 : Int)) :
    ∃ (h' : Heap) (f' : Int32 → Int64) (cc' : Nat → Int32 → Int32) (u10 u11 u12 u13 u14 u15 u16 : Slot), Tl u10 u11 u12 u13 u14 u15 u16 ∧ Rc p l e R s m args below meth c n0 Z cells slots st0 (mkF m 182 #[s0, .val (.int (3 : Int32)), s2, s3, .val (.ref b4), .val (.int P1), .val (.ref b6), .val (.ref B1), .val (.ref A1), .val (.int (J1 + (1 : Int32))), u10, u11, u12, u13, u14, u15, u16] []) h' ∧ La Z h' b4 .int (8 : Int32) xs1 ∧ Gd Z h' b6 q1 P1 cc' ∧ Lv Z h' A1 6 f1 ∧ Lv Z h' B1 6 f' ∧ (∀ i, i ≠ J1.toNatClampNeg → cc' i = cc1 i) ∧ Ok3 k0 k1 k2 w0 (d1 + 1) f' := by
  obtain ⟨T0, L0, X0, e0, N0, O0, pre0⟩ := G0
  obtain ⟨r1, er⟩ : ∃ r : Nat, r = q1 + J1.toNatClampNeg := ⟨_, rfl⟩
  have ne4r : b4 ≠ r1 := by omega
  have gr : n0 ≤ r1 := by omega
  have neAr : A1 ≠ r1 := by have := own_jn hJ; omega
  have neBr : B1 ≠ r1 := by have := own_jn hJ; omega
  have I1 : Iv Z h0 r1 256 (own_C3 k0 k1 k2 (xs1.getD (J1).toNatClampNeg 0)) := by rw [← hcc, er]; exact G6.2 _ (own_jn hJ)
  obtain ⟨cl101, Ar101, hin101, hat101⟩ := Gd.at (J := J1) G6 hJ
  rw [← er] at hat101
  have pre102 : ∀ t, Steps p.tables e below (T0.setTop (mkF m 202 #[s0, .val (.int (3 : Int32)), s2, s3, .val (.ref b4), .val (.int P1), .val (.ref b6), .val (.ref A1), .val (.ref B1), .val (.int J1), .val (.ref r1), .val (.int (0 : Int32)), .val (.int (0 : Int32)), .val (.ref r13), .val (.long k14), .second, .val (.int i16)] [])) t → Steps p.tables e below (st0) t := fun t kt => pre0 t (by
      show Steps p.tables e below (T0.setTop (mkF m 182 #[s0, .val (.int (3 : Int32)), s2, s3, .val (.ref b4), .val (.int P1), .val (.ref b6), .val (.ref A1), .val (.ref B1), .val (.int J1), .val (.ref r10), .val (.int i11), .val (.int i12), .val (.ref r13), .val (.long k14), .second, .val (.int i16)] [])) _
      refine XS.iload X0.here hx rfl (hb hby dc0_182) rfl ?_
      refine XS.iload X0.here hx rfl (hb hby dc0_184) rfl ?_
      show Steps p.tables e below (T0.setTop (mkF m 186 #[s0, .val (.int (3 : Int32)), s2, s3, .val (.ref b4), .val (.int P1), .val (.ref b6), .val (.ref A1), .val (.ref B1), .val (.int J1), .val (.ref r10), .val (.int i11), .val (.int i12), .val (.ref r13), .val (.long k14), .second, .val (.int i16)] [(.int P1), (.int J1)])) _
      refine XS.icmpNo X0.here hx rfl (hb hby dc0_186) rfl (tlt hJ.2).2.1 ?_
      refine XS.aload X0.here hx rfl (hb hby dc0_189) rfl rfl ?_
      show Steps p.tables e below (T0.setTop (mkF m 191 #[s0, .val (.int (3 : Int32)), s2, s3, .val (.ref b4), .val (.int P1), .val (.ref b6), .val (.ref A1), .val (.ref B1), .val (.int J1), .val (.ref r10), .val (.int i11), .val (.int i12), .val (.ref r13), .val (.long k14), .second, .val (.int i16)] [(.ref b6)])) _
      refine XS.iload X0.here hx rfl (hb hby dc0_191) rfl ?_
      refine X0.aaload hx (j := J1) (v := (.ref r1)) (by rw [e0]; exact Ar101.1) (State.isArrayOf_alike hZ.alike Ar101.2.1) rfl Ar101.2.2 hin101 hat101 (g := (mkF m 193 #[s0, .val (.int (3 : Int32)), s2, s3, .val (.ref b4), .val (.int P1), .val (.ref b6), .val (.ref A1), .val (.ref B1), .val (.int J1), .val (.ref r10), .val (.int i11), .val (.int i12), .val (.ref r13), .val (.long k14), .second, .val (.int i16)] [(.int J1), (.ref b6)])) rfl rfl (hb hby dc0_193) _ ?_
      refine XS.astore X0.here hx rfl (hb hby dc0_194) rfl rfl (l' := #[s0, .val (.int (3 : Int32)), s2, s3, .val (.ref b4), .val (.int P1), .val (.ref b6), .val (.ref A1), .val (.ref B1), .val (.int J1), .val (.ref r1), .val (.int i11), .val (.int i12), .val (.ref r13), .val (.long k14), .second, .val (.int i16)]) rfl ?_
      refine XS.iconst X0.here hx rfl (hb hby dc0_196) ?_
      refine XS.istore X0.here hx rfl (hb hby dc0_197) rfl (l' := #[s0, .val (.int (3 : Int32)), s2, s3, .val (.ref b4), .val (.int P1), .val (.ref b6), .val (.ref A1), .val (.ref B1), .val (.int J1), .val (.ref r1), .val (.int (0 : Int32)), .val (.int i12), .val (.ref r13), .val (.long k14), .second, .val (.int i16)]) rfl ?_
      show Steps p.tables e below (T0.setTop (mkF m 199 #[s0, .val (.int (3 : Int32)), s2, s3, .val (.ref b4), .val (.int P1), .val (.ref b6), .val (.ref A1), .val (.ref B1), .val (.int J1), .val (.ref r1), .val (.int (0 : Int32)), .val (.int i12), .val (.ref r13), .val (.long k14), .second, .val (.int i16)] [])) _
      refine XS.iconst X0.here hx rfl (hb hby dc0_199) ?_
      refine XS.istore X0.here hx rfl (hb hby dc0_200) rfl (l' := #[s0, .val (.int (3 : Int32)), s2, s3, .val (.ref b4), .val (.int P1), .val (.ref b6), .val (.ref A1), .val (.ref B1), .val (.int J1), .val (.ref r1), .val (.int (0 : Int32)), .val (.int (0 : Int32)), .val (.ref r13), .val (.long k14), .second, .val (.int i16)]) rfl ?_
      exact kt)
  obtain ⟨h103, x103, S103, w103, G103, K103, hw103, I103, hS103⟩ := prL hx hZ hw hby hml hown (s0) (.val (.int (3 : Int32))) (s2) (s3) (.val (.ref b4)) (.val (.int P1)) (.val (.ref b6)) (.val (.ref A1)) (.val (.ref B1)) (.val (.int J1)) (.val (.long k14)) (.second) (.val (.int i16)) r1 (own_C3 k0 k1 k2 (xs1.getD (J1).toNatClampNeg 0)) gr 256 h0 (0 : Int32) (0 : Int32) (own_C3 k0 k1 k2 (xs1.getD (J1).toNatClampNeg 0)) (.val (.ref r13)) 0 (by omega) rfl rfl (fun j a b => by omega) (fun j a => rfl) (One.val rfl) I1 ⟨_, _, X0, e0, N0, O0, pre102⟩
  obtain ⟨T103, L103, X103, e103, N103, O103, pre103⟩ := G103
  have stp := own_step3 (g := g1) hd hsh ok hS103
  obtain ⟨cl104, Ar104, S104, -⟩ := id I103
  have f105 := (A4.keep K103 (ninS ne4r nin0))
  obtain ⟨cl106, Ar106, hin106, hat106⟩ := La.at (j := J1) f105 (own_J8 hJ hP8)
  have f107 := (LA.keep K103 (ninS neAr nin0))
  obtain ⟨cl108, Ar108, S108, H108⟩ := id f107
  have hin108 : ¬ ((0 : Int32) < 0 ∨ cl108.slots.size ≤ ((0 : Int32)).toNatClampNeg) := by rw [S108]; exact (by decide)
  have hat108 : cl108.slots[((0 : Int32)).toNatClampNeg]? = some (.long (f1 (0 : Int32))) := H108 _ hin108
  obtain ⟨cl109, Ar109, S109, H109⟩ := id I103
  have hin109 : ¬ ((own_dg (f1 (0 : Int32)) (xs1.getD (J1).toNatClampNeg 0)) < 0 ∨ cl109.slots.size ≤ ((own_dg (f1 (0 : Int32)) (xs1.getD (J1).toNatClampNeg 0))).toNatClampNeg) := by rw [S109]; exact (own_in256 (own_dg_rng _ _))
  have hat109 : cl109.slots[((own_dg (f1 (0 : Int32)) (xs1.getD (J1).toNatClampNeg 0))).toNatClampNeg]? = some (.int (S103 (own_dg (f1 (0 : Int32)) (xs1.getD (J1).toNatClampNeg 0)))) := H109 _ hin109
  obtain ⟨cl110, Ar110, S110, H110⟩ := id I103
  have hin110 : ¬ ((own_dg (f1 (0 : Int32)) (xs1.getD (J1).toNatClampNeg 0)) < 0 ∨ cl110.slots.size ≤ ((own_dg (f1 (0 : Int32)) (xs1.getD (J1).toNatClampNeg 0))).toNatClampNeg) := by rw [S110]; exact (own_in256 (own_dg_rng _ _))
  obtain ⟨T111, h111, X111, e111, W111, st111⟩ := stI X103 hx hZ e103 Ar110 (j := (own_dg (f1 (0 : Int32)) (xs1.getD (J1).toNatClampNeg 0))) hin110 (g := (mkF m 284 #[s0, .val (.int (3 : Int32)), s2, s3, .val (.ref b4), .val (.int P1), .val (.ref b6), .val (.ref A1), .val (.ref B1), .val (.int J1), .val (.ref r1), .val (.int x103), .val (.int (xs1.getD (J1).toNatClampNeg 0)), .val (.int (0 : Int32)), .val (.long (f1 (0 : Int32))), .second, .val (.int i16)] [(.int ((S103 (own_dg (f1 (0 : Int32)) (xs1.getD (J1).toNatClampNeg 0))) + (1 : Int32))), (.int (own_dg (f1 (0 : Int32)) (xs1.getD (J1).toNatClampNeg 0))), (.ref r1), (.int (S103 (own_dg (f1 (0 : Int32)) (xs1.getD (J1).toNatClampNeg 0)))), (.int (2 : Int32))])) rfl rfl (hb hby dc0_284)
  have H111 : Iv Z h111 r1 256 (updI S103 (own_dg (f1 (0 : Int32)) (xs1.getD (J1).toNatClampNeg 0)) ((S103 (own_dg (f1 (0 : Int32)) (xs1.getD (J1).toNatClampNeg 0))) + (1 : Int32))) := Iv.set Ar110 S110 H110 hin110 W111
  have N111 := Fr.snoc X111 N103 gr
  have f112 := ((LB.keep K103 (ninS neBr nin0)).other W111 neBr)
  obtain ⟨cl113, Ar113, S113, H113⟩ := id f112
  have hin113 : ¬ (((2 : Int32) * (S103 (own_dg (f1 (0 : Int32)) (xs1.getD (J1).toNatClampNeg 0)))) < 0 ∨ cl113.slots.size ≤ (((2 : Int32) * (S103 (own_dg (f1 (0 : Int32)) (xs1.getD (J1).toNatClampNeg 0))))).toNatClampNeg) := by rw [S113]; exact (own_b0 stp.1)
  obtain ⟨T114, h114, X114, e114, W114, st114⟩ := stJ X111 hx hZ e111 Ar113 (j := ((2 : Int32) * (S103 (own_dg (f1 (0 : Int32)) (xs1.getD (J1).toNatClampNeg 0))))) hin113 (g := (mkF m 294 #[s0, .val (.int (3 : Int32)), s2, s3, .val (.ref b4), .val (.int P1), .val (.ref b6), .val (.ref A1), .val (.ref B1), .val (.int J1), .val (.ref r1), .val (.int x103), .val (.int (xs1.getD (J1).toNatClampNeg 0)), .val (.int (0 : Int32)), .val (.long (f1 (0 : Int32))), .second, .val (.int ((2 : Int32) * (S103 (own_dg (f1 (0 : Int32)) (xs1.getD (J1).toNatClampNeg 0)))))] [(.long (f1 (0 : Int32))), (.int ((2 : Int32) * (S103 (own_dg (f1 (0 : Int32)) (xs1.getD (J1).toNatClampNeg 0))))), (.ref B1)])) rfl rfl (hb hby dc0_294)
  have H114 : Lv Z h114 B1 6 (upd g1 ((2 : Int32) * (S103 (own_dg (f1 (0 : Int32)) (xs1.getD (J1).toNatClampNeg 0)))) (f1 (0 : Int32))) := Lv.set Ar113 S113 H113 hin113 W114
  have N114 := Fr.snoc X114 N111 gB
  have f115 := ((f107.other W111 neAr).other W114 neAB)
  obtain ⟨cl116, Ar116, S116, H116⟩ := id f115
  have hin116 : ¬ ((1 : Int32) < 0 ∨ cl116.slots.size ≤ ((1 : Int32)).toNatClampNeg) := by rw [S116]; exact (by decide)
  have hat116 : cl116.slots[((1 : Int32)).toNatClampNeg]? = some (.long (f1 (1 : Int32))) := H116 _ hin116
  obtain ⟨cl117, Ar117, S117, H117⟩ := id H114
  have hin117 : ¬ ((((2 : Int32) * (S103 (own_dg (f1 (0 : Int32)) (xs1.getD (J1).toNatClampNeg 0)))) + (1 : Int32)) < 0 ∨ cl117.slots.size ≤ ((((2 : Int32) * (S103 (own_dg (f1 (0 : Int32)) (xs1.getD (J1).toNatClampNeg 0)))) + (1 : Int32))).toNatClampNeg) := by rw [S117]; exact (own_b1 stp.1)
  obtain ⟨T118, h118, X118, e118, W118, st118⟩ := stJ X114 hx hZ e114 Ar117 (j := (((2 : Int32) * (S103 (own_dg (f1 (0 : Int32)) (xs1.getD (J1).toNatClampNeg 0)))) + (1 : Int32))) hin117 (g := (mkF m 310 #[s0, .val (.int (3 : Int32)), s2, s3, .val (.ref b4), .val (.int P1), .val (.ref b6), .val (.ref A1), .val (.ref B1), .val (.int J1), .val (.ref r1), .val (.int x103), .val (.int (xs1.getD (J1).toNatClampNeg 0)), .val (.int (0 : Int32)), .val (.long (f1 (0 : Int32))), .second, .val (.int ((2 : Int32) * (S103 (own_dg (f1 (0 : Int32)) (xs1.getD (J1).toNatClampNeg 0)))))] [(.long (f1 (1 : Int32))), (.int (((2 : Int32) * (S103 (own_dg (f1 (0 : Int32)) (xs1.getD (J1).toNatClampNeg 0)))) + (1 : Int32))), (.ref B1)])) rfl rfl (hb hby dc0_310)
  have H118 : Lv Z h118 B1 6 (upd (upd g1 ((2 : Int32) * (S103 (own_dg (f1 (0 : Int32)) (xs1.getD (J1).toNatClampNeg 0)))) (f1 (0 : Int32))) (((2 : Int32) * (S103 (own_dg (f1 (0 : Int32)) (xs1.getD (J1).toNatClampNeg 0)))) + (1 : Int32)) (f1 (1 : Int32))) := Lv.set Ar117 S117 H117 hin117 W118
  have N118 := Fr.snoc X118 N114 gB
  have f119 := (f115.other W118 neAB)
  obtain ⟨cl120, Ar120, S120, H120⟩ := id f119
  have hin120 : ¬ ((2 : Int32) < 0 ∨ cl120.slots.size ≤ ((2 : Int32)).toNatClampNeg) := by rw [S120]; exact (by decide)
  have hat120 : cl120.slots[((2 : Int32)).toNatClampNeg]? = some (.long (f1 (2 : Int32))) := H120 _ hin120
  have f121 := ((H111.other W114 (Ne.symm neBr)).other W118 (Ne.symm neBr))
  obtain ⟨cl122, Ar122, S122, H122⟩ := id f121
  have hin122 : ¬ ((own_dg (f1 (2 : Int32)) (xs1.getD (J1).toNatClampNeg 0)) < 0 ∨ cl122.slots.size ≤ ((own_dg (f1 (2 : Int32)) (xs1.getD (J1).toNatClampNeg 0))).toNatClampNeg) := by rw [S122]; exact (own_in256 (own_dg_rng _ _))
  have hat122 : cl122.slots[((own_dg (f1 (2 : Int32)) (xs1.getD (J1).toNatClampNeg 0))).toNatClampNeg]? = some (.int ((updI S103 (own_dg (f1 (0 : Int32)) (xs1.getD (J1).toNatClampNeg 0)) ((S103 (own_dg (f1 (0 : Int32)) (xs1.getD (J1).toNatClampNeg 0))) + (1 : Int32))) (own_dg (f1 (2 : Int32)) (xs1.getD (J1).toNatClampNeg 0)))) := H122 _ hin122
  obtain ⟨cl123, Ar123, S123, H123⟩ := id f121
  have hin123 : ¬ ((own_dg (f1 (2 : Int32)) (xs1.getD (J1).toNatClampNeg 0)) < 0 ∨ cl123.slots.size ≤ ((own_dg (f1 (2 : Int32)) (xs1.getD (J1).toNatClampNeg 0))).toNatClampNeg) := by rw [S123]; exact (own_in256 (own_dg_rng _ _))
  obtain ⟨T124, h124, X124, e124, W124, st124⟩ := stI X118 hx hZ e118 Ar123 (j := (own_dg (f1 (2 : Int32)) (xs1.getD (J1).toNatClampNeg 0))) hin123 (g := (mkF m 284 #[s0, .val (.int (3 : Int32)), s2, s3, .val (.ref b4), .val (.int P1), .val (.ref b6), .val (.ref A1), .val (.ref B1), .val (.int J1), .val (.ref r1), .val (.int x103), .val (.int (xs1.getD (J1).toNatClampNeg 0)), .val (.int (1 : Int32)), .val (.long (f1 (2 : Int32))), .second, .val (.int ((2 : Int32) * (S103 (own_dg (f1 (0 : Int32)) (xs1.getD (J1).toNatClampNeg 0)))))] [(.int (((updI S103 (own_dg (f1 (0 : Int32)) (xs1.getD (J1).toNatClampNeg 0)) ((S103 (own_dg (f1 (0 : Int32)) (xs1.getD (J1).toNatClampNeg 0))) + (1 : Int32))) (own_dg (f1 (2 : Int32)) (xs1.getD (J1).toNatClampNeg 0))) + (1 : Int32))), (.int (own_dg (f1 (2 : Int32)) (xs1.getD (J1).toNatClampNeg 0))), (.ref r1), (.int ((updI S103 (own_dg (f1 (0 : Int32)) (xs1.getD (J1).toNatClampNeg 0)) ((S103 (own_dg (f1 (0 : Int32)) (xs1.getD (J1).toNatClampNeg 0))) + (1 : Int32))) (own_dg (f1 (2 : Int32)) (xs1.getD (J1).toNatClampNeg 0)))), (.int (2 : Int32))])) rfl rfl (hb hby dc0_284)
  have H124 : Iv Z h124 r1 256 (updI (updI S103 (own_dg (f1 (0 : Int32)) (xs1.getD (J1).toNatClampNeg 0)) ((S103 (own_dg (f1 (0 : Int32)) (xs1.getD (J1).toNatClampNeg 0))) + (1 : Int32))) (own_dg (f1 (2 : Int32)) (xs1.getD (J1).toNatClampNeg 0)) (((updI S103 (own_dg (f1 (0 : Int32)) (xs1.getD (J1).toNatClampNeg 0)) ((S103 (own_dg (f1 (0 : Int32)) (xs1.getD (J1).toNatClampNeg 0))) + (1 : Int32))) (own_dg (f1 (2 : Int32)) (xs1.getD (J1).toNatClampNeg 0))) + (1 : Int32))) := Iv.set Ar123 S123 H123 hin123 W124
  have N124 := Fr.snoc X124 N118 gr
  have f125 := (H118.other W124 neBr)
  obtain ⟨cl126, Ar126, S126, H126⟩ := id f125
  have hin126 : ¬ (((2 : Int32) * ((updI S103 (own_dg (f1 (0 : Int32)) (xs1.getD (J1).toNatClampNeg 0)) ((S103 (own_dg (f1 (0 : Int32)) (xs1.getD (J1).toNatClampNeg 0))) + (1 : Int32))) (own_dg (f1 (2 : Int32)) (xs1.getD (J1).toNatClampNeg 0)))) < 0 ∨ cl126.slots.size ≤ (((2 : Int32) * ((updI S103 (own_dg (f1 (0 : Int32)) (xs1.getD (J1).toNatClampNeg 0)) ((S103 (own_dg (f1 (0 : Int32)) (xs1.getD (J1).toNatClampNeg 0))) + (1 : Int32))) (own_dg (f1 (2 : Int32)) (xs1.getD (J1).toNatClampNeg 0))))).toNatClampNeg) := by rw [S126]; exact (own_b0 stp.2.1)
  obtain ⟨T127, h127, X127, e127, W127, st127⟩ := stJ X124 hx hZ e124 Ar126 (j := ((2 : Int32) * ((updI S103 (own_dg (f1 (0 : Int32)) (xs1.getD (J1).toNatClampNeg 0)) ((S103 (own_dg (f1 (0 : Int32)) (xs1.getD (J1).toNatClampNeg 0))) + (1 : Int32))) (own_dg (f1 (2 : Int32)) (xs1.getD (J1).toNatClampNeg 0))))) hin126 (g := (mkF m 294 #[s0, .val (.int (3 : Int32)), s2, s3, .val (.ref b4), .val (.int P1), .val (.ref b6), .val (.ref A1), .val (.ref B1), .val (.int J1), .val (.ref r1), .val (.int x103), .val (.int (xs1.getD (J1).toNatClampNeg 0)), .val (.int (1 : Int32)), .val (.long (f1 (2 : Int32))), .second, .val (.int ((2 : Int32) * ((updI S103 (own_dg (f1 (0 : Int32)) (xs1.getD (J1).toNatClampNeg 0)) ((S103 (own_dg (f1 (0 : Int32)) (xs1.getD (J1).toNatClampNeg 0))) + (1 : Int32))) (own_dg (f1 (2 : Int32)) (xs1.getD (J1).toNatClampNeg 0)))))] [(.long (f1 (2 : Int32))), (.int ((2 : Int32) * ((updI S103 (own_dg (f1 (0 : Int32)) (xs1.getD (J1).toNatClampNeg 0)) ((S103 (own_dg (f1 (0 : Int32)) (xs1.getD (J1).toNatClampNeg 0))) + (1 : Int32))) (own_dg (f1 (2 : Int32)) (xs1.getD (J1).toNatClampNeg 0))))), (.ref B1)])) rfl rfl (hb hby dc0_294)
  have H127 : Lv Z h127 B1 6 (upd (upd (upd g1 ((2 : Int32) * (S103 (own_dg (f1 (0 : Int32)) (xs1.getD (J1).toNatClampNeg 0)))) (f1 (0 : Int32))) (((2 : Int32) * (S103 (own_dg (f1 (0 : Int32)) (xs1.getD (J1).toNatClampNeg 0)))) + (1 : Int32)) (f1 (1 : Int32))) ((2 : Int32) * ((updI S103 (own_dg (f1 (0 : Int32)) (xs1.getD (J1).toNatClampNeg 0)) ((S103 (own_dg (f1 (0 : Int32)) (xs1.getD (J1).toNatClampNeg 0))) + (1 : Int32))) (own_dg (f1 (2 : Int32)) (xs1.getD (J1).toNatClampNeg 0)))) (f1 (2 : Int32))) := Lv.set Ar126 S126 H126 hin126 W127
  have N127 := Fr.snoc X127 N124 gB
  have f128 := ((f119.other W124 neAr).other W127 neAB)
  obtain ⟨cl129, Ar129, S129, H129⟩ := id f128
  have hin129 : ¬ ((3 : Int32) < 0 ∨ cl129.slots.size ≤ ((3 : Int32)).toNatClampNeg) := by rw [S129]; exact (by decide)
  have hat129 : cl129.slots[((3 : Int32)).toNatClampNeg]? = some (.long (f1 (3 : Int32))) := H129 _ hin129
  obtain ⟨cl130, Ar130, S130, H130⟩ := id H127
  have hin130 : ¬ ((((2 : Int32) * ((updI S103 (own_dg (f1 (0 : Int32)) (xs1.getD (J1).toNatClampNeg 0)) ((S103 (own_dg (f1 (0 : Int32)) (xs1.getD (J1).toNatClampNeg 0))) + (1 : Int32))) (own_dg (f1 (2 : Int32)) (xs1.getD (J1).toNatClampNeg 0)))) + (1 : Int32)) < 0 ∨ cl130.slots.size ≤ ((((2 : Int32) * ((updI S103 (own_dg (f1 (0 : Int32)) (xs1.getD (J1).toNatClampNeg 0)) ((S103 (own_dg (f1 (0 : Int32)) (xs1.getD (J1).toNatClampNeg 0))) + (1 : Int32))) (own_dg (f1 (2 : Int32)) (xs1.getD (J1).toNatClampNeg 0)))) + (1 : Int32))).toNatClampNeg) := by rw [S130]; exact (own_b1 stp.2.1)
  obtain ⟨T131, h131, X131, e131, W131, st131⟩ := stJ X127 hx hZ e127 Ar130 (j := (((2 : Int32) * ((updI S103 (own_dg (f1 (0 : Int32)) (xs1.getD (J1).toNatClampNeg 0)) ((S103 (own_dg (f1 (0 : Int32)) (xs1.getD (J1).toNatClampNeg 0))) + (1 : Int32))) (own_dg (f1 (2 : Int32)) (xs1.getD (J1).toNatClampNeg 0)))) + (1 : Int32))) hin130 (g := (mkF m 310 #[s0, .val (.int (3 : Int32)), s2, s3, .val (.ref b4), .val (.int P1), .val (.ref b6), .val (.ref A1), .val (.ref B1), .val (.int J1), .val (.ref r1), .val (.int x103), .val (.int (xs1.getD (J1).toNatClampNeg 0)), .val (.int (1 : Int32)), .val (.long (f1 (2 : Int32))), .second, .val (.int ((2 : Int32) * ((updI S103 (own_dg (f1 (0 : Int32)) (xs1.getD (J1).toNatClampNeg 0)) ((S103 (own_dg (f1 (0 : Int32)) (xs1.getD (J1).toNatClampNeg 0))) + (1 : Int32))) (own_dg (f1 (2 : Int32)) (xs1.getD (J1).toNatClampNeg 0)))))] [(.long (f1 (3 : Int32))), (.int (((2 : Int32) * ((updI S103 (own_dg (f1 (0 : Int32)) (xs1.getD (J1).toNatClampNeg 0)) ((S103 (own_dg (f1 (0 : Int32)) (xs1.getD (J1).toNatClampNeg 0))) + (1 : Int32))) (own_dg (f1 (2 : Int32)) (xs1.getD (J1).toNatClampNeg 0)))) + (1 : Int32))), (.ref B1)])) rfl rfl (hb hby dc0_310)
  have H131 : Lv Z h131 B1 6 (upd (upd (upd (upd g1 ((2 : Int32) * (S103 (own_dg (f1 (0 : Int32)) (xs1.getD (J1).toNatClampNeg 0)))) (f1 (0 : Int32))) (((2 : Int32) * (S103 (own_dg (f1 (0 : Int32)) (xs1.getD (J1).toNatClampNeg 0)))) + (1 : Int32)) (f1 (1 : Int32))) ((2 : Int32) * ((updI S103 (own_dg (f1 (0 : Int32)) (xs1.getD (J1).toNatClampNeg 0)) ((S103 (own_dg (f1 (0 : Int32)) (xs1.getD (J1).toNatClampNeg 0))) + (1 : Int32))) (own_dg (f1 (2 : Int32)) (xs1.getD (J1).toNatClampNeg 0)))) (f1 (2 : Int32))) (((2 : Int32) * ((updI S103 (own_dg (f1 (0 : Int32)) (xs1.getD (J1).toNatClampNeg 0)) ((S103 (own_dg (f1 (0 : Int32)) (xs1.getD (J1).toNatClampNeg 0))) + (1 : Int32))) (own_dg (f1 (2 : Int32)) (xs1.getD (J1).toNatClampNeg 0)))) + (1 : Int32)) (f1 (3 : Int32))) := Lv.set Ar130 S130 H130 hin130 W131
  have N131 := Fr.snoc X131 N127 gB
  have f132 := (f128.other W131 neAB)
  obtain ⟨cl133, Ar133, S133, H133⟩ := id f132
  have hin133 : ¬ ((4 : Int32) < 0 ∨ cl133.slots.size ≤ ((4 : Int32)).toNatClampNeg) := by rw [S133]; exact (by decide)
  have hat133 : cl133.slots[((4 : Int32)).toNatClampNeg]? = some (.long (f1 (4 : Int32))) := H133 _ hin133
  have f134 := ((H124.other W127 (Ne.symm neBr)).other W131 (Ne.symm neBr))
  obtain ⟨cl135, Ar135, S135, H135⟩ := id f134
  have hin135 : ¬ ((own_dg (f1 (4 : Int32)) (xs1.getD (J1).toNatClampNeg 0)) < 0 ∨ cl135.slots.size ≤ ((own_dg (f1 (4 : Int32)) (xs1.getD (J1).toNatClampNeg 0))).toNatClampNeg) := by rw [S135]; exact (own_in256 (own_dg_rng _ _))
  have hat135 : cl135.slots[((own_dg (f1 (4 : Int32)) (xs1.getD (J1).toNatClampNeg 0))).toNatClampNeg]? = some (.int ((updI (updI S103 (own_dg (f1 (0 : Int32)) (xs1.getD (J1).toNatClampNeg 0)) ((S103 (own_dg (f1 (0 : Int32)) (xs1.getD (J1).toNatClampNeg 0))) + (1 : Int32))) (own_dg (f1 (2 : Int32)) (xs1.getD (J1).toNatClampNeg 0)) (((updI S103 (own_dg (f1 (0 : Int32)) (xs1.getD (J1).toNatClampNeg 0)) ((S103 (own_dg (f1 (0 : Int32)) (xs1.getD (J1).toNatClampNeg 0))) + (1 : Int32))) (own_dg (f1 (2 : Int32)) (xs1.getD (J1).toNatClampNeg 0))) + (1 : Int32))) (own_dg (f1 (4 : Int32)) (xs1.getD (J1).toNatClampNeg 0)))) := H135 _ hin135
  obtain ⟨cl136, Ar136, S136, H136⟩ := id f134
  have hin136 : ¬ ((own_dg (f1 (4 : Int32)) (xs1.getD (J1).toNatClampNeg 0)) < 0 ∨ cl136.slots.size ≤ ((own_dg (f1 (4 : Int32)) (xs1.getD (J1).toNatClampNeg 0))).toNatClampNeg) := by rw [S136]; exact (own_in256 (own_dg_rng _ _))
  obtain ⟨T137, h137, X137, e137, W137, st137⟩ := stI X131 hx hZ e131 Ar136 (j := (own_dg (f1 (4 : Int32)) (xs1.getD (J1).toNatClampNeg 0))) hin136 (g := (mkF m 284 #[s0, .val (.int (3 : Int32)), s2, s3, .val (.ref b4), .val (.int P1), .val (.ref b6), .val (.ref A1), .val (.ref B1), .val (.int J1), .val (.ref r1), .val (.int x103), .val (.int (xs1.getD (J1).toNatClampNeg 0)), .val (.int (2 : Int32)), .val (.long (f1 (4 : Int32))), .second, .val (.int ((2 : Int32) * ((updI S103 (own_dg (f1 (0 : Int32)) (xs1.getD (J1).toNatClampNeg 0)) ((S103 (own_dg (f1 (0 : Int32)) (xs1.getD (J1).toNatClampNeg 0))) + (1 : Int32))) (own_dg (f1 (2 : Int32)) (xs1.getD (J1).toNatClampNeg 0)))))] [(.int (((updI (updI S103 (own_dg (f1 (0 : Int32)) (xs1.getD (J1).toNatClampNeg 0)) ((S103 (own_dg (f1 (0 : Int32)) (xs1.getD (J1).toNatClampNeg 0))) + (1 : Int32))) (own_dg (f1 (2 : Int32)) (xs1.getD (J1).toNatClampNeg 0)) (((updI S103 (own_dg (f1 (0 : Int32)) (xs1.getD (J1).toNatClampNeg 0)) ((S103 (own_dg (f1 (0 : Int32)) (xs1.getD (J1).toNatClampNeg 0))) + (1 : Int32))) (own_dg (f1 (2 : Int32)) (xs1.getD (J1).toNatClampNeg 0))) + (1 : Int32))) (own_dg (f1 (4 : Int32)) (xs1.getD (J1).toNatClampNeg 0))) + (1 : Int32))), (.int (own_dg (f1 (4 : Int32)) (xs1.getD (J1).toNatClampNeg 0))), (.ref r1), (.int ((updI (updI S103 (own_dg (f1 (0 : Int32)) (xs1.getD (J1).toNatClampNeg 0)) ((S103 (own_dg (f1 (0 : Int32)) (xs1.getD (J1).toNatClampNeg 0))) + (1 : Int32))) (own_dg (f1 (2 : Int32)) (xs1.getD (J1).toNatClampNeg 0)) (((updI S103 (own_dg (f1 (0 : Int32)) (xs1.getD (J1).toNatClampNeg 0)) ((S103 (own_dg (f1 (0 : Int32)) (xs1.getD (J1).toNatClampNeg 0))) + (1 : Int32))) (own_dg (f1 (2 : Int32)) (xs1.getD (J1).toNatClampNeg 0))) + (1 : Int32))) (own_dg (f1 (4 : Int32)) (xs1.getD (J1).toNatClampNeg 0)))), (.int (2 : Int32))])) rfl rfl (hb hby dc0_284)
  have H137 : Iv Z h137 r1 256 (updI (updI (updI S103 (own_dg (f1 (0 : Int32)) (xs1.getD (J1).toNatClampNeg 0)) ((S103 (own_dg (f1 (0 : Int32)) (xs1.getD (J1).toNatClampNeg 0))) + (1 : Int32))) (own_dg (f1 (2 : Int32)) (xs1.getD (J1).toNatClampNeg 0)) (((updI S103 (own_dg (f1 (0 : Int32)) (xs1.getD (J1).toNatClampNeg 0)) ((S103 (own_dg (f1 (0 : Int32)) (xs1.getD (J1).toNatClampNeg 0))) + (1 : Int32))) (own_dg (f1 (2 : Int32)) (xs1.getD (J1).toNatClampNeg 0))) + (1 : Int32))) (own_dg (f1 (4 : Int32)) (xs1.getD (J1).toNatClampNeg 0)) (((updI (updI S103 (own_dg (f1 (0 : Int32)) (xs1.getD (J1).toNatClampNeg 0)) ((S103 (own_dg (f1 (0 : Int32)) (xs1.getD (J1).toNatClampNeg 0))) + (1 : Int32))) (own_dg (f1 (2 : Int32)) (xs1.getD (J1).toNatClampNeg 0)) (((updI S103 (own_dg (f1 (0 : Int32)) (xs1.getD (J1).toNatClampNeg 0)) ((S103 (own_dg (f1 (0 : Int32)) (xs1.getD (J1).toNatClampNeg 0))) + (1 : Int32))) (own_dg (f1 (2 : Int32)) (xs1.getD (J1).toNatClampNeg 0))) + (1 : Int32))) (own_dg (f1 (4 : Int32)) (xs1.getD (J1).toNatClampNeg 0))) + (1 : Int32))) := Iv.set Ar136 S136 H136 hin136 W137
  have N137 := Fr.snoc X137 N131 gr
  have f138 := (H131.other W137 neBr)
  obtain ⟨cl139, Ar139, S139, H139⟩ := id f138
  have hin139 : ¬ (((2 : Int32) * ((updI (updI S103 (own_dg (f1 (0 : Int32)) (xs1.getD (J1).toNatClampNeg 0)) ((S103 (own_dg (f1 (0 : Int32)) (xs1.getD (J1).toNatClampNeg 0))) + (1 : Int32))) (own_dg (f1 (2 : Int32)) (xs1.getD (J1).toNatClampNeg 0)) (((updI S103 (own_dg (f1 (0 : Int32)) (xs1.getD (J1).toNatClampNeg 0)) ((S103 (own_dg (f1 (0 : Int32)) (xs1.getD (J1).toNatClampNeg 0))) + (1 : Int32))) (own_dg (f1 (2 : Int32)) (xs1.getD (J1).toNatClampNeg 0))) + (1 : Int32))) (own_dg (f1 (4 : Int32)) (xs1.getD (J1).toNatClampNeg 0)))) < 0 ∨ cl139.slots.size ≤ (((2 : Int32) * ((updI (updI S103 (own_dg (f1 (0 : Int32)) (xs1.getD (J1).toNatClampNeg 0)) ((S103 (own_dg (f1 (0 : Int32)) (xs1.getD (J1).toNatClampNeg 0))) + (1 : Int32))) (own_dg (f1 (2 : Int32)) (xs1.getD (J1).toNatClampNeg 0)) (((updI S103 (own_dg (f1 (0 : Int32)) (xs1.getD (J1).toNatClampNeg 0)) ((S103 (own_dg (f1 (0 : Int32)) (xs1.getD (J1).toNatClampNeg 0))) + (1 : Int32))) (own_dg (f1 (2 : Int32)) (xs1.getD (J1).toNatClampNeg 0))) + (1 : Int32))) (own_dg (f1 (4 : Int32)) (xs1.getD (J1).toNatClampNeg 0))))).toNatClampNeg) := by rw [S139]; exact (own_b0 stp.2.2.1)
  obtain ⟨T140, h140, X140, e140, W140, st140⟩ := stJ X137 hx hZ e137 Ar139 (j := ((2 : Int32) * ((updI (updI S103 (own_dg (f1 (0 : Int32)) (xs1.getD (J1).toNatClampNeg 0)) ((S103 (own_dg (f1 (0 : Int32)) (xs1.getD (J1).toNatClampNeg 0))) + (1 : Int32))) (own_dg (f1 (2 : Int32)) (xs1.getD (J1).toNatClampNeg 0)) (((updI S103 (own_dg (f1 (0 : Int32)) (xs1.getD (J1).toNatClampNeg 0)) ((S103 (own_dg (f1 (0 : Int32)) (xs1.getD (J1).toNatClampNeg 0))) + (1 : Int32))) (own_dg (f1 (2 : Int32)) (xs1.getD (J1).toNatClampNeg 0))) + (1 : Int32))) (own_dg (f1 (4 : Int32)) (xs1.getD (J1).toNatClampNeg 0))))) hin139 (g := (mkF m 294 #[s0, .val (.int (3 : Int32)), s2, s3, .val (.ref b4), .val (.int P1), .val (.ref b6), .val (.ref A1), .val (.ref B1), .val (.int J1), .val (.ref r1), .val (.int x103), .val (.int (xs1.getD (J1).toNatClampNeg 0)), .val (.int (2 : Int32)), .val (.long (f1 (4 : Int32))), .second, .val (.int ((2 : Int32) * ((updI (updI S103 (own_dg (f1 (0 : Int32)) (xs1.getD (J1).toNatClampNeg 0)) ((S103 (own_dg (f1 (0 : Int32)) (xs1.getD (J1).toNatClampNeg 0))) + (1 : Int32))) (own_dg (f1 (2 : Int32)) (xs1.getD (J1).toNatClampNeg 0)) (((updI S103 (own_dg (f1 (0 : Int32)) (xs1.getD (J1).toNatClampNeg 0)) ((S103 (own_dg (f1 (0 : Int32)) (xs1.getD (J1).toNatClampNeg 0))) + (1 : Int32))) (own_dg (f1 (2 : Int32)) (xs1.getD (J1).toNatClampNeg 0))) + (1 : Int32))) (own_dg (f1 (4 : Int32)) (xs1.getD (J1).toNatClampNeg 0)))))] [(.long (f1 (4 : Int32))), (.int ((2 : Int32) * ((updI (updI S103 (own_dg (f1 (0 : Int32)) (xs1.getD (J1).toNatClampNeg 0)) ((S103 (own_dg (f1 (0 : Int32)) (xs1.getD (J1).toNatClampNeg 0))) + (1 : Int32))) (own_dg (f1 (2 : Int32)) (xs1.getD (J1).toNatClampNeg 0)) (((updI S103 (own_dg (f1 (0 : Int32)) (xs1.getD (J1).toNatClampNeg 0)) ((S103 (own_dg (f1 (0 : Int32)) (xs1.getD (J1).toNatClampNeg 0))) + (1 : Int32))) (own_dg (f1 (2 : Int32)) (xs1.getD (J1).toNatClampNeg 0))) + (1 : Int32))) (own_dg (f1 (4 : Int32)) (xs1.getD (J1).toNatClampNeg 0))))), (.ref B1)])) rfl rfl (hb hby dc0_294)
  have H140 : Lv Z h140 B1 6 (upd (upd (upd (upd (upd g1 ((2 : Int32) * (S103 (own_dg (f1 (0 : Int32)) (xs1.getD (J1).toNatClampNeg 0)))) (f1 (0 : Int32))) (((2 : Int32) * (S103 (own_dg (f1 (0 : Int32)) (xs1.getD (J1).toNatClampNeg 0)))) + (1 : Int32)) (f1 (1 : Int32))) ((2 : Int32) * ((updI S103 (own_dg (f1 (0 : Int32)) (xs1.getD (J1).toNatClampNeg 0)) ((S103 (own_dg (f1 (0 : Int32)) (xs1.getD (J1).toNatClampNeg 0))) + (1 : Int32))) (own_dg (f1 (2 : Int32)) (xs1.getD (J1).toNatClampNeg 0)))) (f1 (2 : Int32))) (((2 : Int32) * ((updI S103 (own_dg (f1 (0 : Int32)) (xs1.getD (J1).toNatClampNeg 0)) ((S103 (own_dg (f1 (0 : Int32)) (xs1.getD (J1).toNatClampNeg 0))) + (1 : Int32))) (own_dg (f1 (2 : Int32)) (xs1.getD (J1).toNatClampNeg 0)))) + (1 : Int32)) (f1 (3 : Int32))) ((2 : Int32) * ((updI (updI S103 (own_dg (f1 (0 : Int32)) (xs1.getD (J1).toNatClampNeg 0)) ((S103 (own_dg (f1 (0 : Int32)) (xs1.getD (J1).toNatClampNeg 0))) + (1 : Int32))) (own_dg (f1 (2 : Int32)) (xs1.getD (J1).toNatClampNeg 0)) (((updI S103 (own_dg (f1 (0 : Int32)) (xs1.getD (J1).toNatClampNeg 0)) ((S103 (own_dg (f1 (0 : Int32)) (xs1.getD (J1).toNatClampNeg 0))) + (1 : Int32))) (own_dg (f1 (2 : Int32)) (xs1.getD (J1).toNatClampNeg 0))) + (1 : Int32))) (own_dg (f1 (4 : Int32)) (xs1.getD (J1).toNatClampNeg 0)))) (f1 (4 : Int32))) := Lv.set Ar139 S139 H139 hin139 W140
  have N140 := Fr.snoc X140 N137 gB
  have f141 := ((f132.other W137 neAr).other W140 neAB)
  obtain ⟨cl142, Ar142, S142, H142⟩ := id f141
  have hin142 : ¬ ((5 : Int32) < 0 ∨ cl142.slots.size ≤ ((5 : Int32)).toNatClampNeg) := by rw [S142]; exact (by decide)
  have hat142 : cl142.slots[((5 : Int32)).toNatClampNeg]? = some (.long (f1 (5 : Int32))) := H142 _ hin142
  obtain ⟨cl143, Ar143, S143, H143⟩ := id H140
  have hin143 : ¬ ((((2 : Int32) * ((updI (updI S103 (own_dg (f1 (0 : Int32)) (xs1.getD (J1).toNatClampNeg 0)) ((S103 (own_dg (f1 (0 : Int32)) (xs1.getD (J1).toNatClampNeg 0))) + (1 : Int32))) (own_dg (f1 (2 : Int32)) (xs1.getD (J1).toNatClampNeg 0)) (((updI S103 (own_dg (f1 (0 : Int32)) (xs1.getD (J1).toNatClampNeg 0)) ((S103 (own_dg (f1 (0 : Int32)) (xs1.getD (J1).toNatClampNeg 0))) + (1 : Int32))) (own_dg (f1 (2 : Int32)) (xs1.getD (J1).toNatClampNeg 0))) + (1 : Int32))) (own_dg (f1 (4 : Int32)) (xs1.getD (J1).toNatClampNeg 0)))) + (1 : Int32)) < 0 ∨ cl143.slots.size ≤ ((((2 : Int32) * ((updI (updI S103 (own_dg (f1 (0 : Int32)) (xs1.getD (J1).toNatClampNeg 0)) ((S103 (own_dg (f1 (0 : Int32)) (xs1.getD (J1).toNatClampNeg 0))) + (1 : Int32))) (own_dg (f1 (2 : Int32)) (xs1.getD (J1).toNatClampNeg 0)) (((updI S103 (own_dg (f1 (0 : Int32)) (xs1.getD (J1).toNatClampNeg 0)) ((S103 (own_dg (f1 (0 : Int32)) (xs1.getD (J1).toNatClampNeg 0))) + (1 : Int32))) (own_dg (f1 (2 : Int32)) (xs1.getD (J1).toNatClampNeg 0))) + (1 : Int32))) (own_dg (f1 (4 : Int32)) (xs1.getD (J1).toNatClampNeg 0)))) + (1 : Int32))).toNatClampNeg) := by rw [S143]; exact (own_b1 stp.2.2.1)
  obtain ⟨T144, h144, X144, e144, W144, st144⟩ := stJ X140 hx hZ e140 Ar143 (j := (((2 : Int32) * ((updI (updI S103 (own_dg (f1 (0 : Int32)) (xs1.getD (J1).toNatClampNeg 0)) ((S103 (own_dg (f1 (0 : Int32)) (xs1.getD (J1).toNatClampNeg 0))) + (1 : Int32))) (own_dg (f1 (2 : Int32)) (xs1.getD (J1).toNatClampNeg 0)) (((updI S103 (own_dg (f1 (0 : Int32)) (xs1.getD (J1).toNatClampNeg 0)) ((S103 (own_dg (f1 (0 : Int32)) (xs1.getD (J1).toNatClampNeg 0))) + (1 : Int32))) (own_dg (f1 (2 : Int32)) (xs1.getD (J1).toNatClampNeg 0))) + (1 : Int32))) (own_dg (f1 (4 : Int32)) (xs1.getD (J1).toNatClampNeg 0)))) + (1 : Int32))) hin143 (g := (mkF m 310 #[s0, .val (.int (3 : Int32)), s2, s3, .val (.ref b4), .val (.int P1), .val (.ref b6), .val (.ref A1), .val (.ref B1), .val (.int J1), .val (.ref r1), .val (.int x103), .val (.int (xs1.getD (J1).toNatClampNeg 0)), .val (.int (2 : Int32)), .val (.long (f1 (4 : Int32))), .second, .val (.int ((2 : Int32) * ((updI (updI S103 (own_dg (f1 (0 : Int32)) (xs1.getD (J1).toNatClampNeg 0)) ((S103 (own_dg (f1 (0 : Int32)) (xs1.getD (J1).toNatClampNeg 0))) + (1 : Int32))) (own_dg (f1 (2 : Int32)) (xs1.getD (J1).toNatClampNeg 0)) (((updI S103 (own_dg (f1 (0 : Int32)) (xs1.getD (J1).toNatClampNeg 0)) ((S103 (own_dg (f1 (0 : Int32)) (xs1.getD (J1).toNatClampNeg 0))) + (1 : Int32))) (own_dg (f1 (2 : Int32)) (xs1.getD (J1).toNatClampNeg 0))) + (1 : Int32))) (own_dg (f1 (4 : Int32)) (xs1.getD (J1).toNatClampNeg 0)))))] [(.long (f1 (5 : Int32))), (.int (((2 : Int32) * ((updI (updI S103 (own_dg (f1 (0 : Int32)) (xs1.getD (J1).toNatClampNeg 0)) ((S103 (own_dg (f1 (0 : Int32)) (xs1.getD (J1).toNatClampNeg 0))) + (1 : Int32))) (own_dg (f1 (2 : Int32)) (xs1.getD (J1).toNatClampNeg 0)) (((updI S103 (own_dg (f1 (0 : Int32)) (xs1.getD (J1).toNatClampNeg 0)) ((S103 (own_dg (f1 (0 : Int32)) (xs1.getD (J1).toNatClampNeg 0))) + (1 : Int32))) (own_dg (f1 (2 : Int32)) (xs1.getD (J1).toNatClampNeg 0))) + (1 : Int32))) (own_dg (f1 (4 : Int32)) (xs1.getD (J1).toNatClampNeg 0)))) + (1 : Int32))), (.ref B1)])) rfl rfl (hb hby dc0_310)
  have H144 : Lv Z h144 B1 6 (upd (upd (upd (upd (upd (upd g1 ((2 : Int32) * (S103 (own_dg (f1 (0 : Int32)) (xs1.getD (J1).toNatClampNeg 0)))) (f1 (0 : Int32))) (((2 : Int32) * (S103 (own_dg (f1 (0 : Int32)) (xs1.getD (J1).toNatClampNeg 0)))) + (1 : Int32)) (f1 (1 : Int32))) ((2 : Int32) * ((updI S103 (own_dg (f1 (0 : Int32)) (xs1.getD (J1).toNatClampNeg 0)) ((S103 (own_dg (f1 (0 : Int32)) (xs1.getD (J1).toNatClampNeg 0))) + (1 : Int32))) (own_dg (f1 (2 : Int32)) (xs1.getD (J1).toNatClampNeg 0)))) (f1 (2 : Int32))) (((2 : Int32) * ((updI S103 (own_dg (f1 (0 : Int32)) (xs1.getD (J1).toNatClampNeg 0)) ((S103 (own_dg (f1 (0 : Int32)) (xs1.getD (J1).toNatClampNeg 0))) + (1 : Int32))) (own_dg (f1 (2 : Int32)) (xs1.getD (J1).toNatClampNeg 0)))) + (1 : Int32)) (f1 (3 : Int32))) ((2 : Int32) * ((updI (updI S103 (own_dg (f1 (0 : Int32)) (xs1.getD (J1).toNatClampNeg 0)) ((S103 (own_dg (f1 (0 : Int32)) (xs1.getD (J1).toNatClampNeg 0))) + (1 : Int32))) (own_dg (f1 (2 : Int32)) (xs1.getD (J1).toNatClampNeg 0)) (((updI S103 (own_dg (f1 (0 : Int32)) (xs1.getD (J1).toNatClampNeg 0)) ((S103 (own_dg (f1 (0 : Int32)) (xs1.getD (J1).toNatClampNeg 0))) + (1 : Int32))) (own_dg (f1 (2 : Int32)) (xs1.getD (J1).toNatClampNeg 0))) + (1 : Int32))) (own_dg (f1 (4 : Int32)) (xs1.getD (J1).toNatClampNeg 0)))) (f1 (4 : Int32))) (((2 : Int32) * ((updI (updI S103 (own_dg (f1 (0 : Int32)) (xs1.getD (J1).toNatClampNeg 0)) ((S103 (own_dg (f1 (0 : Int32)) (xs1.getD (J1).toNatClampNeg 0))) + (1 : Int32))) (own_dg (f1 (2 : Int32)) (xs1.getD (J1).toNatClampNeg 0)) (((updI S103 (own_dg (f1 (0 : Int32)) (xs1.getD (J1).toNatClampNeg 0)) ((S103 (own_dg (f1 (0 : Int32)) (xs1.getD (J1).toNatClampNeg 0))) + (1 : Int32))) (own_dg (f1 (2 : Int32)) (xs1.getD (J1).toNatClampNeg 0))) + (1 : Int32))) (own_dg (f1 (4 : Int32)) (xs1.getD (J1).toNatClampNeg 0)))) + (1 : Int32)) (f1 (5 : Int32))) := Lv.set Ar143 S143 H143 hin143 W144
  have N144 := Fr.snoc X144 N140 gB
  have pre145 : ∀ t, Steps p.tables e below (T144.setTop (mkF m 182 #[s0, .val (.int (3 : Int32)), s2, s3, .val (.ref b4), .val (.int P1), .val (.ref b6), .val (.ref B1), .val (.ref A1), .val (.int (J1 + (1 : Int32))), .val (.ref r1), .val (.int x103), .val (.int (xs1.getD (J1).toNatClampNeg 0)), .val (.ref B1), .val (.long (f1 (4 : Int32))), .second, .val (.int ((2 : Int32) * ((updI (updI S103 (own_dg (f1 (0 : Int32)) (xs1.getD (J1).toNatClampNeg 0)) ((S103 (own_dg (f1 (0 : Int32)) (xs1.getD (J1).toNatClampNeg 0))) + (1 : Int32))) (own_dg (f1 (2 : Int32)) (xs1.getD (J1).toNatClampNeg 0)) (((updI S103 (own_dg (f1 (0 : Int32)) (xs1.getD (J1).toNatClampNeg 0)) ((S103 (own_dg (f1 (0 : Int32)) (xs1.getD (J1).toNatClampNeg 0))) + (1 : Int32))) (own_dg (f1 (2 : Int32)) (xs1.getD (J1).toNatClampNeg 0))) + (1 : Int32))) (own_dg (f1 (4 : Int32)) (xs1.getD (J1).toNatClampNeg 0)))))] [])) t → Steps p.tables e below (st0) t := fun t kt => pre103 t (by
      show Steps p.tables e below (T103.setTop (mkF m 202 #[s0, .val (.int (3 : Int32)), s2, s3, .val (.ref b4), .val (.int P1), .val (.ref b6), .val (.ref A1), .val (.ref B1), .val (.int J1), .val (.ref r1), .val (.int x103), .val (.int (256 : Int32)), w103, .val (.long k14), .second, .val (.int i16)] [])) _
      refine XS.iload X103.here hx rfl (hb hby dc0_202) rfl ?_
      refine XS.aload X103.here hx rfl (hb hby dc0_204) rfl rfl ?_
      refine X103.arraylength hx (by rw [e103]; exact Ar104.1) (State.isArrayOf_alike hZ.alike Ar104.2.1) (g := (mkF m 206 #[s0, .val (.int (3 : Int32)), s2, s3, .val (.ref b4), .val (.int P1), .val (.ref b6), .val (.ref A1), .val (.ref B1), .val (.int J1), .val (.ref r1), .val (.int x103), .val (.int (256 : Int32)), w103, .val (.long k14), .second, .val (.int i16)] [(.ref r1), (.int (256 : Int32))])) rfl rfl (hb hby dc0_206) _ ?_
      rw [show cl104.slots.size.toInt32 = (256 : Int32) from by rw [S104]; rfl]
      show Steps p.tables e below (T103.setTop (mkF m 207 #[s0, .val (.int (3 : Int32)), s2, s3, .val (.ref b4), .val (.int P1), .val (.ref b6), .val (.ref A1), .val (.ref B1), .val (.int J1), .val (.ref r1), .val (.int x103), .val (.int (256 : Int32)), w103, .val (.long k14), .second, .val (.int i16)] [(.int (256 : Int32)), (.int (256 : Int32))])) _
      refine XS.icmpYes X103.here hx rfl (pc0 := 207) (pc' := 237) rfl (hb hby dc0_207) rfl (by decide) (by decide) (by decide) ?_
      refine XS.aload X103.here hx rfl (hb hby dc0_237) rfl rfl ?_
      refine XS.iload X103.here hx rfl (hb hby dc0_239) rfl ?_
      refine X103.iaload hx (j := J1) (v := (.int (xs1.getD (J1).toNatClampNeg 0))) (by rw [e103]; exact Ar106.1) (State.isArrayOf_alike hZ.alike Ar106.2.1) Ar106.2.2 hin106 hat106 (g := (mkF m 241 #[s0, .val (.int (3 : Int32)), s2, s3, .val (.ref b4), .val (.int P1), .val (.ref b6), .val (.ref A1), .val (.ref B1), .val (.int J1), .val (.ref r1), .val (.int x103), .val (.int (256 : Int32)), w103, .val (.long k14), .second, .val (.int i16)] [(.int J1), (.ref b4)])) rfl rfl (hb hby dc0_241) _ ?_
      refine XS.istore X103.here hx rfl (hb hby dc0_242) rfl (l' := #[s0, .val (.int (3 : Int32)), s2, s3, .val (.ref b4), .val (.int P1), .val (.ref b6), .val (.ref A1), .val (.ref B1), .val (.int J1), .val (.ref r1), .val (.int x103), .val (.int (xs1.getD (J1).toNatClampNeg 0)), w103, .val (.long k14), .second, .val (.int i16)]) rfl ?_
      show Steps p.tables e below (T103.setTop (mkF m 244 #[s0, .val (.int (3 : Int32)), s2, s3, .val (.ref b4), .val (.int P1), .val (.ref b6), .val (.ref A1), .val (.ref B1), .val (.int J1), .val (.ref r1), .val (.int x103), .val (.int (xs1.getD (J1).toNatClampNeg 0)), w103, .val (.long k14), .second, .val (.int i16)] [])) _
      refine XS.iconst X103.here hx rfl (hb hby dc0_244) ?_
      refine XS.istore X103.here hx rfl (hb hby dc0_245) rfl (l' := #[s0, .val (.int (3 : Int32)), s2, s3, .val (.ref b4), .val (.int P1), .val (.ref b6), .val (.ref A1), .val (.ref B1), .val (.int J1), .val (.ref r1), .val (.int x103), .val (.int (xs1.getD (J1).toNatClampNeg 0)), .val (.int (0 : Int32)), .val (.long k14), .second, .val (.int i16)]) (os_2 hw103) ?_
      refine XS.iload X103.here hx rfl (hb hby dc0_247) rfl ?_
      refine XS.iloadN X103.here hx rfl (hb hby dc0_249) rfl ?_
      show Steps p.tables e below (T103.setTop (mkF m 250 #[s0, .val (.int (3 : Int32)), s2, s3, .val (.ref b4), .val (.int P1), .val (.ref b6), .val (.ref A1), .val (.ref B1), .val (.int J1), .val (.ref r1), .val (.int x103), .val (.int (xs1.getD (J1).toNatClampNeg 0)), .val (.int (0 : Int32)), .val (.long k14), .second, .val (.int i16)] [(.int (3 : Int32)), (.int (0 : Int32))])) _
      refine XS.icmpNo X103.here hx rfl (hb hby dc0_250) rfl (by decide) ?_
      show Steps p.tables e below (T103.setTop (mkF m 253 #[s0, .val (.int (3 : Int32)), s2, s3, .val (.ref b4), .val (.int P1), .val (.ref b6), .val (.ref A1), .val (.ref B1), .val (.int J1), .val (.ref r1), .val (.int x103), .val (.int (xs1.getD (J1).toNatClampNeg 0)), .val (.int (0 : Int32)), .val (.long k14), .second, .val (.int i16)] [])) _
      refine XS.aload X103.here hx rfl (hb hby dc0_253) rfl rfl ?_
      refine XS.iconst X103.here hx rfl (hb hby dc0_255) ?_
      refine XS.iload X103.here hx rfl (hb hby dc0_256) rfl ?_
      refine XS.imul X103.here hx rfl (hb hby dc0_258) rfl ?_
      refine X103.laload hx (j := (0 : Int32)) (v := (.long (f1 (0 : Int32)))) (by rw [e103]; exact Ar108.1) (State.isArrayOf_alike hZ.alike Ar108.2.1) Ar108.2.2 hin108 hat108 (g := (mkF m 259 #[s0, .val (.int (3 : Int32)), s2, s3, .val (.ref b4), .val (.int P1), .val (.ref b6), .val (.ref A1), .val (.ref B1), .val (.int J1), .val (.ref r1), .val (.int x103), .val (.int (xs1.getD (J1).toNatClampNeg 0)), .val (.int (0 : Int32)), .val (.long k14), .second, .val (.int i16)] [(.int (0 : Int32)), (.ref A1)])) rfl rfl (hb hby dc0_259) _ ?_
      show Steps p.tables e below (T103.setTop (mkF m 260 #[s0, .val (.int (3 : Int32)), s2, s3, .val (.ref b4), .val (.int P1), .val (.ref b6), .val (.ref A1), .val (.ref B1), .val (.int J1), .val (.ref r1), .val (.int x103), .val (.int (xs1.getD (J1).toNatClampNeg 0)), .val (.int (0 : Int32)), .val (.long k14), .second, .val (.int i16)] [(.long (f1 (0 : Int32)))])) _
      refine XS.lstore X103.here hx rfl (hb hby dc0_260) rfl (l' := #[s0, .val (.int (3 : Int32)), s2, s3, .val (.ref b4), .val (.int P1), .val (.ref b6), .val (.ref A1), .val (.ref B1), .val (.int J1), .val (.ref r1), .val (.int x103), .val (.int (xs1.getD (J1).toNatClampNeg 0)), .val (.int (0 : Int32)), .val (.long (f1 (0 : Int32))), .second, .val (.int i16)]) rfl ?_
      refine XS.iconst X103.here hx rfl (hb hby dc0_262) ?_
      refine XS.aload X103.here hx rfl (hb hby dc0_263) rfl rfl ?_
      refine XS.lload X103.here hx rfl (hb hby dc0_265) rfl ?_
      refine X103.ldc2Long hx hown (mvT hZ (hw _ (List.mem_of_getElem? (i := 9) rfl))) (g := (mkF m 267 #[s0, .val (.int (3 : Int32)), s2, s3, .val (.ref b4), .val (.int P1), .val (.ref b6), .val (.ref A1), .val (.ref B1), .val (.int J1), .val (.ref r1), .val (.int x103), .val (.int (xs1.getD (J1).toNatClampNeg 0)), .val (.int (0 : Int32)), .val (.long (f1 (0 : Int32))), .second, .val (.int i16)] [(.long (f1 (0 : Int32))), (.ref r1), (.int (2 : Int32))])) rfl (hb hby dc0_267) _ ?_
      show Steps p.tables e below (T103.setTop (mkF m 270 #[s0, .val (.int (3 : Int32)), s2, s3, .val (.ref b4), .val (.int P1), .val (.ref b6), .val (.ref A1), .val (.ref B1), .val (.int J1), .val (.ref r1), .val (.int x103), .val (.int (xs1.getD (J1).toNatClampNeg 0)), .val (.int (0 : Int32)), .val (.long (f1 (0 : Int32))), .second, .val (.int i16)] [(.long (-9223372036854775808 : Int64)), (.long (f1 (0 : Int32))), (.ref r1), (.int (2 : Int32))])) _
      refine XS.lxor X103.here hx rfl (hb hby dc0_270) rfl ?_
      refine XS.iload X103.here hx rfl (hb hby dc0_271) rfl ?_
      refine XS.lushr X103.here hx rfl (hb hby dc0_273) rfl ?_
      refine XS.l2i X103.here hx rfl (hb hby dc0_274) rfl ?_
      refine XS.sipush X103.here hx rfl (hb hby dc0_275) ?_
      show Steps p.tables e below (T103.setTop (mkF m 278 #[s0, .val (.int (3 : Int32)), s2, s3, .val (.ref b4), .val (.int P1), .val (.ref b6), .val (.ref A1), .val (.ref B1), .val (.int J1), .val (.ref r1), .val (.int x103), .val (.int (xs1.getD (J1).toNatClampNeg 0)), .val (.int (0 : Int32)), .val (.long (f1 (0 : Int32))), .second, .val (.int i16)] [(.int (255 : Int32)), (.int (((((f1 (0 : Int32)) ^^^ (-9223372036854775808 : Int64)).toUInt64 >>> ((xs1.getD (J1).toNatClampNeg 0) &&& 0x3f).toInt64.toUInt64).toInt64).toInt32)), (.ref r1), (.int (2 : Int32))])) _
      refine XS.iand X103.here hx rfl (hb hby dc0_278) rfl ?_
      show Steps p.tables e below (T103.setTop (mkF m 279 #[s0, .val (.int (3 : Int32)), s2, s3, .val (.ref b4), .val (.int P1), .val (.ref b6), .val (.ref A1), .val (.ref B1), .val (.int J1), .val (.ref r1), .val (.int x103), .val (.int (xs1.getD (J1).toNatClampNeg 0)), .val (.int (0 : Int32)), .val (.long (f1 (0 : Int32))), .second, .val (.int i16)] [(.int ((((((f1 (0 : Int32)) ^^^ (-9223372036854775808 : Int64)).toUInt64 >>> ((xs1.getD (J1).toNatClampNeg 0) &&& 0x3f).toInt64.toUInt64).toInt64).toInt32) &&& (255 : Int32))), (.ref r1), (.int (2 : Int32))])) _
      rw [(show ((((((f1 (0 : Int32)) ^^^ (-9223372036854775808 : Int64)).toUInt64 >>> ((xs1.getD (J1).toNatClampNeg 0) &&& 0x3f).toInt64.toUInt64).toInt64).toInt32) &&& (255 : Int32)) = own_dg (f1 (0 : Int32)) (xs1.getD (J1).toNatClampNeg 0) from rfl)]
      jvm_step X103.here [X103.here.top, hx, (hb hby dc0_279), Value.category]
      refine X103.iaload hx (j := (own_dg (f1 (0 : Int32)) (xs1.getD (J1).toNatClampNeg 0))) (v := (.int (S103 (own_dg (f1 (0 : Int32)) (xs1.getD (J1).toNatClampNeg 0))))) (by rw [e103]; exact Ar109.1) (State.isArrayOf_alike hZ.alike Ar109.2.1) Ar109.2.2 hin109 hat109 (g := (mkF m 280 #[s0, .val (.int (3 : Int32)), s2, s3, .val (.ref b4), .val (.int P1), .val (.ref b6), .val (.ref A1), .val (.ref B1), .val (.int J1), .val (.ref r1), .val (.int x103), .val (.int (xs1.getD (J1).toNatClampNeg 0)), .val (.int (0 : Int32)), .val (.long (f1 (0 : Int32))), .second, .val (.int i16)] [(.int (own_dg (f1 (0 : Int32)) (xs1.getD (J1).toNatClampNeg 0))), (.ref r1), (.int (own_dg (f1 (0 : Int32)) (xs1.getD (J1).toNatClampNeg 0))), (.ref r1), (.int (2 : Int32))])) rfl rfl (hb hby dc0_280) _ ?_
      jvm_step X103.here [X103.here.top, hx, (hb hby dc0_281), Value.category]
      show Steps p.tables e below (T103.setTop (mkF m 282 #[s0, .val (.int (3 : Int32)), s2, s3, .val (.ref b4), .val (.int P1), .val (.ref b6), .val (.ref A1), .val (.ref B1), .val (.int J1), .val (.ref r1), .val (.int x103), .val (.int (xs1.getD (J1).toNatClampNeg 0)), .val (.int (0 : Int32)), .val (.long (f1 (0 : Int32))), .second, .val (.int i16)] [(.int (S103 (own_dg (f1 (0 : Int32)) (xs1.getD (J1).toNatClampNeg 0)))), (.int (own_dg (f1 (0 : Int32)) (xs1.getD (J1).toNatClampNeg 0))), (.ref r1), (.int (S103 (own_dg (f1 (0 : Int32)) (xs1.getD (J1).toNatClampNeg 0)))), (.int (2 : Int32))])) _
      refine XS.iconst X103.here hx rfl (hb hby dc0_282) ?_
      refine XS.iadd X103.here hx rfl (hb hby dc0_283) rfl ?_
      refine st111 _ ?_
      refine XS.imul X111.here hx rfl (hb hby dc0_285) rfl ?_
      refine XS.istore X111.here hx rfl (hb hby dc0_286) rfl (l' := #[s0, .val (.int (3 : Int32)), s2, s3, .val (.ref b4), .val (.int P1), .val (.ref b6), .val (.ref A1), .val (.ref B1), .val (.int J1), .val (.ref r1), .val (.int x103), .val (.int (xs1.getD (J1).toNatClampNeg 0)), .val (.int (0 : Int32)), .val (.long (f1 (0 : Int32))), .second, .val (.int ((2 : Int32) * (S103 (own_dg (f1 (0 : Int32)) (xs1.getD (J1).toNatClampNeg 0)))))]) rfl ?_
      show Steps p.tables e below (T111.setTop (mkF m 288 #[s0, .val (.int (3 : Int32)), s2, s3, .val (.ref b4), .val (.int P1), .val (.ref b6), .val (.ref A1), .val (.ref B1), .val (.int J1), .val (.ref r1), .val (.int x103), .val (.int (xs1.getD (J1).toNatClampNeg 0)), .val (.int (0 : Int32)), .val (.long (f1 (0 : Int32))), .second, .val (.int ((2 : Int32) * (S103 (own_dg (f1 (0 : Int32)) (xs1.getD (J1).toNatClampNeg 0)))))] [])) _
      refine XS.aload X111.here hx rfl (hb hby dc0_288) rfl rfl ?_
      refine XS.iload X111.here hx rfl (hb hby dc0_290) rfl ?_
      refine XS.lload X111.here hx rfl (hb hby dc0_292) rfl ?_
      refine st114 _ ?_
      refine XS.aload X114.here hx rfl (hb hby dc0_295) rfl rfl ?_
      show Steps p.tables e below (T114.setTop (mkF m 297 #[s0, .val (.int (3 : Int32)), s2, s3, .val (.ref b4), .val (.int P1), .val (.ref b6), .val (.ref A1), .val (.ref B1), .val (.int J1), .val (.ref r1), .val (.int x103), .val (.int (xs1.getD (J1).toNatClampNeg 0)), .val (.int (0 : Int32)), .val (.long (f1 (0 : Int32))), .second, .val (.int ((2 : Int32) * (S103 (own_dg (f1 (0 : Int32)) (xs1.getD (J1).toNatClampNeg 0)))))] [(.ref B1)])) _
      refine XS.iload X114.here hx rfl (hb hby dc0_297) rfl ?_
      refine XS.iconst X114.here hx rfl (hb hby dc0_299) ?_
      refine XS.iadd X114.here hx rfl (hb hby dc0_300) rfl ?_
      refine XS.aload X114.here hx rfl (hb hby dc0_301) rfl rfl ?_
      refine XS.iconst X114.here hx rfl (hb hby dc0_303) ?_
      show Steps p.tables e below (T114.setTop (mkF m 304 #[s0, .val (.int (3 : Int32)), s2, s3, .val (.ref b4), .val (.int P1), .val (.ref b6), .val (.ref A1), .val (.ref B1), .val (.int J1), .val (.ref r1), .val (.int x103), .val (.int (xs1.getD (J1).toNatClampNeg 0)), .val (.int (0 : Int32)), .val (.long (f1 (0 : Int32))), .second, .val (.int ((2 : Int32) * (S103 (own_dg (f1 (0 : Int32)) (xs1.getD (J1).toNatClampNeg 0)))))] [(.int (2 : Int32)), (.ref A1), (.int (((2 : Int32) * (S103 (own_dg (f1 (0 : Int32)) (xs1.getD (J1).toNatClampNeg 0)))) + (1 : Int32))), (.ref B1)])) _
      refine XS.iload X114.here hx rfl (hb hby dc0_304) rfl ?_
      refine XS.imul X114.here hx rfl (hb hby dc0_306) rfl ?_
      refine XS.iconst X114.here hx rfl (hb hby dc0_307) ?_
      refine XS.iadd X114.here hx rfl (hb hby dc0_308) rfl ?_
      refine X114.laload hx (j := (1 : Int32)) (v := (.long (f1 (1 : Int32)))) (by rw [e114]; exact Ar116.1) (State.isArrayOf_alike hZ.alike Ar116.2.1) Ar116.2.2 hin116 hat116 (g := (mkF m 309 #[s0, .val (.int (3 : Int32)), s2, s3, .val (.ref b4), .val (.int P1), .val (.ref b6), .val (.ref A1), .val (.ref B1), .val (.int J1), .val (.ref r1), .val (.int x103), .val (.int (xs1.getD (J1).toNatClampNeg 0)), .val (.int (0 : Int32)), .val (.long (f1 (0 : Int32))), .second, .val (.int ((2 : Int32) * (S103 (own_dg (f1 (0 : Int32)) (xs1.getD (J1).toNatClampNeg 0)))))] [(.int (1 : Int32)), (.ref A1), (.int (((2 : Int32) * (S103 (own_dg (f1 (0 : Int32)) (xs1.getD (J1).toNatClampNeg 0)))) + (1 : Int32))), (.ref B1)])) rfl rfl (hb hby dc0_309) _ ?_
      show Steps p.tables e below (T114.setTop (mkF m 310 #[s0, .val (.int (3 : Int32)), s2, s3, .val (.ref b4), .val (.int P1), .val (.ref b6), .val (.ref A1), .val (.ref B1), .val (.int J1), .val (.ref r1), .val (.int x103), .val (.int (xs1.getD (J1).toNatClampNeg 0)), .val (.int (0 : Int32)), .val (.long (f1 (0 : Int32))), .second, .val (.int ((2 : Int32) * (S103 (own_dg (f1 (0 : Int32)) (xs1.getD (J1).toNatClampNeg 0)))))] [(.long (f1 (1 : Int32))), (.int (((2 : Int32) * (S103 (own_dg (f1 (0 : Int32)) (xs1.getD (J1).toNatClampNeg 0)))) + (1 : Int32))), (.ref B1)])) _
      refine st118 _ ?_
      refine XS.iinc X118.here hx rfl (hb hby dc0_311) rfl (l' := #[s0, .val (.int (3 : Int32)), s2, s3, .val (.ref b4), .val (.int P1), .val (.ref b6), .val (.ref A1), .val (.ref B1), .val (.int J1), .val (.ref r1), .val (.int x103), .val (.int (xs1.getD (J1).toNatClampNeg 0)), .val (.int (1 : Int32)), .val (.long (f1 (0 : Int32))), .second, .val (.int ((2 : Int32) * (S103 (own_dg (f1 (0 : Int32)) (xs1.getD (J1).toNatClampNeg 0)))))]) rfl ?_
      refine XS.goto X118.here hx rfl (pc0 := 314) (pc' := 247) rfl (hb hby dc0_314) (by decide) (by decide) ?_
      refine XS.iload X118.here hx rfl (hb hby dc0_247) rfl ?_
      refine XS.iloadN X118.here hx rfl (hb hby dc0_249) rfl ?_
      show Steps p.tables e below (T118.setTop (mkF m 250 #[s0, .val (.int (3 : Int32)), s2, s3, .val (.ref b4), .val (.int P1), .val (.ref b6), .val (.ref A1), .val (.ref B1), .val (.int J1), .val (.ref r1), .val (.int x103), .val (.int (xs1.getD (J1).toNatClampNeg 0)), .val (.int (1 : Int32)), .val (.long (f1 (0 : Int32))), .second, .val (.int ((2 : Int32) * (S103 (own_dg (f1 (0 : Int32)) (xs1.getD (J1).toNatClampNeg 0)))))] [(.int (3 : Int32)), (.int (1 : Int32))])) _
      refine XS.icmpNo X118.here hx rfl (hb hby dc0_250) rfl (by decide) ?_
      refine XS.aload X118.here hx rfl (hb hby dc0_253) rfl rfl ?_
      refine XS.iconst X118.here hx rfl (hb hby dc0_255) ?_
      refine XS.iload X118.here hx rfl (hb hby dc0_256) rfl ?_
      refine XS.imul X118.here hx rfl (hb hby dc0_258) rfl ?_
      show Steps p.tables e below (T118.setTop (mkF m 259 #[s0, .val (.int (3 : Int32)), s2, s3, .val (.ref b4), .val (.int P1), .val (.ref b6), .val (.ref A1), .val (.ref B1), .val (.int J1), .val (.ref r1), .val (.int x103), .val (.int (xs1.getD (J1).toNatClampNeg 0)), .val (.int (1 : Int32)), .val (.long (f1 (0 : Int32))), .second, .val (.int ((2 : Int32) * (S103 (own_dg (f1 (0 : Int32)) (xs1.getD (J1).toNatClampNeg 0)))))] [(.int (2 : Int32)), (.ref A1)])) _
      refine X118.laload hx (j := (2 : Int32)) (v := (.long (f1 (2 : Int32)))) (by rw [e118]; exact Ar120.1) (State.isArrayOf_alike hZ.alike Ar120.2.1) Ar120.2.2 hin120 hat120 (g := (mkF m 259 #[s0, .val (.int (3 : Int32)), s2, s3, .val (.ref b4), .val (.int P1), .val (.ref b6), .val (.ref A1), .val (.ref B1), .val (.int J1), .val (.ref r1), .val (.int x103), .val (.int (xs1.getD (J1).toNatClampNeg 0)), .val (.int (1 : Int32)), .val (.long (f1 (0 : Int32))), .second, .val (.int ((2 : Int32) * (S103 (own_dg (f1 (0 : Int32)) (xs1.getD (J1).toNatClampNeg 0)))))] [(.int (2 : Int32)), (.ref A1)])) rfl rfl (hb hby dc0_259) _ ?_
      refine XS.lstore X118.here hx rfl (hb hby dc0_260) rfl (l' := #[s0, .val (.int (3 : Int32)), s2, s3, .val (.ref b4), .val (.int P1), .val (.ref b6), .val (.ref A1), .val (.ref B1), .val (.int J1), .val (.ref r1), .val (.int x103), .val (.int (xs1.getD (J1).toNatClampNeg 0)), .val (.int (1 : Int32)), .val (.long (f1 (2 : Int32))), .second, .val (.int ((2 : Int32) * (S103 (own_dg (f1 (0 : Int32)) (xs1.getD (J1).toNatClampNeg 0)))))]) rfl ?_
      refine XS.iconst X118.here hx rfl (hb hby dc0_262) ?_
      refine XS.aload X118.here hx rfl (hb hby dc0_263) rfl rfl ?_
      refine XS.lload X118.here hx rfl (hb hby dc0_265) rfl ?_
      show Steps p.tables e below (T118.setTop (mkF m 267 #[s0, .val (.int (3 : Int32)), s2, s3, .val (.ref b4), .val (.int P1), .val (.ref b6), .val (.ref A1), .val (.ref B1), .val (.int J1), .val (.ref r1), .val (.int x103), .val (.int (xs1.getD (J1).toNatClampNeg 0)), .val (.int (1 : Int32)), .val (.long (f1 (2 : Int32))), .second, .val (.int ((2 : Int32) * (S103 (own_dg (f1 (0 : Int32)) (xs1.getD (J1).toNatClampNeg 0)))))] [(.long (f1 (2 : Int32))), (.ref r1), (.int (2 : Int32))])) _
      refine X118.ldc2Long hx hown (mvT hZ (hw _ (List.mem_of_getElem? (i := 9) rfl))) (g := (mkF m 267 #[s0, .val (.int (3 : Int32)), s2, s3, .val (.ref b4), .val (.int P1), .val (.ref b6), .val (.ref A1), .val (.ref B1), .val (.int J1), .val (.ref r1), .val (.int x103), .val (.int (xs1.getD (J1).toNatClampNeg 0)), .val (.int (1 : Int32)), .val (.long (f1 (2 : Int32))), .second, .val (.int ((2 : Int32) * (S103 (own_dg (f1 (0 : Int32)) (xs1.getD (J1).toNatClampNeg 0)))))] [(.long (f1 (2 : Int32))), (.ref r1), (.int (2 : Int32))])) rfl (hb hby dc0_267) _ ?_
      refine XS.lxor X118.here hx rfl (hb hby dc0_270) rfl ?_
      refine XS.iload X118.here hx rfl (hb hby dc0_271) rfl ?_
      refine XS.lushr X118.here hx rfl (hb hby dc0_273) rfl ?_
      refine XS.l2i X118.here hx rfl (hb hby dc0_274) rfl ?_
      show Steps p.tables e below (T118.setTop (mkF m 275 #[s0, .val (.int (3 : Int32)), s2, s3, .val (.ref b4), .val (.int P1), .val (.ref b6), .val (.ref A1), .val (.ref B1), .val (.int J1), .val (.ref r1), .val (.int x103), .val (.int (xs1.getD (J1).toNatClampNeg 0)), .val (.int (1 : Int32)), .val (.long (f1 (2 : Int32))), .second, .val (.int ((2 : Int32) * (S103 (own_dg (f1 (0 : Int32)) (xs1.getD (J1).toNatClampNeg 0)))))] [(.int (((((f1 (2 : Int32)) ^^^ (-9223372036854775808 : Int64)).toUInt64 >>> ((xs1.getD (J1).toNatClampNeg 0) &&& 0x3f).toInt64.toUInt64).toInt64).toInt32)), (.ref r1), (.int (2 : Int32))])) _
      refine XS.sipush X118.here hx rfl (hb hby dc0_275) ?_
      refine XS.iand X118.here hx rfl (hb hby dc0_278) rfl ?_
      show Steps p.tables e below (T118.setTop (mkF m 279 #[s0, .val (.int (3 : Int32)), s2, s3, .val (.ref b4), .val (.int P1), .val (.ref b6), .val (.ref A1), .val (.ref B1), .val (.int J1), .val (.ref r1), .val (.int x103), .val (.int (xs1.getD (J1).toNatClampNeg 0)), .val (.int (1 : Int32)), .val (.long (f1 (2 : Int32))), .second, .val (.int ((2 : Int32) * (S103 (own_dg (f1 (0 : Int32)) (xs1.getD (J1).toNatClampNeg 0)))))] [(.int ((((((f1 (2 : Int32)) ^^^ (-9223372036854775808 : Int64)).toUInt64 >>> ((xs1.getD (J1).toNatClampNeg 0) &&& 0x3f).toInt64.toUInt64).toInt64).toInt32) &&& (255 : Int32))), (.ref r1), (.int (2 : Int32))])) _
      rw [(show ((((((f1 (2 : Int32)) ^^^ (-9223372036854775808 : Int64)).toUInt64 >>> ((xs1.getD (J1).toNatClampNeg 0) &&& 0x3f).toInt64.toUInt64).toInt64).toInt32) &&& (255 : Int32)) = own_dg (f1 (2 : Int32)) (xs1.getD (J1).toNatClampNeg 0) from rfl)]
      jvm_step X118.here [X118.here.top, hx, (hb hby dc0_279), Value.category]
      refine X118.iaload hx (j := (own_dg (f1 (2 : Int32)) (xs1.getD (J1).toNatClampNeg 0))) (v := (.int ((updI S103 (own_dg (f1 (0 : Int32)) (xs1.getD (J1).toNatClampNeg 0)) ((S103 (own_dg (f1 (0 : Int32)) (xs1.getD (J1).toNatClampNeg 0))) + (1 : Int32))) (own_dg (f1 (2 : Int32)) (xs1.getD (J1).toNatClampNeg 0))))) (by rw [e118]; exact Ar122.1) (State.isArrayOf_alike hZ.alike Ar122.2.1) Ar122.2.2 hin122 hat122 (g := (mkF m 280 #[s0, .val (.int (3 : Int32)), s2, s3, .val (.ref b4), .val (.int P1), .val (.ref b6), .val (.ref A1), .val (.ref B1), .val (.int J1), .val (.ref r1), .val (.int x103), .val (.int (xs1.getD (J1).toNatClampNeg 0)), .val (.int (1 : Int32)), .val (.long (f1 (2 : Int32))), .second, .val (.int ((2 : Int32) * (S103 (own_dg (f1 (0 : Int32)) (xs1.getD (J1).toNatClampNeg 0)))))] [(.int (own_dg (f1 (2 : Int32)) (xs1.getD (J1).toNatClampNeg 0))), (.ref r1), (.int (own_dg (f1 (2 : Int32)) (xs1.getD (J1).toNatClampNeg 0))), (.ref r1), (.int (2 : Int32))])) rfl rfl (hb hby dc0_280) _ ?_
      show Steps p.tables e below (T118.setTop (mkF m 281 #[s0, .val (.int (3 : Int32)), s2, s3, .val (.ref b4), .val (.int P1), .val (.ref b6), .val (.ref A1), .val (.ref B1), .val (.int J1), .val (.ref r1), .val (.int x103), .val (.int (xs1.getD (J1).toNatClampNeg 0)), .val (.int (1 : Int32)), .val (.long (f1 (2 : Int32))), .second, .val (.int ((2 : Int32) * (S103 (own_dg (f1 (0 : Int32)) (xs1.getD (J1).toNatClampNeg 0)))))] [(.int ((updI S103 (own_dg (f1 (0 : Int32)) (xs1.getD (J1).toNatClampNeg 0)) ((S103 (own_dg (f1 (0 : Int32)) (xs1.getD (J1).toNatClampNeg 0))) + (1 : Int32))) (own_dg (f1 (2 : Int32)) (xs1.getD (J1).toNatClampNeg 0)))), (.int (own_dg (f1 (2 : Int32)) (xs1.getD (J1).toNatClampNeg 0))), (.ref r1), (.int (2 : Int32))])) _
      jvm_step X118.here [X118.here.top, hx, (hb hby dc0_281), Value.category]
      refine XS.iconst X118.here hx rfl (hb hby dc0_282) ?_
      refine XS.iadd X118.here hx rfl (hb hby dc0_283) rfl ?_
      refine st124 _ ?_
      refine XS.imul X124.here hx rfl (hb hby dc0_285) rfl ?_
      show Steps p.tables e below (T124.setTop (mkF m 286 #[s0, .val (.int (3 : Int32)), s2, s3, .val (.ref b4), .val (.int P1), .val (.ref b6), .val (.ref A1), .val (.ref B1), .val (.int J1), .val (.ref r1), .val (.int x103), .val (.int (xs1.getD (J1).toNatClampNeg 0)), .val (.int (1 : Int32)), .val (.long (f1 (2 : Int32))), .second, .val (.int ((2 : Int32) * (S103 (own_dg (f1 (0 : Int32)) (xs1.getD (J1).toNatClampNeg 0)))))] [(.int ((2 : Int32) * ((updI S103 (own_dg (f1 (0 : Int32)) (xs1.getD (J1).toNatClampNeg 0)) ((S103 (own_dg (f1 (0 : Int32)) (xs1.getD (J1).toNatClampNeg 0))) + (1 : Int32))) (own_dg (f1 (2 : Int32)) (xs1.getD (J1).toNatClampNeg 0)))))])) _
      refine XS.istore X124.here hx rfl (hb hby dc0_286) rfl (l' := #[s0, .val (.int (3 : Int32)), s2, s3, .val (.ref b4), .val (.int P1), .val (.ref b6), .val (.ref A1), .val (.ref B1), .val (.int J1), .val (.ref r1), .val (.int x103), .val (.int (xs1.getD (J1).toNatClampNeg 0)), .val (.int (1 : Int32)), .val (.long (f1 (2 : Int32))), .second, .val (.int ((2 : Int32) * ((updI S103 (own_dg (f1 (0 : Int32)) (xs1.getD (J1).toNatClampNeg 0)) ((S103 (own_dg (f1 (0 : Int32)) (xs1.getD (J1).toNatClampNeg 0))) + (1 : Int32))) (own_dg (f1 (2 : Int32)) (xs1.getD (J1).toNatClampNeg 0)))))]) rfl ?_
      refine XS.aload X124.here hx rfl (hb hby dc0_288) rfl rfl ?_
      refine XS.iload X124.here hx rfl (hb hby dc0_290) rfl ?_
      refine XS.lload X124.here hx rfl (hb hby dc0_292) rfl ?_
      refine st127 _ ?_
      show Steps p.tables e below (T127.setTop (mkF m 295 #[s0, .val (.int (3 : Int32)), s2, s3, .val (.ref b4), .val (.int P1), .val (.ref b6), .val (.ref A1), .val (.ref B1), .val (.int J1), .val (.ref r1), .val (.int x103), .val (.int (xs1.getD (J1).toNatClampNeg 0)), .val (.int (1 : Int32)), .val (.long (f1 (2 : Int32))), .second, .val (.int ((2 : Int32) * ((updI S103 (own_dg (f1 (0 : Int32)) (xs1.getD (J1).toNatClampNeg 0)) ((S103 (own_dg (f1 (0 : Int32)) (xs1.getD (J1).toNatClampNeg 0))) + (1 : Int32))) (own_dg (f1 (2 : Int32)) (xs1.getD (J1).toNatClampNeg 0)))))] [])) _
      refine XS.aload X127.here hx rfl (hb hby dc0_295) rfl rfl ?_
      refine XS.iload X127.here hx rfl (hb hby dc0_297) rfl ?_
      refine XS.iconst X127.here hx rfl (hb hby dc0_299) ?_
      refine XS.iadd X127.here hx rfl (hb hby dc0_300) rfl ?_
      refine XS.aload X127.here hx rfl (hb hby dc0_301) rfl rfl ?_
      show Steps p.tables e below (T127.setTop (mkF m 303 #[s0, .val (.int (3 : Int32)), s2, s3, .val (.ref b4), .val (.int P1), .val (.ref b6), .val (.ref A1), .val (.ref B1), .val (.int J1), .val (.ref r1), .val (.int x103), .val (.int (xs1.getD (J1).toNatClampNeg 0)), .val (.int (1 : Int32)), .val (.long (f1 (2 : Int32))), .second, .val (.int ((2 : Int32) * ((updI S103 (own_dg (f1 (0 : Int32)) (xs1.getD (J1).toNatClampNeg 0)) ((S103 (own_dg (f1 (0 : Int32)) (xs1.getD (J1).toNatClampNeg 0))) + (1 : Int32))) (own_dg (f1 (2 : Int32)) (xs1.getD (J1).toNatClampNeg 0)))))] [(.ref A1), (.int (((2 : Int32) * ((updI S103 (own_dg (f1 (0 : Int32)) (xs1.getD (J1).toNatClampNeg 0)) ((S103 (own_dg (f1 (0 : Int32)) (xs1.getD (J1).toNatClampNeg 0))) + (1 : Int32))) (own_dg (f1 (2 : Int32)) (xs1.getD (J1).toNatClampNeg 0)))) + (1 : Int32))), (.ref B1)])) _
      refine XS.iconst X127.here hx rfl (hb hby dc0_303) ?_
      refine XS.iload X127.here hx rfl (hb hby dc0_304) rfl ?_
      refine XS.imul X127.here hx rfl (hb hby dc0_306) rfl ?_
      refine XS.iconst X127.here hx rfl (hb hby dc0_307) ?_
      refine XS.iadd X127.here hx rfl (hb hby dc0_308) rfl ?_
      show Steps p.tables e below (T127.setTop (mkF m 309 #[s0, .val (.int (3 : Int32)), s2, s3, .val (.ref b4), .val (.int P1), .val (.ref b6), .val (.ref A1), .val (.ref B1), .val (.int J1), .val (.ref r1), .val (.int x103), .val (.int (xs1.getD (J1).toNatClampNeg 0)), .val (.int (1 : Int32)), .val (.long (f1 (2 : Int32))), .second, .val (.int ((2 : Int32) * ((updI S103 (own_dg (f1 (0 : Int32)) (xs1.getD (J1).toNatClampNeg 0)) ((S103 (own_dg (f1 (0 : Int32)) (xs1.getD (J1).toNatClampNeg 0))) + (1 : Int32))) (own_dg (f1 (2 : Int32)) (xs1.getD (J1).toNatClampNeg 0)))))] [(.int (3 : Int32)), (.ref A1), (.int (((2 : Int32) * ((updI S103 (own_dg (f1 (0 : Int32)) (xs1.getD (J1).toNatClampNeg 0)) ((S103 (own_dg (f1 (0 : Int32)) (xs1.getD (J1).toNatClampNeg 0))) + (1 : Int32))) (own_dg (f1 (2 : Int32)) (xs1.getD (J1).toNatClampNeg 0)))) + (1 : Int32))), (.ref B1)])) _
      refine X127.laload hx (j := (3 : Int32)) (v := (.long (f1 (3 : Int32)))) (by rw [e127]; exact Ar129.1) (State.isArrayOf_alike hZ.alike Ar129.2.1) Ar129.2.2 hin129 hat129 (g := (mkF m 309 #[s0, .val (.int (3 : Int32)), s2, s3, .val (.ref b4), .val (.int P1), .val (.ref b6), .val (.ref A1), .val (.ref B1), .val (.int J1), .val (.ref r1), .val (.int x103), .val (.int (xs1.getD (J1).toNatClampNeg 0)), .val (.int (1 : Int32)), .val (.long (f1 (2 : Int32))), .second, .val (.int ((2 : Int32) * ((updI S103 (own_dg (f1 (0 : Int32)) (xs1.getD (J1).toNatClampNeg 0)) ((S103 (own_dg (f1 (0 : Int32)) (xs1.getD (J1).toNatClampNeg 0))) + (1 : Int32))) (own_dg (f1 (2 : Int32)) (xs1.getD (J1).toNatClampNeg 0)))))] [(.int (3 : Int32)), (.ref A1), (.int (((2 : Int32) * ((updI S103 (own_dg (f1 (0 : Int32)) (xs1.getD (J1).toNatClampNeg 0)) ((S103 (own_dg (f1 (0 : Int32)) (xs1.getD (J1).toNatClampNeg 0))) + (1 : Int32))) (own_dg (f1 (2 : Int32)) (xs1.getD (J1).toNatClampNeg 0)))) + (1 : Int32))), (.ref B1)])) rfl rfl (hb hby dc0_309) _ ?_
      refine st131 _ ?_
      refine XS.iinc X131.here hx rfl (hb hby dc0_311) rfl (l' := #[s0, .val (.int (3 : Int32)), s2, s3, .val (.ref b4), .val (.int P1), .val (.ref b6), .val (.ref A1), .val (.ref B1), .val (.int J1), .val (.ref r1), .val (.int x103), .val (.int (xs1.getD (J1).toNatClampNeg 0)), .val (.int (2 : Int32)), .val (.long (f1 (2 : Int32))), .second, .val (.int ((2 : Int32) * ((updI S103 (own_dg (f1 (0 : Int32)) (xs1.getD (J1).toNatClampNeg 0)) ((S103 (own_dg (f1 (0 : Int32)) (xs1.getD (J1).toNatClampNeg 0))) + (1 : Int32))) (own_dg (f1 (2 : Int32)) (xs1.getD (J1).toNatClampNeg 0)))))]) rfl ?_
      refine XS.goto X131.here hx rfl (pc0 := 314) (pc' := 247) rfl (hb hby dc0_314) (by decide) (by decide) ?_
      refine XS.iload X131.here hx rfl (hb hby dc0_247) rfl ?_
      show Steps p.tables e below (T131.setTop (mkF m 249 #[s0, .val (.int (3 : Int32)), s2, s3, .val (.ref b4), .val (.int P1), .val (.ref b6), .val (.ref A1), .val (.ref B1), .val (.int J1), .val (.ref r1), .val (.int x103), .val (.int (xs1.getD (J1).toNatClampNeg 0)), .val (.int (2 : Int32)), .val (.long (f1 (2 : Int32))), .second, .val (.int ((2 : Int32) * ((updI S103 (own_dg (f1 (0 : Int32)) (xs1.getD (J1).toNatClampNeg 0)) ((S103 (own_dg (f1 (0 : Int32)) (xs1.getD (J1).toNatClampNeg 0))) + (1 : Int32))) (own_dg (f1 (2 : Int32)) (xs1.getD (J1).toNatClampNeg 0)))))] [(.int (2 : Int32))])) _
      refine XS.iloadN X131.here hx rfl (hb hby dc0_249) rfl ?_
      show Steps p.tables e below (T131.setTop (mkF m 250 #[s0, .val (.int (3 : Int32)), s2, s3, .val (.ref b4), .val (.int P1), .val (.ref b6), .val (.ref A1), .val (.ref B1), .val (.int J1), .val (.ref r1), .val (.int x103), .val (.int (xs1.getD (J1).toNatClampNeg 0)), .val (.int (2 : Int32)), .val (.long (f1 (2 : Int32))), .second, .val (.int ((2 : Int32) * ((updI S103 (own_dg (f1 (0 : Int32)) (xs1.getD (J1).toNatClampNeg 0)) ((S103 (own_dg (f1 (0 : Int32)) (xs1.getD (J1).toNatClampNeg 0))) + (1 : Int32))) (own_dg (f1 (2 : Int32)) (xs1.getD (J1).toNatClampNeg 0)))))] [(.int (3 : Int32)), (.int (2 : Int32))])) _
      refine XS.icmpNo X131.here hx rfl (hb hby dc0_250) rfl (by decide) ?_
      refine XS.aload X131.here hx rfl (hb hby dc0_253) rfl rfl ?_
      refine XS.iconst X131.here hx rfl (hb hby dc0_255) ?_
      refine XS.iload X131.here hx rfl (hb hby dc0_256) rfl ?_
      show Steps p.tables e below (T131.setTop (mkF m 258 #[s0, .val (.int (3 : Int32)), s2, s3, .val (.ref b4), .val (.int P1), .val (.ref b6), .val (.ref A1), .val (.ref B1), .val (.int J1), .val (.ref r1), .val (.int x103), .val (.int (xs1.getD (J1).toNatClampNeg 0)), .val (.int (2 : Int32)), .val (.long (f1 (2 : Int32))), .second, .val (.int ((2 : Int32) * ((updI S103 (own_dg (f1 (0 : Int32)) (xs1.getD (J1).toNatClampNeg 0)) ((S103 (own_dg (f1 (0 : Int32)) (xs1.getD (J1).toNatClampNeg 0))) + (1 : Int32))) (own_dg (f1 (2 : Int32)) (xs1.getD (J1).toNatClampNeg 0)))))] [(.int (2 : Int32)), (.int (2 : Int32)), (.ref A1)])) _
      refine XS.imul X131.here hx rfl (hb hby dc0_258) rfl ?_
      refine X131.laload hx (j := (4 : Int32)) (v := (.long (f1 (4 : Int32)))) (by rw [e131]; exact Ar133.1) (State.isArrayOf_alike hZ.alike Ar133.2.1) Ar133.2.2 hin133 hat133 (g := (mkF m 259 #[s0, .val (.int (3 : Int32)), s2, s3, .val (.ref b4), .val (.int P1), .val (.ref b6), .val (.ref A1), .val (.ref B1), .val (.int J1), .val (.ref r1), .val (.int x103), .val (.int (xs1.getD (J1).toNatClampNeg 0)), .val (.int (2 : Int32)), .val (.long (f1 (2 : Int32))), .second, .val (.int ((2 : Int32) * ((updI S103 (own_dg (f1 (0 : Int32)) (xs1.getD (J1).toNatClampNeg 0)) ((S103 (own_dg (f1 (0 : Int32)) (xs1.getD (J1).toNatClampNeg 0))) + (1 : Int32))) (own_dg (f1 (2 : Int32)) (xs1.getD (J1).toNatClampNeg 0)))))] [(.int (4 : Int32)), (.ref A1)])) rfl rfl (hb hby dc0_259) _ ?_
      refine XS.lstore X131.here hx rfl (hb hby dc0_260) rfl (l' := #[s0, .val (.int (3 : Int32)), s2, s3, .val (.ref b4), .val (.int P1), .val (.ref b6), .val (.ref A1), .val (.ref B1), .val (.int J1), .val (.ref r1), .val (.int x103), .val (.int (xs1.getD (J1).toNatClampNeg 0)), .val (.int (2 : Int32)), .val (.long (f1 (4 : Int32))), .second, .val (.int ((2 : Int32) * ((updI S103 (own_dg (f1 (0 : Int32)) (xs1.getD (J1).toNatClampNeg 0)) ((S103 (own_dg (f1 (0 : Int32)) (xs1.getD (J1).toNatClampNeg 0))) + (1 : Int32))) (own_dg (f1 (2 : Int32)) (xs1.getD (J1).toNatClampNeg 0)))))]) rfl ?_
      refine XS.iconst X131.here hx rfl (hb hby dc0_262) ?_
      refine XS.aload X131.here hx rfl (hb hby dc0_263) rfl rfl ?_
      show Steps p.tables e below (T131.setTop (mkF m 265 #[s0, .val (.int (3 : Int32)), s2, s3, .val (.ref b4), .val (.int P1), .val (.ref b6), .val (.ref A1), .val (.ref B1), .val (.int J1), .val (.ref r1), .val (.int x103), .val (.int (xs1.getD (J1).toNatClampNeg 0)), .val (.int (2 : Int32)), .val (.long (f1 (4 : Int32))), .second, .val (.int ((2 : Int32) * ((updI S103 (own_dg (f1 (0 : Int32)) (xs1.getD (J1).toNatClampNeg 0)) ((S103 (own_dg (f1 (0 : Int32)) (xs1.getD (J1).toNatClampNeg 0))) + (1 : Int32))) (own_dg (f1 (2 : Int32)) (xs1.getD (J1).toNatClampNeg 0)))))] [(.ref r1), (.int (2 : Int32))])) _
      refine XS.lload X131.here hx rfl (hb hby dc0_265) rfl ?_
      refine X131.ldc2Long hx hown (mvT hZ (hw _ (List.mem_of_getElem? (i := 9) rfl))) (g := (mkF m 267 #[s0, .val (.int (3 : Int32)), s2, s3, .val (.ref b4), .val (.int P1), .val (.ref b6), .val (.ref A1), .val (.ref B1), .val (.int J1), .val (.ref r1), .val (.int x103), .val (.int (xs1.getD (J1).toNatClampNeg 0)), .val (.int (2 : Int32)), .val (.long (f1 (4 : Int32))), .second, .val (.int ((2 : Int32) * ((updI S103 (own_dg (f1 (0 : Int32)) (xs1.getD (J1).toNatClampNeg 0)) ((S103 (own_dg (f1 (0 : Int32)) (xs1.getD (J1).toNatClampNeg 0))) + (1 : Int32))) (own_dg (f1 (2 : Int32)) (xs1.getD (J1).toNatClampNeg 0)))))] [(.long (f1 (4 : Int32))), (.ref r1), (.int (2 : Int32))])) rfl (hb hby dc0_267) _ ?_
      refine XS.lxor X131.here hx rfl (hb hby dc0_270) rfl ?_
      refine XS.iload X131.here hx rfl (hb hby dc0_271) rfl ?_
      refine XS.lushr X131.here hx rfl (hb hby dc0_273) rfl ?_
      show Steps p.tables e below (T131.setTop (mkF m 274 #[s0, .val (.int (3 : Int32)), s2, s3, .val (.ref b4), .val (.int P1), .val (.ref b6), .val (.ref A1), .val (.ref B1), .val (.int J1), .val (.ref r1), .val (.int x103), .val (.int (xs1.getD (J1).toNatClampNeg 0)), .val (.int (2 : Int32)), .val (.long (f1 (4 : Int32))), .second, .val (.int ((2 : Int32) * ((updI S103 (own_dg (f1 (0 : Int32)) (xs1.getD (J1).toNatClampNeg 0)) ((S103 (own_dg (f1 (0 : Int32)) (xs1.getD (J1).toNatClampNeg 0))) + (1 : Int32))) (own_dg (f1 (2 : Int32)) (xs1.getD (J1).toNatClampNeg 0)))))] [(.long ((((f1 (4 : Int32)) ^^^ (-9223372036854775808 : Int64)).toUInt64 >>> ((xs1.getD (J1).toNatClampNeg 0) &&& 0x3f).toInt64.toUInt64).toInt64)), (.ref r1), (.int (2 : Int32))])) _
      refine XS.l2i X131.here hx rfl (hb hby dc0_274) rfl ?_
      refine XS.sipush X131.here hx rfl (hb hby dc0_275) ?_
      refine XS.iand X131.here hx rfl (hb hby dc0_278) rfl ?_
      show Steps p.tables e below (T131.setTop (mkF m 279 #[s0, .val (.int (3 : Int32)), s2, s3, .val (.ref b4), .val (.int P1), .val (.ref b6), .val (.ref A1), .val (.ref B1), .val (.int J1), .val (.ref r1), .val (.int x103), .val (.int (xs1.getD (J1).toNatClampNeg 0)), .val (.int (2 : Int32)), .val (.long (f1 (4 : Int32))), .second, .val (.int ((2 : Int32) * ((updI S103 (own_dg (f1 (0 : Int32)) (xs1.getD (J1).toNatClampNeg 0)) ((S103 (own_dg (f1 (0 : Int32)) (xs1.getD (J1).toNatClampNeg 0))) + (1 : Int32))) (own_dg (f1 (2 : Int32)) (xs1.getD (J1).toNatClampNeg 0)))))] [(.int ((((((f1 (4 : Int32)) ^^^ (-9223372036854775808 : Int64)).toUInt64 >>> ((xs1.getD (J1).toNatClampNeg 0) &&& 0x3f).toInt64.toUInt64).toInt64).toInt32) &&& (255 : Int32))), (.ref r1), (.int (2 : Int32))])) _
      rw [(show ((((((f1 (4 : Int32)) ^^^ (-9223372036854775808 : Int64)).toUInt64 >>> ((xs1.getD (J1).toNatClampNeg 0) &&& 0x3f).toInt64.toUInt64).toInt64).toInt32) &&& (255 : Int32)) = own_dg (f1 (4 : Int32)) (xs1.getD (J1).toNatClampNeg 0) from rfl)]
      jvm_step X131.here [X131.here.top, hx, (hb hby dc0_279), Value.category]
      show Steps p.tables e below (T131.setTop (mkF m 280 #[s0, .val (.int (3 : Int32)), s2, s3, .val (.ref b4), .val (.int P1), .val (.ref b6), .val (.ref A1), .val (.ref B1), .val (.int J1), .val (.ref r1), .val (.int x103), .val (.int (xs1.getD (J1).toNatClampNeg 0)), .val (.int (2 : Int32)), .val (.long (f1 (4 : Int32))), .second, .val (.int ((2 : Int32) * ((updI S103 (own_dg (f1 (0 : Int32)) (xs1.getD (J1).toNatClampNeg 0)) ((S103 (own_dg (f1 (0 : Int32)) (xs1.getD (J1).toNatClampNeg 0))) + (1 : Int32))) (own_dg (f1 (2 : Int32)) (xs1.getD (J1).toNatClampNeg 0)))))] [(.int (own_dg (f1 (4 : Int32)) (xs1.getD (J1).toNatClampNeg 0))), (.ref r1), (.int (own_dg (f1 (4 : Int32)) (xs1.getD (J1).toNatClampNeg 0))), (.ref r1), (.int (2 : Int32))])) _
      refine X131.iaload hx (j := (own_dg (f1 (4 : Int32)) (xs1.getD (J1).toNatClampNeg 0))) (v := (.int ((updI (updI S103 (own_dg (f1 (0 : Int32)) (xs1.getD (J1).toNatClampNeg 0)) ((S103 (own_dg (f1 (0 : Int32)) (xs1.getD (J1).toNatClampNeg 0))) + (1 : Int32))) (own_dg (f1 (2 : Int32)) (xs1.getD (J1).toNatClampNeg 0)) (((updI S103 (own_dg (f1 (0 : Int32)) (xs1.getD (J1).toNatClampNeg 0)) ((S103 (own_dg (f1 (0 : Int32)) (xs1.getD (J1).toNatClampNeg 0))) + (1 : Int32))) (own_dg (f1 (2 : Int32)) (xs1.getD (J1).toNatClampNeg 0))) + (1 : Int32))) (own_dg (f1 (4 : Int32)) (xs1.getD (J1).toNatClampNeg 0))))) (by rw [e131]; exact Ar135.1) (State.isArrayOf_alike hZ.alike Ar135.2.1) Ar135.2.2 hin135 hat135 (g := (mkF m 280 #[s0, .val (.int (3 : Int32)), s2, s3, .val (.ref b4), .val (.int P1), .val (.ref b6), .val (.ref A1), .val (.ref B1), .val (.int J1), .val (.ref r1), .val (.int x103), .val (.int (xs1.getD (J1).toNatClampNeg 0)), .val (.int (2 : Int32)), .val (.long (f1 (4 : Int32))), .second, .val (.int ((2 : Int32) * ((updI S103 (own_dg (f1 (0 : Int32)) (xs1.getD (J1).toNatClampNeg 0)) ((S103 (own_dg (f1 (0 : Int32)) (xs1.getD (J1).toNatClampNeg 0))) + (1 : Int32))) (own_dg (f1 (2 : Int32)) (xs1.getD (J1).toNatClampNeg 0)))))] [(.int (own_dg (f1 (4 : Int32)) (xs1.getD (J1).toNatClampNeg 0))), (.ref r1), (.int (own_dg (f1 (4 : Int32)) (xs1.getD (J1).toNatClampNeg 0))), (.ref r1), (.int (2 : Int32))])) rfl rfl (hb hby dc0_280) _ ?_
      jvm_step X131.here [X131.here.top, hx, (hb hby dc0_281), Value.category]
      refine XS.iconst X131.here hx rfl (hb hby dc0_282) ?_
      refine XS.iadd X131.here hx rfl (hb hby dc0_283) rfl ?_
      refine st137 _ ?_
      show Steps p.tables e below (T137.setTop (mkF m 285 #[s0, .val (.int (3 : Int32)), s2, s3, .val (.ref b4), .val (.int P1), .val (.ref b6), .val (.ref A1), .val (.ref B1), .val (.int J1), .val (.ref r1), .val (.int x103), .val (.int (xs1.getD (J1).toNatClampNeg 0)), .val (.int (2 : Int32)), .val (.long (f1 (4 : Int32))), .second, .val (.int ((2 : Int32) * ((updI S103 (own_dg (f1 (0 : Int32)) (xs1.getD (J1).toNatClampNeg 0)) ((S103 (own_dg (f1 (0 : Int32)) (xs1.getD (J1).toNatClampNeg 0))) + (1 : Int32))) (own_dg (f1 (2 : Int32)) (xs1.getD (J1).toNatClampNeg 0)))))] [(.int ((updI (updI S103 (own_dg (f1 (0 : Int32)) (xs1.getD (J1).toNatClampNeg 0)) ((S103 (own_dg (f1 (0 : Int32)) (xs1.getD (J1).toNatClampNeg 0))) + (1 : Int32))) (own_dg (f1 (2 : Int32)) (xs1.getD (J1).toNatClampNeg 0)) (((updI S103 (own_dg (f1 (0 : Int32)) (xs1.getD (J1).toNatClampNeg 0)) ((S103 (own_dg (f1 (0 : Int32)) (xs1.getD (J1).toNatClampNeg 0))) + (1 : Int32))) (own_dg (f1 (2 : Int32)) (xs1.getD (J1).toNatClampNeg 0))) + (1 : Int32))) (own_dg (f1 (4 : Int32)) (xs1.getD (J1).toNatClampNeg 0)))), (.int (2 : Int32))])) _
      refine XS.imul X137.here hx rfl (hb hby dc0_285) rfl ?_
      refine XS.istore X137.here hx rfl (hb hby dc0_286) rfl (l' := #[s0, .val (.int (3 : Int32)), s2, s3, .val (.ref b4), .val (.int P1), .val (.ref b6), .val (.ref A1), .val (.ref B1), .val (.int J1), .val (.ref r1), .val (.int x103), .val (.int (xs1.getD (J1).toNatClampNeg 0)), .val (.int (2 : Int32)), .val (.long (f1 (4 : Int32))), .second, .val (.int ((2 : Int32) * ((updI (updI S103 (own_dg (f1 (0 : Int32)) (xs1.getD (J1).toNatClampNeg 0)) ((S103 (own_dg (f1 (0 : Int32)) (xs1.getD (J1).toNatClampNeg 0))) + (1 : Int32))) (own_dg (f1 (2 : Int32)) (xs1.getD (J1).toNatClampNeg 0)) (((updI S103 (own_dg (f1 (0 : Int32)) (xs1.getD (J1).toNatClampNeg 0)) ((S103 (own_dg (f1 (0 : Int32)) (xs1.getD (J1).toNatClampNeg 0))) + (1 : Int32))) (own_dg (f1 (2 : Int32)) (xs1.getD (J1).toNatClampNeg 0))) + (1 : Int32))) (own_dg (f1 (4 : Int32)) (xs1.getD (J1).toNatClampNeg 0)))))]) rfl ?_
      refine XS.aload X137.here hx rfl (hb hby dc0_288) rfl rfl ?_
      refine XS.iload X137.here hx rfl (hb hby dc0_290) rfl ?_
      refine XS.lload X137.here hx rfl (hb hby dc0_292) rfl ?_
      show Steps p.tables e below (T137.setTop (mkF m 294 #[s0, .val (.int (3 : Int32)), s2, s3, .val (.ref b4), .val (.int P1), .val (.ref b6), .val (.ref A1), .val (.ref B1), .val (.int J1), .val (.ref r1), .val (.int x103), .val (.int (xs1.getD (J1).toNatClampNeg 0)), .val (.int (2 : Int32)), .val (.long (f1 (4 : Int32))), .second, .val (.int ((2 : Int32) * ((updI (updI S103 (own_dg (f1 (0 : Int32)) (xs1.getD (J1).toNatClampNeg 0)) ((S103 (own_dg (f1 (0 : Int32)) (xs1.getD (J1).toNatClampNeg 0))) + (1 : Int32))) (own_dg (f1 (2 : Int32)) (xs1.getD (J1).toNatClampNeg 0)) (((updI S103 (own_dg (f1 (0 : Int32)) (xs1.getD (J1).toNatClampNeg 0)) ((S103 (own_dg (f1 (0 : Int32)) (xs1.getD (J1).toNatClampNeg 0))) + (1 : Int32))) (own_dg (f1 (2 : Int32)) (xs1.getD (J1).toNatClampNeg 0))) + (1 : Int32))) (own_dg (f1 (4 : Int32)) (xs1.getD (J1).toNatClampNeg 0)))))] [(.long (f1 (4 : Int32))), (.int ((2 : Int32) * ((updI (updI S103 (own_dg (f1 (0 : Int32)) (xs1.getD (J1).toNatClampNeg 0)) ((S103 (own_dg (f1 (0 : Int32)) (xs1.getD (J1).toNatClampNeg 0))) + (1 : Int32))) (own_dg (f1 (2 : Int32)) (xs1.getD (J1).toNatClampNeg 0)) (((updI S103 (own_dg (f1 (0 : Int32)) (xs1.getD (J1).toNatClampNeg 0)) ((S103 (own_dg (f1 (0 : Int32)) (xs1.getD (J1).toNatClampNeg 0))) + (1 : Int32))) (own_dg (f1 (2 : Int32)) (xs1.getD (J1).toNatClampNeg 0))) + (1 : Int32))) (own_dg (f1 (4 : Int32)) (xs1.getD (J1).toNatClampNeg 0))))), (.ref B1)])) _
      refine st140 _ ?_
      refine XS.aload X140.here hx rfl (hb hby dc0_295) rfl rfl ?_
      refine XS.iload X140.here hx rfl (hb hby dc0_297) rfl ?_
      refine XS.iconst X140.here hx rfl (hb hby dc0_299) ?_
      refine XS.iadd X140.here hx rfl (hb hby dc0_300) rfl ?_
      show Steps p.tables e below (T140.setTop (mkF m 301 #[s0, .val (.int (3 : Int32)), s2, s3, .val (.ref b4), .val (.int P1), .val (.ref b6), .val (.ref A1), .val (.ref B1), .val (.int J1), .val (.ref r1), .val (.int x103), .val (.int (xs1.getD (J1).toNatClampNeg 0)), .val (.int (2 : Int32)), .val (.long (f1 (4 : Int32))), .second, .val (.int ((2 : Int32) * ((updI (updI S103 (own_dg (f1 (0 : Int32)) (xs1.getD (J1).toNatClampNeg 0)) ((S103 (own_dg (f1 (0 : Int32)) (xs1.getD (J1).toNatClampNeg 0))) + (1 : Int32))) (own_dg (f1 (2 : Int32)) (xs1.getD (J1).toNatClampNeg 0)) (((updI S103 (own_dg (f1 (0 : Int32)) (xs1.getD (J1).toNatClampNeg 0)) ((S103 (own_dg (f1 (0 : Int32)) (xs1.getD (J1).toNatClampNeg 0))) + (1 : Int32))) (own_dg (f1 (2 : Int32)) (xs1.getD (J1).toNatClampNeg 0))) + (1 : Int32))) (own_dg (f1 (4 : Int32)) (xs1.getD (J1).toNatClampNeg 0)))))] [(.int (((2 : Int32) * ((updI (updI S103 (own_dg (f1 (0 : Int32)) (xs1.getD (J1).toNatClampNeg 0)) ((S103 (own_dg (f1 (0 : Int32)) (xs1.getD (J1).toNatClampNeg 0))) + (1 : Int32))) (own_dg (f1 (2 : Int32)) (xs1.getD (J1).toNatClampNeg 0)) (((updI S103 (own_dg (f1 (0 : Int32)) (xs1.getD (J1).toNatClampNeg 0)) ((S103 (own_dg (f1 (0 : Int32)) (xs1.getD (J1).toNatClampNeg 0))) + (1 : Int32))) (own_dg (f1 (2 : Int32)) (xs1.getD (J1).toNatClampNeg 0))) + (1 : Int32))) (own_dg (f1 (4 : Int32)) (xs1.getD (J1).toNatClampNeg 0)))) + (1 : Int32))), (.ref B1)])) _
      refine XS.aload X140.here hx rfl (hb hby dc0_301) rfl rfl ?_
      refine XS.iconst X140.here hx rfl (hb hby dc0_303) ?_
      refine XS.iload X140.here hx rfl (hb hby dc0_304) rfl ?_
      refine XS.imul X140.here hx rfl (hb hby dc0_306) rfl ?_
      refine XS.iconst X140.here hx rfl (hb hby dc0_307) ?_
      show Steps p.tables e below (T140.setTop (mkF m 308 #[s0, .val (.int (3 : Int32)), s2, s3, .val (.ref b4), .val (.int P1), .val (.ref b6), .val (.ref A1), .val (.ref B1), .val (.int J1), .val (.ref r1), .val (.int x103), .val (.int (xs1.getD (J1).toNatClampNeg 0)), .val (.int (2 : Int32)), .val (.long (f1 (4 : Int32))), .second, .val (.int ((2 : Int32) * ((updI (updI S103 (own_dg (f1 (0 : Int32)) (xs1.getD (J1).toNatClampNeg 0)) ((S103 (own_dg (f1 (0 : Int32)) (xs1.getD (J1).toNatClampNeg 0))) + (1 : Int32))) (own_dg (f1 (2 : Int32)) (xs1.getD (J1).toNatClampNeg 0)) (((updI S103 (own_dg (f1 (0 : Int32)) (xs1.getD (J1).toNatClampNeg 0)) ((S103 (own_dg (f1 (0 : Int32)) (xs1.getD (J1).toNatClampNeg 0))) + (1 : Int32))) (own_dg (f1 (2 : Int32)) (xs1.getD (J1).toNatClampNeg 0))) + (1 : Int32))) (own_dg (f1 (4 : Int32)) (xs1.getD (J1).toNatClampNeg 0)))))] [(.int (1 : Int32)), (.int (4 : Int32)), (.ref A1), (.int (((2 : Int32) * ((updI (updI S103 (own_dg (f1 (0 : Int32)) (xs1.getD (J1).toNatClampNeg 0)) ((S103 (own_dg (f1 (0 : Int32)) (xs1.getD (J1).toNatClampNeg 0))) + (1 : Int32))) (own_dg (f1 (2 : Int32)) (xs1.getD (J1).toNatClampNeg 0)) (((updI S103 (own_dg (f1 (0 : Int32)) (xs1.getD (J1).toNatClampNeg 0)) ((S103 (own_dg (f1 (0 : Int32)) (xs1.getD (J1).toNatClampNeg 0))) + (1 : Int32))) (own_dg (f1 (2 : Int32)) (xs1.getD (J1).toNatClampNeg 0))) + (1 : Int32))) (own_dg (f1 (4 : Int32)) (xs1.getD (J1).toNatClampNeg 0)))) + (1 : Int32))), (.ref B1)])) _
      refine XS.iadd X140.here hx rfl (hb hby dc0_308) rfl ?_
      refine X140.laload hx (j := (5 : Int32)) (v := (.long (f1 (5 : Int32)))) (by rw [e140]; exact Ar142.1) (State.isArrayOf_alike hZ.alike Ar142.2.1) Ar142.2.2 hin142 hat142 (g := (mkF m 309 #[s0, .val (.int (3 : Int32)), s2, s3, .val (.ref b4), .val (.int P1), .val (.ref b6), .val (.ref A1), .val (.ref B1), .val (.int J1), .val (.ref r1), .val (.int x103), .val (.int (xs1.getD (J1).toNatClampNeg 0)), .val (.int (2 : Int32)), .val (.long (f1 (4 : Int32))), .second, .val (.int ((2 : Int32) * ((updI (updI S103 (own_dg (f1 (0 : Int32)) (xs1.getD (J1).toNatClampNeg 0)) ((S103 (own_dg (f1 (0 : Int32)) (xs1.getD (J1).toNatClampNeg 0))) + (1 : Int32))) (own_dg (f1 (2 : Int32)) (xs1.getD (J1).toNatClampNeg 0)) (((updI S103 (own_dg (f1 (0 : Int32)) (xs1.getD (J1).toNatClampNeg 0)) ((S103 (own_dg (f1 (0 : Int32)) (xs1.getD (J1).toNatClampNeg 0))) + (1 : Int32))) (own_dg (f1 (2 : Int32)) (xs1.getD (J1).toNatClampNeg 0))) + (1 : Int32))) (own_dg (f1 (4 : Int32)) (xs1.getD (J1).toNatClampNeg 0)))))] [(.int (5 : Int32)), (.ref A1), (.int (((2 : Int32) * ((updI (updI S103 (own_dg (f1 (0 : Int32)) (xs1.getD (J1).toNatClampNeg 0)) ((S103 (own_dg (f1 (0 : Int32)) (xs1.getD (J1).toNatClampNeg 0))) + (1 : Int32))) (own_dg (f1 (2 : Int32)) (xs1.getD (J1).toNatClampNeg 0)) (((updI S103 (own_dg (f1 (0 : Int32)) (xs1.getD (J1).toNatClampNeg 0)) ((S103 (own_dg (f1 (0 : Int32)) (xs1.getD (J1).toNatClampNeg 0))) + (1 : Int32))) (own_dg (f1 (2 : Int32)) (xs1.getD (J1).toNatClampNeg 0))) + (1 : Int32))) (own_dg (f1 (4 : Int32)) (xs1.getD (J1).toNatClampNeg 0)))) + (1 : Int32))), (.ref B1)])) rfl rfl (hb hby dc0_309) _ ?_
      refine st144 _ ?_
      refine XS.iinc X144.here hx rfl (hb hby dc0_311) rfl (l' := #[s0, .val (.int (3 : Int32)), s2, s3, .val (.ref b4), .val (.int P1), .val (.ref b6), .val (.ref A1), .val (.ref B1), .val (.int J1), .val (.ref r1), .val (.int x103), .val (.int (xs1.getD (J1).toNatClampNeg 0)), .val (.int (3 : Int32)), .val (.long (f1 (4 : Int32))), .second, .val (.int ((2 : Int32) * ((updI (updI S103 (own_dg (f1 (0 : Int32)) (xs1.getD (J1).toNatClampNeg 0)) ((S103 (own_dg (f1 (0 : Int32)) (xs1.getD (J1).toNatClampNeg 0))) + (1 : Int32))) (own_dg (f1 (2 : Int32)) (xs1.getD (J1).toNatClampNeg 0)) (((updI S103 (own_dg (f1 (0 : Int32)) (xs1.getD (J1).toNatClampNeg 0)) ((S103 (own_dg (f1 (0 : Int32)) (xs1.getD (J1).toNatClampNeg 0))) + (1 : Int32))) (own_dg (f1 (2 : Int32)) (xs1.getD (J1).toNatClampNeg 0))) + (1 : Int32))) (own_dg (f1 (4 : Int32)) (xs1.getD (J1).toNatClampNeg 0)))))]) rfl ?_
      refine XS.goto X144.here hx rfl (pc0 := 314) (pc' := 247) rfl (hb hby dc0_314) (by decide) (by decide) ?_
      show Steps p.tables e below (T144.setTop (mkF m 247 #[s0, .val (.int (3 : Int32)), s2, s3, .val (.ref b4), .val (.int P1), .val (.ref b6), .val (.ref A1), .val (.ref B1), .val (.int J1), .val (.ref r1), .val (.int x103), .val (.int (xs1.getD (J1).toNatClampNeg 0)), .val (.int (3 : Int32)), .val (.long (f1 (4 : Int32))), .second, .val (.int ((2 : Int32) * ((updI (updI S103 (own_dg (f1 (0 : Int32)) (xs1.getD (J1).toNatClampNeg 0)) ((S103 (own_dg (f1 (0 : Int32)) (xs1.getD (J1).toNatClampNeg 0))) + (1 : Int32))) (own_dg (f1 (2 : Int32)) (xs1.getD (J1).toNatClampNeg 0)) (((updI S103 (own_dg (f1 (0 : Int32)) (xs1.getD (J1).toNatClampNeg 0)) ((S103 (own_dg (f1 (0 : Int32)) (xs1.getD (J1).toNatClampNeg 0))) + (1 : Int32))) (own_dg (f1 (2 : Int32)) (xs1.getD (J1).toNatClampNeg 0))) + (1 : Int32))) (own_dg (f1 (4 : Int32)) (xs1.getD (J1).toNatClampNeg 0)))))] [])) _
      refine XS.iload X144.here hx rfl (hb hby dc0_247) rfl ?_
      refine XS.iloadN X144.here hx rfl (hb hby dc0_249) rfl ?_
      show Steps p.tables e below (T144.setTop (mkF m 250 #[s0, .val (.int (3 : Int32)), s2, s3, .val (.ref b4), .val (.int P1), .val (.ref b6), .val (.ref A1), .val (.ref B1), .val (.int J1), .val (.ref r1), .val (.int x103), .val (.int (xs1.getD (J1).toNatClampNeg 0)), .val (.int (3 : Int32)), .val (.long (f1 (4 : Int32))), .second, .val (.int ((2 : Int32) * ((updI (updI S103 (own_dg (f1 (0 : Int32)) (xs1.getD (J1).toNatClampNeg 0)) ((S103 (own_dg (f1 (0 : Int32)) (xs1.getD (J1).toNatClampNeg 0))) + (1 : Int32))) (own_dg (f1 (2 : Int32)) (xs1.getD (J1).toNatClampNeg 0)) (((updI S103 (own_dg (f1 (0 : Int32)) (xs1.getD (J1).toNatClampNeg 0)) ((S103 (own_dg (f1 (0 : Int32)) (xs1.getD (J1).toNatClampNeg 0))) + (1 : Int32))) (own_dg (f1 (2 : Int32)) (xs1.getD (J1).toNatClampNeg 0))) + (1 : Int32))) (own_dg (f1 (4 : Int32)) (xs1.getD (J1).toNatClampNeg 0)))))] [(.int (3 : Int32)), (.int (3 : Int32))])) _
      refine XS.icmpYes X144.here hx rfl (pc0 := 250) (pc' := 317) rfl (hb hby dc0_250) rfl (by decide) (by decide) (by decide) ?_
      refine XS.aload X144.here hx rfl (hb hby dc0_317) rfl rfl ?_
      refine XS.astore X144.here hx rfl (hb hby dc0_319) rfl rfl (l' := #[s0, .val (.int (3 : Int32)), s2, s3, .val (.ref b4), .val (.int P1), .val (.ref b6), .val (.ref A1), .val (.ref B1), .val (.int J1), .val (.ref r1), .val (.int x103), .val (.int (xs1.getD (J1).toNatClampNeg 0)), .val (.ref B1), .val (.long (f1 (4 : Int32))), .second, .val (.int ((2 : Int32) * ((updI (updI S103 (own_dg (f1 (0 : Int32)) (xs1.getD (J1).toNatClampNeg 0)) ((S103 (own_dg (f1 (0 : Int32)) (xs1.getD (J1).toNatClampNeg 0))) + (1 : Int32))) (own_dg (f1 (2 : Int32)) (xs1.getD (J1).toNatClampNeg 0)) (((updI S103 (own_dg (f1 (0 : Int32)) (xs1.getD (J1).toNatClampNeg 0)) ((S103 (own_dg (f1 (0 : Int32)) (xs1.getD (J1).toNatClampNeg 0))) + (1 : Int32))) (own_dg (f1 (2 : Int32)) (xs1.getD (J1).toNatClampNeg 0))) + (1 : Int32))) (own_dg (f1 (4 : Int32)) (xs1.getD (J1).toNatClampNeg 0)))))]) rfl ?_
      show Steps p.tables e below (T144.setTop (mkF m 321 #[s0, .val (.int (3 : Int32)), s2, s3, .val (.ref b4), .val (.int P1), .val (.ref b6), .val (.ref A1), .val (.ref B1), .val (.int J1), .val (.ref r1), .val (.int x103), .val (.int (xs1.getD (J1).toNatClampNeg 0)), .val (.ref B1), .val (.long (f1 (4 : Int32))), .second, .val (.int ((2 : Int32) * ((updI (updI S103 (own_dg (f1 (0 : Int32)) (xs1.getD (J1).toNatClampNeg 0)) ((S103 (own_dg (f1 (0 : Int32)) (xs1.getD (J1).toNatClampNeg 0))) + (1 : Int32))) (own_dg (f1 (2 : Int32)) (xs1.getD (J1).toNatClampNeg 0)) (((updI S103 (own_dg (f1 (0 : Int32)) (xs1.getD (J1).toNatClampNeg 0)) ((S103 (own_dg (f1 (0 : Int32)) (xs1.getD (J1).toNatClampNeg 0))) + (1 : Int32))) (own_dg (f1 (2 : Int32)) (xs1.getD (J1).toNatClampNeg 0))) + (1 : Int32))) (own_dg (f1 (4 : Int32)) (xs1.getD (J1).toNatClampNeg 0)))))] [])) _
      refine XS.aload X144.here hx rfl (hb hby dc0_321) rfl rfl ?_
      refine XS.astore X144.here hx rfl (hb hby dc0_323) rfl rfl (l' := #[s0, .val (.int (3 : Int32)), s2, s3, .val (.ref b4), .val (.int P1), .val (.ref b6), .val (.ref A1), .val (.ref A1), .val (.int J1), .val (.ref r1), .val (.int x103), .val (.int (xs1.getD (J1).toNatClampNeg 0)), .val (.ref B1), .val (.long (f1 (4 : Int32))), .second, .val (.int ((2 : Int32) * ((updI (updI S103 (own_dg (f1 (0 : Int32)) (xs1.getD (J1).toNatClampNeg 0)) ((S103 (own_dg (f1 (0 : Int32)) (xs1.getD (J1).toNatClampNeg 0))) + (1 : Int32))) (own_dg (f1 (2 : Int32)) (xs1.getD (J1).toNatClampNeg 0)) (((updI S103 (own_dg (f1 (0 : Int32)) (xs1.getD (J1).toNatClampNeg 0)) ((S103 (own_dg (f1 (0 : Int32)) (xs1.getD (J1).toNatClampNeg 0))) + (1 : Int32))) (own_dg (f1 (2 : Int32)) (xs1.getD (J1).toNatClampNeg 0))) + (1 : Int32))) (own_dg (f1 (4 : Int32)) (xs1.getD (J1).toNatClampNeg 0)))))]) rfl ?_
      refine XS.aload X144.here hx rfl (hb hby dc0_325) rfl rfl ?_
      refine XS.astore X144.here hx rfl (hb hby dc0_327) rfl rfl (l' := #[s0, .val (.int (3 : Int32)), s2, s3, .val (.ref b4), .val (.int P1), .val (.ref b6), .val (.ref B1), .val (.ref A1), .val (.int J1), .val (.ref r1), .val (.int x103), .val (.int (xs1.getD (J1).toNatClampNeg 0)), .val (.ref B1), .val (.long (f1 (4 : Int32))), .second, .val (.int ((2 : Int32) * ((updI (updI S103 (own_dg (f1 (0 : Int32)) (xs1.getD (J1).toNatClampNeg 0)) ((S103 (own_dg (f1 (0 : Int32)) (xs1.getD (J1).toNatClampNeg 0))) + (1 : Int32))) (own_dg (f1 (2 : Int32)) (xs1.getD (J1).toNatClampNeg 0)) (((updI S103 (own_dg (f1 (0 : Int32)) (xs1.getD (J1).toNatClampNeg 0)) ((S103 (own_dg (f1 (0 : Int32)) (xs1.getD (J1).toNatClampNeg 0))) + (1 : Int32))) (own_dg (f1 (2 : Int32)) (xs1.getD (J1).toNatClampNeg 0))) + (1 : Int32))) (own_dg (f1 (4 : Int32)) (xs1.getD (J1).toNatClampNeg 0)))))]) rfl ?_
      refine XS.iinc X144.here hx rfl (hb hby dc0_329) rfl (l' := #[s0, .val (.int (3 : Int32)), s2, s3, .val (.ref b4), .val (.int P1), .val (.ref b6), .val (.ref B1), .val (.ref A1), .val (.int (J1 + (1 : Int32))), .val (.ref r1), .val (.int x103), .val (.int (xs1.getD (J1).toNatClampNeg 0)), .val (.ref B1), .val (.long (f1 (4 : Int32))), .second, .val (.int ((2 : Int32) * ((updI (updI S103 (own_dg (f1 (0 : Int32)) (xs1.getD (J1).toNatClampNeg 0)) ((S103 (own_dg (f1 (0 : Int32)) (xs1.getD (J1).toNatClampNeg 0))) + (1 : Int32))) (own_dg (f1 (2 : Int32)) (xs1.getD (J1).toNatClampNeg 0)) (((updI S103 (own_dg (f1 (0 : Int32)) (xs1.getD (J1).toNatClampNeg 0)) ((S103 (own_dg (f1 (0 : Int32)) (xs1.getD (J1).toNatClampNeg 0))) + (1 : Int32))) (own_dg (f1 (2 : Int32)) (xs1.getD (J1).toNatClampNeg 0))) + (1 : Int32))) (own_dg (f1 (4 : Int32)) (xs1.getD (J1).toNatClampNeg 0)))))]) rfl ?_
      show Steps p.tables e below (T144.setTop (mkF m 332 #[s0, .val (.int (3 : Int32)), s2, s3, .val (.ref b4), .val (.int P1), .val (.ref b6), .val (.ref B1), .val (.ref A1), .val (.int (J1 + (1 : Int32))), .val (.ref r1), .val (.int x103), .val (.int (xs1.getD (J1).toNatClampNeg 0)), .val (.ref B1), .val (.long (f1 (4 : Int32))), .second, .val (.int ((2 : Int32) * ((updI (updI S103 (own_dg (f1 (0 : Int32)) (xs1.getD (J1).toNatClampNeg 0)) ((S103 (own_dg (f1 (0 : Int32)) (xs1.getD (J1).toNatClampNeg 0))) + (1 : Int32))) (own_dg (f1 (2 : Int32)) (xs1.getD (J1).toNatClampNeg 0)) (((updI S103 (own_dg (f1 (0 : Int32)) (xs1.getD (J1).toNatClampNeg 0)) ((S103 (own_dg (f1 (0 : Int32)) (xs1.getD (J1).toNatClampNeg 0))) + (1 : Int32))) (own_dg (f1 (2 : Int32)) (xs1.getD (J1).toNatClampNeg 0))) + (1 : Int32))) (own_dg (f1 (4 : Int32)) (xs1.getD (J1).toNatClampNeg 0)))))] [])) _
      refine XS.goto X144.here hx rfl (pc0 := 332) (pc' := 182) rfl (hb hby dc0_332) (by decide) (by decide) ?_
      exact kt)
  have K146 : Keep h0 h144 [r1, B1] := (Keep.wr (Keep.wr (Keep.wr (Keep.wr (Keep.wr (Keep.wr (Keep.wr (Keep.wr (Keep.wr (Keep.trans (Keep.refl h0 [r1, B1]) K103 (allS (P := fun x => x ∈ [r1, B1] ∨ h0.size ≤ x) (Or.inl (List.mem_of_getElem? (i := 0) rfl)) all0)) W111 (Or.inl (List.mem_of_getElem? (i := 0) rfl))) W114 (Or.inl (List.mem_of_getElem? (i := 1) rfl))) W118 (Or.inl (List.mem_of_getElem? (i := 1) rfl))) W124 (Or.inl (List.mem_of_getElem? (i := 0) rfl))) W127 (Or.inl (List.mem_of_getElem? (i := 1) rfl))) W131 (Or.inl (List.mem_of_getElem? (i := 1) rfl))) W137 (Or.inl (List.mem_of_getElem? (i := 0) rfl))) W140 (Or.inl (List.mem_of_getElem? (i := 1) rfl))) W144 (Or.inl (List.mem_of_getElem? (i := 1) rfl)))
  have f147 := (((((((((f105.other W111 ne4r).other W114 ne4B).other W118 ne4B).other W124 ne4r).other W127 ne4B).other W131 ne4B).other W137 ne4r).other W140 ne4B).other W144 ne4B)
  have f148 := (f141.other W144 neAB)
  have f149 := ((H137.other W140 (Ne.symm neBr)).other W144 (Ne.symm neBr))
  have O150 : Old Z n0 h144 := (((((((((O103.wr W111 gr).wr W114 gB).wr W118 gB).wr W124 gr).wr W127 gB).wr W131 gB).wr W137 gr).wr W140 gB).wr W144 gB)
  exact ⟨_, _, _, (.val (.ref r1)), (.val (.int x103)), (.val (.int (xs1.getD (J1).toNatClampNeg 0))), (.val (.ref B1)), (.val (.long (f1 (4 : Int32)))), .second, (.val (.int ((2 : Int32) * ((updI (updI S103 (own_dg (f1 (0 : Int32)) (xs1.getD (J1).toNatClampNeg 0)) ((S103 (own_dg (f1 (0 : Int32)) (xs1.getD (J1).toNatClampNeg 0))) + (1 : Int32))) (own_dg (f1 (2 : Int32)) (xs1.getD (J1).toNatClampNeg 0)) (((updI S103 (own_dg (f1 (0 : Int32)) (xs1.getD (J1).toNatClampNeg 0)) ((S103 (own_dg (f1 (0 : Int32)) (xs1.getD (J1).toNatClampNeg 0))) + (1 : Int32))) (own_dg (f1 (2 : Int32)) (xs1.getD (J1).toNatClampNeg 0))) + (1 : Int32))) (own_dg (f1 (4 : Int32)) (xs1.getD (J1).toNatClampNeg 0)))))), Or.inr ⟨_, _, _, _, _, _, rfl, rfl, rfl, rfl, rfl, rfl, rfl⟩, ⟨_, _, X144, e144, N144, O150, pre145⟩, f147, Gd.upd G6 (by omega) K146 (allS (Or.inl er) (allS (Or.inr hB) all0)) (er ▸ f149), f148, H144, fun i hi => if_neg hi, stp.2.2.2⟩
theorem ps3 {p : Program} {l : Launch} {e : Env} {R : Room} {s : State} {m : MethodId} {args : Array Value} {below : List Frame} {meth : Method} {c : Code} {Z : State} {a0 : Array Value} {n0 : Nat} {cells slots : Nat} {st0 : State} (hx : p.tables.exec = Jvm.exec) (hZ : Z.Warmed39 s.vm) (hw : ∀ d ∈ tables_1, d.before a0 Z = true) (hby : c.code = prog_98_method_19_code) (hml : c.maxLocals = 17) (hown : s.vm.findClass "com/example/keyfold/keyfold/SortedRows" = some m.cls) {h0 : Heap} (s0 s2 s3 : Slot) (b4 b6 q1 A1 B1 : Nat) (P1 J1 : Int32) (xs1 : List Int32) (f1 g1 : Int32 → Int64) (cc1 : Nat → Int32 → Int32) (k0 k1 k2 w0 : Int64) (d1 : Nat) (u10 u11 u12 u13 u14 u15 u16 : Slot) (tl : Tl u10 u11 u12 u13 u14 u15 u16) (G0 : Rc p l e R s m args below meth c n0 Z cells slots st0 (mkF m 182 #[s0, .val (.int (3 : Int32)), s2, s3, .val (.ref b4), .val (.int P1), .val (.ref b6), .val (.ref A1), .val (.ref B1), .val (.int J1), u10, u11, u12, u13, u14, u15, u16] []) h0) (A4 : La Z h0 b4 .int (8 : Int32) xs1) (G6 : Gd Z h0 b6 q1 P1 cc1) (LA : Lv Z h0 A1 6 f1) (LB : Lv Z h0 B1 6 g1) (neAB : A1 ≠ B1) (hq : q1 = b6 + 1) (hA : A1 < b6 ∨ q1 + P1.toNatClampNeg ≤ A1) (hB : B1 < b6 ∨ q1 + P1.toNatClampNeg ≤ B1) (h4 : b4 < b6) (ne4B : b4 ≠ B1) (gB : n0 ≤ B1) (g6 : n0 ≤ b6) (hJ : ¬ J1 < 0 ∧ J1 < P1) (hP8 : P1.toInt ≤ 8) (hcc : cc1 J1.toNatClampNeg = own_C3 k0 k1 k2 (xs1.getD (J1).toNatClampNeg 0)) (ok : Ok3 k0 k1 k2 w0 d1 f1) (hd : d1 < 8) (hsh : (xs1.getD (J1).toNatClampNeg 0).toInt = 8 * (d1 : Int)) :
    ∃ (h' : Heap) (f' : Int32 → Int64) (cc' : Nat → Int32 → Int32) (u10' u11' u12' u13' u14' u15' u16' : Slot), Tl u10' u11' u12' u13' u14' u15' u16' ∧ Rc p l e R s m args below meth c n0 Z cells slots st0 (mkF m 182 #[s0, .val (.int (3 : Int32)), s2, s3, .val (.ref b4), .val (.int P1), .val (.ref b6), .val (.ref B1), .val (.ref A1), .val (.int (J1 + (1 : Int32))), u10', u11', u12', u13', u14', u15', u16'] []) h' ∧ La Z h' b4 .int (8 : Int32) xs1 ∧ Gd Z h' b6 q1 P1 cc' ∧ Lv Z h' A1 6 f1 ∧ Lv Z h' B1 6 f' ∧ (∀ i, i ≠ J1.toNatClampNeg → cc' i = cc1 i) ∧ Ok3 k0 k1 k2 w0 (d1 + 1) f' := by
  rcases tl with ⟨i10, rfl, rfl, rfl, rfl, rfl, rfl, rfl⟩ | ⟨r10, i11, i12, r13, k14, i16, rfl, rfl, rfl, rfl, rfl, rfl, rfl⟩
  · exact ps3a hx hZ hw hby hml hown s0 s2 s3 b4 b6 q1 A1 B1 P1 J1 xs1 f1 g1 cc1 k0 k1 k2 w0 d1 i10 G0 A4 G6 LA LB neAB hq hA hB h4 ne4B gB g6 hJ hP8 hcc ok hd hsh
  · exact ps3b hx hZ hw hby hml hown s0 s2 s3 b4 b6 q1 A1 B1 P1 J1 xs1 f1 g1 cc1 k0 k1 k2 w0 d1 r10 i11 i12 r13 k14 i16 G0 A4 G6 LA LB neAB hq hA hB h4 ne4B gB g6 hJ hP8 hcc ok hd hsh
theorem psL3 {p : Program} {l : Launch} {e : Env} {R : Room} {s : State} {m : MethodId} {args : Array Value} {below : List Frame} {meth : Method} {c : Code} {Z : State} {a0 : Array Value} {n0 : Nat} {cells slots : Nat} {st0 : State} (hx : p.tables.exec = Jvm.exec) (hZ : Z.Warmed39 s.vm) (hw : ∀ d ∈ tables_1, d.before a0 Z = true) (hby : c.code = prog_98_method_19_code) (hml : c.maxLocals = 17) (hown : s.vm.findClass "com/example/keyfold/keyfold/SortedRows" = some m.cls) (s0 s2 s3 : Slot) (b4 b6 q1 : Nat) (P1 : Int32) (xs1 : List Int32) (k0 k1 k2 w0 : Int64) (hq : q1 = b6 + 1) (h4 : b4 < b6) (g6 : n0 ≤ b6) (hP8 : P1.toInt ≤ 8) (hg : Dg (own_v3 k0 k1 k2) 8 P1 xs1) : ∀ (kk : Nat) (h0 : Heap) (A1 B1 : Nat) (J1 : Int32) (f1 g1 : Int32 → Int64) (cc1 : Nat → Int32 → Int32) (u10 u11 u12 u13 u14 u15 u16 : Slot), J1.toInt + kk = P1.toInt → 0 ≤ J1.toInt → Tl u10 u11 u12 u13 u14 u15 u16 → La Z h0 b4 .int (8 : Int32) xs1 → Gd Z h0 b6 q1 P1 cc1 → Lv Z h0 A1 6 f1 → Lv Z h0 B1 6 g1 → A1 ≠ B1 → (A1 < b6 ∨ q1 + P1.toNatClampNeg ≤ A1) → (B1 < b6 ∨ q1 + P1.toNatClampNeg ≤ B1) → b4 ≠ A1 → b4 ≠ B1 → n0 ≤ A1 → n0 ≤ B1 → (∀ i, J1.toNatClampNeg ≤ i → i < P1.toNatClampNeg → cc1 i = own_C3 k0 k1 k2 (xs1.getD i 0)) → Ok3 k0 k1 k2 w0 ((DS (own_v3 k0 k1 k2) 8).getD J1.toNatClampNeg 8) f1 → Rc p l e R s m args below meth c n0 Z cells slots st0 (mkF m 182 #[s0, .val (.int (3 : Int32)), s2, s3, .val (.ref b4), .val (.int P1), .val (.ref b6), .val (.ref A1), .val (.ref B1), .val (.int J1), u10, u11, u12, u13, u14, u15, u16] []) h0 →
    ∃ (h' : Heap) (A2 B2 : Nat) (f' : Int32 → Int64) (u10' u11' u12' u13' u14' u15' u16' : Slot), Rc p l e R s m args below meth c n0 Z cells slots st0 (mkF m 182 #[s0, .val (.int (3 : Int32)), s2, s3, .val (.ref b4), .val (.int P1), .val (.ref b6), .val (.ref A2), .val (.ref B2), .val (.int P1), u10', u11', u12', u13', u14', u15', u16'] []) h' ∧ Lv Z h' A2 6 f' ∧ Ok3 k0 k1 k2 w0 8 f'
  | 0, h0, A1, B1, J1, f1, g1, cc1, u10, u11, u12, u13, u14, u15, u16, hk, hJ0, tl, A4, G6, LA, LB, neAB, hA, hB, n4A, n4B, gA, gB, hcc, ok, G0 => by
    obtain rfl : J1 = P1 := own_eqI (by omega)
    refine ⟨h0, A1, B1, f1, u10, u11, u12, u13, u14, u15, u16, G0, LA, ?_⟩
    rw [own_getD' (by have := hg.1; show _ ≤ J1.toInt.toNat; omega)] at ok; exact ok
  | kk + 1, h0, A1, B1, J1, f1, g1, cc1, u10, u11, u12, u13, u14, u15, u16, hk, hJ0, tl, A4, G6, LA, LB, neAB, hA, hB, n4A, n4B, gA, gB, hcc, ok, G0 => by
    have hJ : ¬ J1 < 0 ∧ J1 < P1 := ⟨own_nltI (by have e : (0 : Int32).toInt = 0 := rfl; omega), own_ltI (by omega)⟩
    have e1 := own_inc1 (J := J1) rfl (by omega) hJ0
    have eN : (J1 + (1 : Int32)).toNatClampNeg = J1.toNatClampNeg + 1 := by show (J1 + (1 : Int32)).toInt.toNat = J1.toInt.toNat + 1; omega
    have hl : J1.toNatClampNeg < (DS (own_v3 k0 k1 k2) 8).length := by have := hg.1; show J1.toInt.toNat < _; omega
    obtain ⟨gp1, gp2, gp3⟩ := DS_gap hl
    obtain ⟨h1, f2, cc2, u102, u112, u122, u132, u142, u152, u162, tl2, G1, A41, G61, LA1, LB1, hcc2, ok2⟩ := ps3 hx hZ hw hby hml hown s0 s2 s3 b4 b6 q1 A1 B1 P1 J1 xs1 f1 g1 cc1 k0 k1 k2 w0 _ u10 u11 u12 u13 u14 u15 u16 tl G0 A4 G6 LA LB neAB hq hA hB h4 n4B gB g6 hJ hP8 (hcc _ (Nat.le_refl _) (own_jn hJ)) ok (DS_lt hl) (hg.2.2 _ hl)
    exact psL3 hx hZ hw hby hml hown s0 s2 s3 b4 b6 q1 P1 xs1 k0 k1 k2 w0 hq h4 g6 hP8 hg kk h1 B1 A1 (J1 + (1 : Int32)) f2 f1 cc2 u102 u112 u122 u132 u142 u152 u162 (by omega) (by omega) tl2 A41 G61 LB1 LA1 (Ne.symm neAB) hB hA n4B n4A gB gA (fun i hi hi2 => by rw [hcc2 i (by omega)]; exact hcc i (by omega) hi2) (by rw [eN]; exact ok2.skip gp1 (fun d a b => gp3 d a b)) G1
def Q_s (Z : State) (φ : (Int32 → Int64) → Prop) (n0 : Nat) (v : Option Value) (h : Heap) (L : List Loc) : Prop := ∃ (A : Addr) (f : Int32 → Int64), v = some (.ref A) ∧ Fr n0 L ∧ Old Z n0 h ∧ Lv Z h A 6 f ∧ φ f
theorem pn_0 : plainName "com/example/keyfold/keyfold/SortedRows" = true := by first | (simp [plainName, overriddenIn]; done) | decide +kernel
theorem ef_0 (m : MethodId) (x0 : Addr) (x1 : Int32) : entryFrame m #[(.ref x0), (.int x1)] 17 = mkF m 0 #[.val (.ref x0), .val (.int x1), .unset, .unset, .unset, .unset, .unset, .unset, .unset, .unset, .unset, .unset, .unset, .unset, .unset, .unset, .unset] [] := by first | (simp [entryFrame, mkF, argsToLocals, Value.category]; done) | rfl
theorem dc0_0 : decode prog_98_method_19_code 0 = .ok (.lconst 0, 1) := by decide +kernel
theorem dc0_1 : decode prog_98_method_19_code 1 = .ok (.lstore_n 2, 1) := by decide +kernel
theorem dc0_2 : decode prog_98_method_19_code 2 = .ok (.iconst 0, 1) := by decide +kernel
theorem dc0_3 : decode prog_98_method_19_code 3 = .ok (.istore 4, 2) := by decide +kernel
theorem dc0_5 : decode prog_98_method_19_code 5 = .ok (.iload 4, 2) := by decide +kernel
theorem dc0_7 : decode prog_98_method_19_code 7 = .ok (.iload_n 1, 1) := by decide +kernel
theorem dc0_8 : decode prog_98_method_19_code 8 = .ok (.if_icmp .ge 22, 3) := by decide +kernel
theorem dc0_30 : decode prog_98_method_19_code 30 = .ok (.bipush 8, 2) := by decide +kernel
theorem dc0_32 : decode prog_98_method_19_code 32 = .ok (.newarray .int, 2) := by decide +kernel
theorem dc0_34 : decode prog_98_method_19_code 34 = .ok (.astore 4, 2) := by decide +kernel
theorem dc0_36 : decode prog_98_method_19_code 36 = .ok (.iconst 0, 1) := by decide +kernel
theorem dc0_37 : decode prog_98_method_19_code 37 = .ok (.istore 5, 2) := by decide +kernel
theorem dc0_39 : decode prog_98_method_19_code 39 = .ok (.iconst 0, 1) := by decide +kernel
theorem dc0_40 : decode prog_98_method_19_code 40 = .ok (.istore 6, 2) := by decide +kernel
theorem dc0_84 : decode prog_98_method_19_code 84 = .ok (.iload 5, 2) := by decide +kernel
theorem dc0_86 : decode prog_98_method_19_code 86 = .ok (.sipush 256, 3) := by decide +kernel
theorem dc0_89 : decode prog_98_method_19_code 89 = .ok (.multianewarray 206 2, 4) := by decide +kernel
theorem dc0_93 : decode prog_98_method_19_code 93 = .ok (.astore 6, 2) := by decide +kernel
theorem dc0_95 : decode prog_98_method_19_code 95 = .ok (.iconst 0, 1) := by decide +kernel
theorem dc0_96 : decode prog_98_method_19_code 96 = .ok (.istore 7, 2) := by decide +kernel
theorem dc0_98 : decode prog_98_method_19_code 98 = .ok (.iload 7, 2) := by decide +kernel
theorem dc0_100 : decode prog_98_method_19_code 100 = .ok (.iload_n 1, 1) := by decide +kernel
theorem dc0_101 : decode prog_98_method_19_code 101 = .ok (.if_icmp .ge 60, 3) := by decide +kernel
theorem dc0_161 : decode prog_98_method_19_code 161 = .ok (.aload_n 0, 1) := by decide +kernel
theorem dc0_162 : decode prog_98_method_19_code 162 = .ok (.astore 7, 2) := by decide +kernel
theorem dc0_164 : decode prog_98_method_19_code 164 = .ok (.iload 5, 2) := by decide +kernel
theorem dc0_166 : decode prog_98_method_19_code 166 = .ok (.ifCond .ne 7, 3) := by decide +kernel
theorem dc0_169 : decode prog_98_method_19_code 169 = .ok (.aconst_null, 1) := by decide +kernel
theorem dc0_170 : decode prog_98_method_19_code 170 = .ok (.goto 7, 3) := by decide +kernel
theorem dc0_177 : decode prog_98_method_19_code 177 = .ok (.astore 8, 2) := by decide +kernel
theorem dc0_179 : decode prog_98_method_19_code 179 = .ok (.iconst 0, 1) := by decide +kernel
theorem dc0_180 : decode prog_98_method_19_code 180 = .ok (.istore 9, 2) := by decide +kernel
theorem dc0_335 : decode prog_98_method_19_code 335 = .ok (.aload 7, 2) := by decide +kernel
theorem dc0_337 : decode prog_98_method_19_code 337 = .ok (.areturn, 1) := by decide +kernel
set_option maxRecDepth 65536 in
set_option maxHeartbeats 40000000 in
theorem rmS0 (l : Launch) (Z : State) (a0 : Array Value) (hw : ∀ d ∈ tables_1, d.before a0 Z = true) (ws : List Jvm.Cond) (a1 : Addr) (f1 : Int32 → Int64) (k0 k1 k2 w0 : Int64) (h0 : Heap) (n0 : Nat) (O0 : Old Z n0 h0) (LP : Lv Z h0 a1 6 f1) (g1 : n0 ≤ a1) (hf0 : f1 (0 : Int32) = k0) (hf1 : f1 (1 : Int32) = (k0 ^^^ w0)) (hf2 : f1 (2 : Int32) = k1) (hf3 : f1 (3 : Int32) = (k1 ^^^ w0)) (hf4 : f1 (4 : Int32) = k2) (hf5 : f1 (5 : Int32) = (k2 ^^^ w0)) :
    MetFree l (⟨"com/example/keyfold/keyfold/SortedRows", "sort", "([JI)[J"⟩ : MethodName) (head1 (Jvm.Cond.code (⟨"com/example/keyfold/keyfold/SortedRows", "sort", "([JI)[J"⟩ : MethodName) prog_98_method_19_code 17 (some (.array .long)) :: ws) ({ frames := 0, cells := 2, slots := 8, locals := 0 } : Room)) (fun a U => a = #[(.ref a1), (.int (0 : Int32))] ∧ Z.Warmed39 U.vm ∧ U.heap = h0) (fun _ _ _ _ _ => True) (fun _ U o U' => ∃ v L, o = .returned v ∧ Q_s Z (fun _ => True) n0 v U'.heap L ∧ FrameEnd U o U' L ({ frames := 0, cells := 2, slots := 8, locals := 0 } : Room).cells ({ frames := 0, cells := 2, slots := 8, locals := 0 } : Room).slots) := by
  refine MetFree.of_bodySF (plainFor_of_name pn_0) hisR ?_
  intro p e s m args below meth c s₁ Bd hml0 hP hK
  obtain ⟨rfl, hZ, hh⟩ := hP
  have hx := Bd.exec
  have hby := Bd.bytes
  have hml : c.maxLocals = 17 := hml0
  have hown : s.vm.findClass "com/example/keyfold/keyfold/SortedRows" = some m.cls := findClass_of_methodNamed Bd.named
  have hnm := (name_of_methodNamed Bd.named Bd.method).1
  have X0 : Stand p l e ({ frames := 0, cells := 2, slots := 8, locals := 0 } : Room) s m #[(.ref a1), (.int (0 : Int32))] below meth c s₁ [] 0 0 := Stand.of_body Bd
  have e0 : s₁.heap = h0 := by rw [← hh, Bd.state]; rfl
  have N0 := Fr.nil n0
  have pre0 : ∀ t, Steps p.tables e below (s₁.setTop (mkF m 0 #[.val (.ref a1), .val (.int (0 : Int32)), .unset, .unset, .unset, .unset, .unset, .unset, .unset, .unset, .unset, .unset, .unset, .unset, .unset, .unset, .unset] [])) t → Steps p.tables e below (s₁.setTop (entryFrame m #[(.ref a1), (.int (0 : Int32))] 17)) t := fun t k => castTop (ef_0 m a1 (0 : Int32)) k
  obtain ⟨T101, h101, k101, X101, e101, E101, A101, st101⟩ := newP X0 hx hZ (hw _ (List.mem_of_getElem? (i := 5) rfl)) e0 (g := (mkF m 32 #[.val (.ref a1), .val (.int (0 : Int32)), .val (.long (0 : Int64)), .second, .val (.int (0 : Int32)), .unset, .unset, .unset, .unset, .unset, .unset, .unset, .unset, .unset, .unset, .unset, .unset] [(.int (8 : Int32))])) rfl (hb hby dc0_32) rfl (by decide) (cap := 8) (by decide) (by decide) (by decide) (by decide)
  obtain ⟨b101, g101⟩ : ∃ z, z = h0.size := ⟨_, rfl⟩
  rw [← g101] at A101 st101
  have gb101 : n0 ≤ b101 := by rw [g101, ← O0.1]; exact O0.2.1
  have ne101_a1 : a1 ≠ b101 := by rw [g101]; exact Nat.ne_of_lt (LP).lt
  have V101 : Arv Z h101 b101 k101 .int (8 : Int32) [(.int (0 : Int32)), (.int (0 : Int32)), (.int (0 : Int32)), (.int (0 : Int32)), (.int (0 : Int32)), (.int (0 : Int32)), (.int (0 : Int32)), (.int (0 : Int32))] (.int (0 : Int32)) := (Arv.new A101 (by decide)).pad (pad_rep [] (.int (0 : Int32)) 8)
  have O102 : Old Z n0 h101 := (O0.ext E101)
  obtain ⟨T103, h103, k103, kc103, X103_, e103, E103, A103, -, -, I103, st103⟩ := gridM X101 hx hZ hown (C := "[I") (ad := "[[I") (ty := .int) (by first | rfl | decide) (by first | rfl | decide) (hw _ (List.mem_of_getElem? (i := 7) rfl)) (hw _ (List.mem_of_getElem? (i := 8) rfl)) (hw _ (List.mem_of_getElem? (i := 5) rfl)) e101 (g := (mkF m 89 #[.val (.ref a1), .val (.int (0 : Int32)), .val (.long (0 : Int64)), .second, .val (.ref b101), .val (.int (0 : Int32)), .val (.int (8 : Int32)), .unset, .unset, .unset, .unset, .unset, .unset, .unset, .unset, .unset, .unset] [(.int (256 : Int32)), (.int (0 : Int32))])) rfl (hb hby dc0_89) rfl (by decide) (by decide) (N := ((0 : Int32)).toNatClampNeg) rfl rfl (cap := 256) (by decide) (by decide) (Nat.le_trans (Nat.le_refl 0) (by decide)) (by decide) (by decide) (Nat.le_trans (Nat.add_le_add_left (Nat.add_le_add_left (Nat.le_refl 0) 1) _) (by decide : 1 + (1 + 0) ≤ _)) (Nat.le_trans (Nat.add_le_add_left (Nat.add_le_add (Nat.le_refl 0) (Nat.mul_le_mul_right _ (Nat.le_refl 0))) _) (by decide : 8 + (0 + 0 * 256) ≤ _))
  have X103 := X103_.more (Nat.add_le_add_left (Nat.add_le_add_left (Nat.le_refl 0) 1) _ : 1 + (1 + _) ≤ 1 + (1 + 0)) (Nat.add_le_add_left (Nat.add_le_add (Nat.le_refl 0) (Nat.mul_le_mul_right _ (Nat.le_refl 0))) _ : 8 + (_ + _ * 256) ≤ 8 + (0 + 0 * 256))
  obtain ⟨b103, g103⟩ : ∃ z, z = h101.size := ⟨_, rfl⟩
  rw [← g103] at A103 I103 st103
  have gb103 : n0 ≤ b103 := by rw [g103, ← O102.1]; exact O102.2.1
  have f104 := (LP.ext E101)
  have ne103_a1 : a1 ≠ b103 := by rw [g103]; exact Nat.ne_of_lt (f104).lt
  have ne103_b101 : b101 ≠ b103 := by rw [g103]; exact Nat.ne_of_lt (V101).lt
  obtain ⟨fs, hr, hrun, hended, hW, hsame⟩ := X103.leave (v := some (.ref a1)) (fun h => by rw [Bd.returns] at h; cases h)
  have O105 : Old Z n0 h103 := (O102.ext E103)
  have f106 := (f104.ext E103)
  refine ⟨_, _, pre0 _ ?_, hrun, hended, _, _, rfl, ?_, ⟨_, rfl⟩, hW, hsame.mono (by decide) (by decide)⟩
  · skip
    show Steps p.tables e below (s₁.setTop (mkF m 0 #[.val (.ref a1), .val (.int (0 : Int32)), .unset, .unset, .unset, .unset, .unset, .unset, .unset, .unset, .unset, .unset, .unset, .unset, .unset, .unset, .unset] [])) _
    refine XS.lconst X0.here hx rfl (hb hby dc0_0) ?_
    refine XS.lstoreN X0.here hx rfl (hb hby dc0_1) rfl (l' := #[.val (.ref a1), .val (.int (0 : Int32)), .val (.long (0 : Int64)), .second, .unset, .unset, .unset, .unset, .unset, .unset, .unset, .unset, .unset, .unset, .unset, .unset, .unset]) rfl ?_
    refine XS.iconst X0.here hx rfl (hb hby dc0_2) ?_
    refine XS.istore X0.here hx rfl (hb hby dc0_3) rfl (l' := #[.val (.ref a1), .val (.int (0 : Int32)), .val (.long (0 : Int64)), .second, .val (.int (0 : Int32)), .unset, .unset, .unset, .unset, .unset, .unset, .unset, .unset, .unset, .unset, .unset, .unset]) rfl ?_
    show Steps p.tables e below (s₁.setTop (mkF m 5 #[.val (.ref a1), .val (.int (0 : Int32)), .val (.long (0 : Int64)), .second, .val (.int (0 : Int32)), .unset, .unset, .unset, .unset, .unset, .unset, .unset, .unset, .unset, .unset, .unset, .unset] [])) _
    refine XS.iload X0.here hx rfl (hb hby dc0_5) rfl ?_
    refine XS.iloadN X0.here hx rfl (hb hby dc0_7) rfl ?_
    show Steps p.tables e below (s₁.setTop (mkF m 8 #[.val (.ref a1), .val (.int (0 : Int32)), .val (.long (0 : Int64)), .second, .val (.int (0 : Int32)), .unset, .unset, .unset, .unset, .unset, .unset, .unset, .unset, .unset, .unset, .unset, .unset] [(.int (0 : Int32)), (.int (0 : Int32))])) _
    refine XS.icmpYes X0.here hx rfl (pc0 := 8) (pc' := 30) rfl (hb hby dc0_8) rfl (by decide) (by decide) (by decide) ?_
    refine XS.bipush X0.here hx rfl (hb hby dc0_30) ?_
    refine st101 _ ?_
    show Steps p.tables e below (T101.setTop (mkF m 34 #[.val (.ref a1), .val (.int (0 : Int32)), .val (.long (0 : Int64)), .second, .val (.int (0 : Int32)), .unset, .unset, .unset, .unset, .unset, .unset, .unset, .unset, .unset, .unset, .unset, .unset] [(.ref b101)])) _
    refine XS.astore X101.here hx rfl (hb hby dc0_34) rfl rfl (l' := #[.val (.ref a1), .val (.int (0 : Int32)), .val (.long (0 : Int64)), .second, .val (.ref b101), .unset, .unset, .unset, .unset, .unset, .unset, .unset, .unset, .unset, .unset, .unset, .unset]) rfl ?_
    refine XS.iconst X101.here hx rfl (hb hby dc0_36) ?_
    refine XS.istore X101.here hx rfl (hb hby dc0_37) rfl (l' := #[.val (.ref a1), .val (.int (0 : Int32)), .val (.long (0 : Int64)), .second, .val (.ref b101), .val (.int (0 : Int32)), .unset, .unset, .unset, .unset, .unset, .unset, .unset, .unset, .unset, .unset, .unset]) rfl ?_
    refine XS.iconst X101.here hx rfl (hb hby dc0_39) ?_
    refine XS.istore X101.here hx rfl (hb hby dc0_40) rfl (l' := #[.val (.ref a1), .val (.int (0 : Int32)), .val (.long (0 : Int64)), .second, .val (.ref b101), .val (.int (0 : Int32)), .val (.int (0 : Int32)), .unset, .unset, .unset, .unset, .unset, .unset, .unset, .unset, .unset, .unset]) rfl ?_
    show Steps p.tables e below (T101.setTop (mkF m 42 #[.val (.ref a1), .val (.int (0 : Int32)), .val (.long (0 : Int64)), .second, .val (.ref b101), .val (.int (0 : Int32)), .val (.int (0 : Int32)), .unset, .unset, .unset, .unset, .unset, .unset, .unset, .unset, .unset, .unset] [])) _
    refine XS.iload X101.here hx rfl (hb hby dc0_42) rfl ?_
    refine XS.bipush X101.here hx rfl (hb hby dc0_44) ?_
    show Steps p.tables e below (T101.setTop (mkF m 46 #[.val (.ref a1), .val (.int (0 : Int32)), .val (.long (0 : Int64)), .second, .val (.ref b101), .val (.int (0 : Int32)), .val (.int (0 : Int32)), .unset, .unset, .unset, .unset, .unset, .unset, .unset, .unset, .unset, .unset] [(.int (8 : Int32)), (.int (0 : Int32))])) _
    refine XS.icmpNo X101.here hx rfl (hb hby dc0_46) rfl (by decide) ?_
    refine XS.lloadN X101.here hx rfl (hb hby dc0_49) rfl ?_
    refine XS.bipush X101.here hx rfl (hb hby dc0_50) ?_
    show Steps p.tables e below (T101.setTop (mkF m 52 #[.val (.ref a1), .val (.int (0 : Int32)), .val (.long (0 : Int64)), .second, .val (.ref b101), .val (.int (0 : Int32)), .val (.int (0 : Int32)), .unset, .unset, .unset, .unset, .unset, .unset, .unset, .unset, .unset, .unset] [(.int (8 : Int32)), (.long (0 : Int64))])) _
    refine XS.iload X101.here hx rfl (hb hby dc0_52) rfl ?_
    refine XS.imul X101.here hx rfl (hb hby dc0_54) rfl ?_
    refine XS.lushr X101.here hx rfl (hb hby dc0_55) rfl ?_
    refine X101.ldc2Long hx hown (mvT hZ (hw _ (List.mem_of_getElem? (i := 6) rfl))) (g := (mkF m 56 #[.val (.ref a1), .val (.int (0 : Int32)), .val (.long (0 : Int64)), .second, .val (.ref b101), .val (.int (0 : Int32)), .val (.int (0 : Int32)), .unset, .unset, .unset, .unset, .unset, .unset, .unset, .unset, .unset, .unset] [(.long (0 : Int64))])) rfl (hb hby dc0_56) _ ?_
    refine XS.land X101.here hx rfl (hb hby dc0_59) rfl ?_
    show Steps p.tables e below (T101.setTop (mkF m 60 #[.val (.ref a1), .val (.int (0 : Int32)), .val (.long (0 : Int64)), .second, .val (.ref b101), .val (.int (0 : Int32)), .val (.int (0 : Int32)), .unset, .unset, .unset, .unset, .unset, .unset, .unset, .unset, .unset, .unset] [(.long (0 : Int64))])) _
    refine XS.lconst X101.here hx rfl (hb hby dc0_60) ?_
    refine XS.lcmp X101.here hx rfl (hb hby dc0_61) rfl ?_
    show Steps p.tables e below (T101.setTop (mkF m 62 #[.val (.ref a1), .val (.int (0 : Int32)), .val (.long (0 : Int64)), .second, .val (.ref b101), .val (.int (0 : Int32)), .val (.int (0 : Int32)), .unset, .unset, .unset, .unset, .unset, .unset, .unset, .unset, .unset, .unset] [(.int (0 : Int32))])) _
    refine XS.ifYes X101.here hx rfl (pc0 := 62) (pc' := 78) rfl (hb hby dc0_62) rfl (by decide) (by decide) (by decide) ?_
    refine XS.iinc X101.here hx rfl (hb hby dc0_78) rfl (l' := #[.val (.ref a1), .val (.int (0 : Int32)), .val (.long (0 : Int64)), .second, .val (.ref b101), .val (.int (0 : Int32)), .val (.int (1 : Int32)), .unset, .unset, .unset, .unset, .unset, .unset, .unset, .unset, .unset, .unset]) rfl ?_
    refine XS.goto X101.here hx rfl (pc0 := 81) (pc' := 42) rfl (hb hby dc0_81) (by decide) (by decide) ?_
    show Steps p.tables e below (T101.setTop (mkF m 42 #[.val (.ref a1), .val (.int (0 : Int32)), .val (.long (0 : Int64)), .second, .val (.ref b101), .val (.int (0 : Int32)), .val (.int (1 : Int32)), .unset, .unset, .unset, .unset, .unset, .unset, .unset, .unset, .unset, .unset] [])) _
    refine XS.iload X101.here hx rfl (hb hby dc0_42) rfl ?_
    refine XS.bipush X101.here hx rfl (hb hby dc0_44) ?_
    show Steps p.tables e below (T101.setTop (mkF m 46 #[.val (.ref a1), .val (.int (0 : Int32)), .val (.long (0 : Int64)), .second, .val (.ref b101), .val (.int (0 : Int32)), .val (.int (1 : Int32)), .unset, .unset, .unset, .unset, .unset, .unset, .unset, .unset, .unset, .unset] [(.int (8 : Int32)), (.int (1 : Int32))])) _
    refine XS.icmpNo X101.here hx rfl (hb hby dc0_46) rfl (by decide) ?_
    refine XS.lloadN X101.here hx rfl (hb hby dc0_49) rfl ?_
    refine XS.bipush X101.here hx rfl (hb hby dc0_50) ?_
    show Steps p.tables e below (T101.setTop (mkF m 52 #[.val (.ref a1), .val (.int (0 : Int32)), .val (.long (0 : Int64)), .second, .val (.ref b101), .val (.int (0 : Int32)), .val (.int (1 : Int32)), .unset, .unset, .unset, .unset, .unset, .unset, .unset, .unset, .unset, .unset] [(.int (8 : Int32)), (.long (0 : Int64))])) _
    refine XS.iload X101.here hx rfl (hb hby dc0_52) rfl ?_
    refine XS.imul X101.here hx rfl (hb hby dc0_54) rfl ?_
    refine XS.lushr X101.here hx rfl (hb hby dc0_55) rfl ?_
    refine X101.ldc2Long hx hown (mvT hZ (hw _ (List.mem_of_getElem? (i := 6) rfl))) (g := (mkF m 56 #[.val (.ref a1), .val (.int (0 : Int32)), .val (.long (0 : Int64)), .second, .val (.ref b101), .val (.int (0 : Int32)), .val (.int (1 : Int32)), .unset, .unset, .unset, .unset, .unset, .unset, .unset, .unset, .unset, .unset] [(.long (0 : Int64))])) rfl (hb hby dc0_56) _ ?_
    refine XS.land X101.here hx rfl (hb hby dc0_59) rfl ?_
    show Steps p.tables e below (T101.setTop (mkF m 60 #[.val (.ref a1), .val (.int (0 : Int32)), .val (.long (0 : Int64)), .second, .val (.ref b101), .val (.int (0 : Int32)), .val (.int (1 : Int32)), .unset, .unset, .unset, .unset, .unset, .unset, .unset, .unset, .unset, .unset] [(.long (0 : Int64))])) _
    refine XS.lconst X101.here hx rfl (hb hby dc0_60) ?_
    refine XS.lcmp X101.here hx rfl (hb hby dc0_61) rfl ?_
    show Steps p.tables e below (T101.setTop (mkF m 62 #[.val (.ref a1), .val (.int (0 : Int32)), .val (.long (0 : Int64)), .second, .val (.ref b101), .val (.int (0 : Int32)), .val (.int (1 : Int32)), .unset, .unset, .unset, .unset, .unset, .unset, .unset, .unset, .unset, .unset] [(.int (0 : Int32))])) _
    refine XS.ifYes X101.here hx rfl (pc0 := 62) (pc' := 78) rfl (hb hby dc0_62) rfl (by decide) (by decide) (by decide) ?_
    refine XS.iinc X101.here hx rfl (hb hby dc0_78) rfl (l' := #[.val (.ref a1), .val (.int (0 : Int32)), .val (.long (0 : Int64)), .second, .val (.ref b101), .val (.int (0 : Int32)), .val (.int (2 : Int32)), .unset, .unset, .unset, .unset, .unset, .unset, .unset, .unset, .unset, .unset]) rfl ?_
    refine XS.goto X101.here hx rfl (pc0 := 81) (pc' := 42) rfl (hb hby dc0_81) (by decide) (by decide) ?_
    show Steps p.tables e below (T101.setTop (mkF m 42 #[.val (.ref a1), .val (.int (0 : Int32)), .val (.long (0 : Int64)), .second, .val (.ref b101), .val (.int (0 : Int32)), .val (.int (2 : Int32)), .unset, .unset, .unset, .unset, .unset, .unset, .unset, .unset, .unset, .unset] [])) _
    refine XS.iload X101.here hx rfl (hb hby dc0_42) rfl ?_
    refine XS.bipush X101.here hx rfl (hb hby dc0_44) ?_
    show Steps p.tables e below (T101.setTop (mkF m 46 #[.val (.ref a1), .val (.int (0 : Int32)), .val (.long (0 : Int64)), .second, .val (.ref b101), .val (.int (0 : Int32)), .val (.int (2 : Int32)), .unset, .unset, .unset, .unset, .unset, .unset, .unset, .unset, .unset, .unset] [(.int (8 : Int32)), (.int (2 : Int32))])) _
    refine XS.icmpNo X101.here hx rfl (hb hby dc0_46) rfl (by decide) ?_
    refine XS.lloadN X101.here hx rfl (hb hby dc0_49) rfl ?_
    refine XS.bipush X101.here hx rfl (hb hby dc0_50) ?_
    show Steps p.tables e below (T101.setTop (mkF m 52 #[.val (.ref a1), .val (.int (0 : Int32)), .val (.long (0 : Int64)), .second, .val (.ref b101), .val (.int (0 : Int32)), .val (.int (2 : Int32)), .unset, .unset, .unset, .unset, .unset, .unset, .unset, .unset, .unset, .unset] [(.int (8 : Int32)), (.long (0 : Int64))])) _
    refine XS.iload X101.here hx rfl (hb hby dc0_52) rfl ?_
    refine XS.imul X101.here hx rfl (hb hby dc0_54) rfl ?_
    refine XS.lushr X101.here hx rfl (hb hby dc0_55) rfl ?_
    refine X101.ldc2Long hx hown (mvT hZ (hw _ (List.mem_of_getElem? (i := 6) rfl))) (g := (mkF m 56 #[.val (.ref a1), .val (.int (0 : Int32)), .val (.long (0 : Int64)), .second, .val (.ref b101), .val (.int (0 : Int32)), .val (.int (2 : Int32)), .unset, .unset, .unset, .unset, .unset, .unset, .unset, .unset, .unset, .unset] [(.long (0 : Int64))])) rfl (hb hby dc0_56) _ ?_
    refine XS.land X101.here hx rfl (hb hby dc0_59) rfl ?_
    show Steps p.tables e below (T101.setTop (mkF m 60 #[.val (.ref a1), .val (.int (0 : Int32)), .val (.long (0 : Int64)), .second, .val (.ref b101), .val (.int (0 : Int32)), .val (.int (2 : Int32)), .unset, .unset, .unset, .unset, .unset, .unset, .unset, .unset, .unset, .unset] [(.long (0 : Int64))])) _
    refine XS.lconst X101.here hx rfl (hb hby dc0_60) ?_
    refine XS.lcmp X101.here hx rfl (hb hby dc0_61) rfl ?_
    show Steps p.tables e below (T101.setTop (mkF m 62 #[.val (.ref a1), .val (.int (0 : Int32)), .val (.long (0 : Int64)), .second, .val (.ref b101), .val (.int (0 : Int32)), .val (.int (2 : Int32)), .unset, .unset, .unset, .unset, .unset, .unset, .unset, .unset, .unset, .unset] [(.int (0 : Int32))])) _
    refine XS.ifYes X101.here hx rfl (pc0 := 62) (pc' := 78) rfl (hb hby dc0_62) rfl (by decide) (by decide) (by decide) ?_
    refine XS.iinc X101.here hx rfl (hb hby dc0_78) rfl (l' := #[.val (.ref a1), .val (.int (0 : Int32)), .val (.long (0 : Int64)), .second, .val (.ref b101), .val (.int (0 : Int32)), .val (.int (3 : Int32)), .unset, .unset, .unset, .unset, .unset, .unset, .unset, .unset, .unset, .unset]) rfl ?_
    refine XS.goto X101.here hx rfl (pc0 := 81) (pc' := 42) rfl (hb hby dc0_81) (by decide) (by decide) ?_
    show Steps p.tables e below (T101.setTop (mkF m 42 #[.val (.ref a1), .val (.int (0 : Int32)), .val (.long (0 : Int64)), .second, .val (.ref b101), .val (.int (0 : Int32)), .val (.int (3 : Int32)), .unset, .unset, .unset, .unset, .unset, .unset, .unset, .unset, .unset, .unset] [])) _
    refine XS.iload X101.here hx rfl (hb hby dc0_42) rfl ?_
    refine XS.bipush X101.here hx rfl (hb hby dc0_44) ?_
    show Steps p.tables e below (T101.setTop (mkF m 46 #[.val (.ref a1), .val (.int (0 : Int32)), .val (.long (0 : Int64)), .second, .val (.ref b101), .val (.int (0 : Int32)), .val (.int (3 : Int32)), .unset, .unset, .unset, .unset, .unset, .unset, .unset, .unset, .unset, .unset] [(.int (8 : Int32)), (.int (3 : Int32))])) _
    refine XS.icmpNo X101.here hx rfl (hb hby dc0_46) rfl (by decide) ?_
    refine XS.lloadN X101.here hx rfl (hb hby dc0_49) rfl ?_
    refine XS.bipush X101.here hx rfl (hb hby dc0_50) ?_
    show Steps p.tables e below (T101.setTop (mkF m 52 #[.val (.ref a1), .val (.int (0 : Int32)), .val (.long (0 : Int64)), .second, .val (.ref b101), .val (.int (0 : Int32)), .val (.int (3 : Int32)), .unset, .unset, .unset, .unset, .unset, .unset, .unset, .unset, .unset, .unset] [(.int (8 : Int32)), (.long (0 : Int64))])) _
    refine XS.iload X101.here hx rfl (hb hby dc0_52) rfl ?_
    refine XS.imul X101.here hx rfl (hb hby dc0_54) rfl ?_
    refine XS.lushr X101.here hx rfl (hb hby dc0_55) rfl ?_
    refine X101.ldc2Long hx hown (mvT hZ (hw _ (List.mem_of_getElem? (i := 6) rfl))) (g := (mkF m 56 #[.val (.ref a1), .val (.int (0 : Int32)), .val (.long (0 : Int64)), .second, .val (.ref b101), .val (.int (0 : Int32)), .val (.int (3 : Int32)), .unset, .unset, .unset, .unset, .unset, .unset, .unset, .unset, .unset, .unset] [(.long (0 : Int64))])) rfl (hb hby dc0_56) _ ?_
    refine XS.land X101.here hx rfl (hb hby dc0_59) rfl ?_
    show Steps p.tables e below (T101.setTop (mkF m 60 #[.val (.ref a1), .val (.int (0 : Int32)), .val (.long (0 : Int64)), .second, .val (.ref b101), .val (.int (0 : Int32)), .val (.int (3 : Int32)), .unset, .unset, .unset, .unset, .unset, .unset, .unset, .unset, .unset, .unset] [(.long (0 : Int64))])) _
    refine XS.lconst X101.here hx rfl (hb hby dc0_60) ?_
    refine XS.lcmp X101.here hx rfl (hb hby dc0_61) rfl ?_
    show Steps p.tables e below (T101.setTop (mkF m 62 #[.val (.ref a1), .val (.int (0 : Int32)), .val (.long (0 : Int64)), .second, .val (.ref b101), .val (.int (0 : Int32)), .val (.int (3 : Int32)), .unset, .unset, .unset, .unset, .unset, .unset, .unset, .unset, .unset, .unset] [(.int (0 : Int32))])) _
    refine XS.ifYes X101.here hx rfl (pc0 := 62) (pc' := 78) rfl (hb hby dc0_62) rfl (by decide) (by decide) (by decide) ?_
    refine XS.iinc X101.here hx rfl (hb hby dc0_78) rfl (l' := #[.val (.ref a1), .val (.int (0 : Int32)), .val (.long (0 : Int64)), .second, .val (.ref b101), .val (.int (0 : Int32)), .val (.int (4 : Int32)), .unset, .unset, .unset, .unset, .unset, .unset, .unset, .unset, .unset, .unset]) rfl ?_
    refine XS.goto X101.here hx rfl (pc0 := 81) (pc' := 42) rfl (hb hby dc0_81) (by decide) (by decide) ?_
    show Steps p.tables e below (T101.setTop (mkF m 42 #[.val (.ref a1), .val (.int (0 : Int32)), .val (.long (0 : Int64)), .second, .val (.ref b101), .val (.int (0 : Int32)), .val (.int (4 : Int32)), .unset, .unset, .unset, .unset, .unset, .unset, .unset, .unset, .unset, .unset] [])) _
    refine XS.iload X101.here hx rfl (hb hby dc0_42) rfl ?_
    refine XS.bipush X101.here hx rfl (hb hby dc0_44) ?_
    show Steps p.tables e below (T101.setTop (mkF m 46 #[.val (.ref a1), .val (.int (0 : Int32)), .val (.long (0 : Int64)), .second, .val (.ref b101), .val (.int (0 : Int32)), .val (.int (4 : Int32)), .unset, .unset, .unset, .unset, .unset, .unset, .unset, .unset, .unset, .unset] [(.int (8 : Int32)), (.int (4 : Int32))])) _
    refine XS.icmpNo X101.here hx rfl (hb hby dc0_46) rfl (by decide) ?_
    refine XS.lloadN X101.here hx rfl (hb hby dc0_49) rfl ?_
    refine XS.bipush X101.here hx rfl (hb hby dc0_50) ?_
    show Steps p.tables e below (T101.setTop (mkF m 52 #[.val (.ref a1), .val (.int (0 : Int32)), .val (.long (0 : Int64)), .second, .val (.ref b101), .val (.int (0 : Int32)), .val (.int (4 : Int32)), .unset, .unset, .unset, .unset, .unset, .unset, .unset, .unset, .unset, .unset] [(.int (8 : Int32)), (.long (0 : Int64))])) _
    refine XS.iload X101.here hx rfl (hb hby dc0_52) rfl ?_
    refine XS.imul X101.here hx rfl (hb hby dc0_54) rfl ?_
    refine XS.lushr X101.here hx rfl (hb hby dc0_55) rfl ?_
    refine X101.ldc2Long hx hown (mvT hZ (hw _ (List.mem_of_getElem? (i := 6) rfl))) (g := (mkF m 56 #[.val (.ref a1), .val (.int (0 : Int32)), .val (.long (0 : Int64)), .second, .val (.ref b101), .val (.int (0 : Int32)), .val (.int (4 : Int32)), .unset, .unset, .unset, .unset, .unset, .unset, .unset, .unset, .unset, .unset] [(.long (0 : Int64))])) rfl (hb hby dc0_56) _ ?_
    refine XS.land X101.here hx rfl (hb hby dc0_59) rfl ?_
    show Steps p.tables e below (T101.setTop (mkF m 60 #[.val (.ref a1), .val (.int (0 : Int32)), .val (.long (0 : Int64)), .second, .val (.ref b101), .val (.int (0 : Int32)), .val (.int (4 : Int32)), .unset, .unset, .unset, .unset, .unset, .unset, .unset, .unset, .unset, .unset] [(.long (0 : Int64))])) _
    refine XS.lconst X101.here hx rfl (hb hby dc0_60) ?_
    refine XS.lcmp X101.here hx rfl (hb hby dc0_61) rfl ?_
    show Steps p.tables e below (T101.setTop (mkF m 62 #[.val (.ref a1), .val (.int (0 : Int32)), .val (.long (0 : Int64)), .second, .val (.ref b101), .val (.int (0 : Int32)), .val (.int (4 : Int32)), .unset, .unset, .unset, .unset, .unset, .unset, .unset, .unset, .unset, .unset] [(.int (0 : Int32))])) _
    refine XS.ifYes X101.here hx rfl (pc0 := 62) (pc' := 78) rfl (hb hby dc0_62) rfl (by decide) (by decide) (by decide) ?_
    refine XS.iinc X101.here hx rfl (hb hby dc0_78) rfl (l' := #[.val (.ref a1), .val (.int (0 : Int32)), .val (.long (0 : Int64)), .second, .val (.ref b101), .val (.int (0 : Int32)), .val (.int (5 : Int32)), .unset, .unset, .unset, .unset, .unset, .unset, .unset, .unset, .unset, .unset]) rfl ?_
    refine XS.goto X101.here hx rfl (pc0 := 81) (pc' := 42) rfl (hb hby dc0_81) (by decide) (by decide) ?_
    show Steps p.tables e below (T101.setTop (mkF m 42 #[.val (.ref a1), .val (.int (0 : Int32)), .val (.long (0 : Int64)), .second, .val (.ref b101), .val (.int (0 : Int32)), .val (.int (5 : Int32)), .unset, .unset, .unset, .unset, .unset, .unset, .unset, .unset, .unset, .unset] [])) _
    refine XS.iload X101.here hx rfl (hb hby dc0_42) rfl ?_
    refine XS.bipush X101.here hx rfl (hb hby dc0_44) ?_
    show Steps p.tables e below (T101.setTop (mkF m 46 #[.val (.ref a1), .val (.int (0 : Int32)), .val (.long (0 : Int64)), .second, .val (.ref b101), .val (.int (0 : Int32)), .val (.int (5 : Int32)), .unset, .unset, .unset, .unset, .unset, .unset, .unset, .unset, .unset, .unset] [(.int (8 : Int32)), (.int (5 : Int32))])) _
    refine XS.icmpNo X101.here hx rfl (hb hby dc0_46) rfl (by decide) ?_
    refine XS.lloadN X101.here hx rfl (hb hby dc0_49) rfl ?_
    refine XS.bipush X101.here hx rfl (hb hby dc0_50) ?_
    show Steps p.tables e below (T101.setTop (mkF m 52 #[.val (.ref a1), .val (.int (0 : Int32)), .val (.long (0 : Int64)), .second, .val (.ref b101), .val (.int (0 : Int32)), .val (.int (5 : Int32)), .unset, .unset, .unset, .unset, .unset, .unset, .unset, .unset, .unset, .unset] [(.int (8 : Int32)), (.long (0 : Int64))])) _
    refine XS.iload X101.here hx rfl (hb hby dc0_52) rfl ?_
    refine XS.imul X101.here hx rfl (hb hby dc0_54) rfl ?_
    refine XS.lushr X101.here hx rfl (hb hby dc0_55) rfl ?_
    refine X101.ldc2Long hx hown (mvT hZ (hw _ (List.mem_of_getElem? (i := 6) rfl))) (g := (mkF m 56 #[.val (.ref a1), .val (.int (0 : Int32)), .val (.long (0 : Int64)), .second, .val (.ref b101), .val (.int (0 : Int32)), .val (.int (5 : Int32)), .unset, .unset, .unset, .unset, .unset, .unset, .unset, .unset, .unset, .unset] [(.long (0 : Int64))])) rfl (hb hby dc0_56) _ ?_
    refine XS.land X101.here hx rfl (hb hby dc0_59) rfl ?_
    show Steps p.tables e below (T101.setTop (mkF m 60 #[.val (.ref a1), .val (.int (0 : Int32)), .val (.long (0 : Int64)), .second, .val (.ref b101), .val (.int (0 : Int32)), .val (.int (5 : Int32)), .unset, .unset, .unset, .unset, .unset, .unset, .unset, .unset, .unset, .unset] [(.long (0 : Int64))])) _
    refine XS.lconst X101.here hx rfl (hb hby dc0_60) ?_
    refine XS.lcmp X101.here hx rfl (hb hby dc0_61) rfl ?_
    show Steps p.tables e below (T101.setTop (mkF m 62 #[.val (.ref a1), .val (.int (0 : Int32)), .val (.long (0 : Int64)), .second, .val (.ref b101), .val (.int (0 : Int32)), .val (.int (5 : Int32)), .unset, .unset, .unset, .unset, .unset, .unset, .unset, .unset, .unset, .unset] [(.int (0 : Int32))])) _
    refine XS.ifYes X101.here hx rfl (pc0 := 62) (pc' := 78) rfl (hb hby dc0_62) rfl (by decide) (by decide) (by decide) ?_
    refine XS.iinc X101.here hx rfl (hb hby dc0_78) rfl (l' := #[.val (.ref a1), .val (.int (0 : Int32)), .val (.long (0 : Int64)), .second, .val (.ref b101), .val (.int (0 : Int32)), .val (.int (6 : Int32)), .unset, .unset, .unset, .unset, .unset, .unset, .unset, .unset, .unset, .unset]) rfl ?_
    refine XS.goto X101.here hx rfl (pc0 := 81) (pc' := 42) rfl (hb hby dc0_81) (by decide) (by decide) ?_
    show Steps p.tables e below (T101.setTop (mkF m 42 #[.val (.ref a1), .val (.int (0 : Int32)), .val (.long (0 : Int64)), .second, .val (.ref b101), .val (.int (0 : Int32)), .val (.int (6 : Int32)), .unset, .unset, .unset, .unset, .unset, .unset, .unset, .unset, .unset, .unset] [])) _
    refine XS.iload X101.here hx rfl (hb hby dc0_42) rfl ?_
    refine XS.bipush X101.here hx rfl (hb hby dc0_44) ?_
    show Steps p.tables e below (T101.setTop (mkF m 46 #[.val (.ref a1), .val (.int (0 : Int32)), .val (.long (0 : Int64)), .second, .val (.ref b101), .val (.int (0 : Int32)), .val (.int (6 : Int32)), .unset, .unset, .unset, .unset, .unset, .unset, .unset, .unset, .unset, .unset] [(.int (8 : Int32)), (.int (6 : Int32))])) _
    refine XS.icmpNo X101.here hx rfl (hb hby dc0_46) rfl (by decide) ?_
    refine XS.lloadN X101.here hx rfl (hb hby dc0_49) rfl ?_
    refine XS.bipush X101.here hx rfl (hb hby dc0_50) ?_
    show Steps p.tables e below (T101.setTop (mkF m 52 #[.val (.ref a1), .val (.int (0 : Int32)), .val (.long (0 : Int64)), .second, .val (.ref b101), .val (.int (0 : Int32)), .val (.int (6 : Int32)), .unset, .unset, .unset, .unset, .unset, .unset, .unset, .unset, .unset, .unset] [(.int (8 : Int32)), (.long (0 : Int64))])) _
    refine XS.iload X101.here hx rfl (hb hby dc0_52) rfl ?_
    refine XS.imul X101.here hx rfl (hb hby dc0_54) rfl ?_
    refine XS.lushr X101.here hx rfl (hb hby dc0_55) rfl ?_
    refine X101.ldc2Long hx hown (mvT hZ (hw _ (List.mem_of_getElem? (i := 6) rfl))) (g := (mkF m 56 #[.val (.ref a1), .val (.int (0 : Int32)), .val (.long (0 : Int64)), .second, .val (.ref b101), .val (.int (0 : Int32)), .val (.int (6 : Int32)), .unset, .unset, .unset, .unset, .unset, .unset, .unset, .unset, .unset, .unset] [(.long (0 : Int64))])) rfl (hb hby dc0_56) _ ?_
    refine XS.land X101.here hx rfl (hb hby dc0_59) rfl ?_
    show Steps p.tables e below (T101.setTop (mkF m 60 #[.val (.ref a1), .val (.int (0 : Int32)), .val (.long (0 : Int64)), .second, .val (.ref b101), .val (.int (0 : Int32)), .val (.int (6 : Int32)), .unset, .unset, .unset, .unset, .unset, .unset, .unset, .unset, .unset, .unset] [(.long (0 : Int64))])) _
    refine XS.lconst X101.here hx rfl (hb hby dc0_60) ?_
    refine XS.lcmp X101.here hx rfl (hb hby dc0_61) rfl ?_
    show Steps p.tables e below (T101.setTop (mkF m 62 #[.val (.ref a1), .val (.int (0 : Int32)), .val (.long (0 : Int64)), .second, .val (.ref b101), .val (.int (0 : Int32)), .val (.int (6 : Int32)), .unset, .unset, .unset, .unset, .unset, .unset, .unset, .unset, .unset, .unset] [(.int (0 : Int32))])) _
    refine XS.ifYes X101.here hx rfl (pc0 := 62) (pc' := 78) rfl (hb hby dc0_62) rfl (by decide) (by decide) (by decide) ?_
    refine XS.iinc X101.here hx rfl (hb hby dc0_78) rfl (l' := #[.val (.ref a1), .val (.int (0 : Int32)), .val (.long (0 : Int64)), .second, .val (.ref b101), .val (.int (0 : Int32)), .val (.int (7 : Int32)), .unset, .unset, .unset, .unset, .unset, .unset, .unset, .unset, .unset, .unset]) rfl ?_
    refine XS.goto X101.here hx rfl (pc0 := 81) (pc' := 42) rfl (hb hby dc0_81) (by decide) (by decide) ?_
    show Steps p.tables e below (T101.setTop (mkF m 42 #[.val (.ref a1), .val (.int (0 : Int32)), .val (.long (0 : Int64)), .second, .val (.ref b101), .val (.int (0 : Int32)), .val (.int (7 : Int32)), .unset, .unset, .unset, .unset, .unset, .unset, .unset, .unset, .unset, .unset] [])) _
    refine XS.iload X101.here hx rfl (hb hby dc0_42) rfl ?_
    refine XS.bipush X101.here hx rfl (hb hby dc0_44) ?_
    show Steps p.tables e below (T101.setTop (mkF m 46 #[.val (.ref a1), .val (.int (0 : Int32)), .val (.long (0 : Int64)), .second, .val (.ref b101), .val (.int (0 : Int32)), .val (.int (7 : Int32)), .unset, .unset, .unset, .unset, .unset, .unset, .unset, .unset, .unset, .unset] [(.int (8 : Int32)), (.int (7 : Int32))])) _
    refine XS.icmpNo X101.here hx rfl (hb hby dc0_46) rfl (by decide) ?_
    refine XS.lloadN X101.here hx rfl (hb hby dc0_49) rfl ?_
    refine XS.bipush X101.here hx rfl (hb hby dc0_50) ?_
    show Steps p.tables e below (T101.setTop (mkF m 52 #[.val (.ref a1), .val (.int (0 : Int32)), .val (.long (0 : Int64)), .second, .val (.ref b101), .val (.int (0 : Int32)), .val (.int (7 : Int32)), .unset, .unset, .unset, .unset, .unset, .unset, .unset, .unset, .unset, .unset] [(.int (8 : Int32)), (.long (0 : Int64))])) _
    refine XS.iload X101.here hx rfl (hb hby dc0_52) rfl ?_
    refine XS.imul X101.here hx rfl (hb hby dc0_54) rfl ?_
    refine XS.lushr X101.here hx rfl (hb hby dc0_55) rfl ?_
    refine X101.ldc2Long hx hown (mvT hZ (hw _ (List.mem_of_getElem? (i := 6) rfl))) (g := (mkF m 56 #[.val (.ref a1), .val (.int (0 : Int32)), .val (.long (0 : Int64)), .second, .val (.ref b101), .val (.int (0 : Int32)), .val (.int (7 : Int32)), .unset, .unset, .unset, .unset, .unset, .unset, .unset, .unset, .unset, .unset] [(.long (0 : Int64))])) rfl (hb hby dc0_56) _ ?_
    refine XS.land X101.here hx rfl (hb hby dc0_59) rfl ?_
    show Steps p.tables e below (T101.setTop (mkF m 60 #[.val (.ref a1), .val (.int (0 : Int32)), .val (.long (0 : Int64)), .second, .val (.ref b101), .val (.int (0 : Int32)), .val (.int (7 : Int32)), .unset, .unset, .unset, .unset, .unset, .unset, .unset, .unset, .unset, .unset] [(.long (0 : Int64))])) _
    refine XS.lconst X101.here hx rfl (hb hby dc0_60) ?_
    refine XS.lcmp X101.here hx rfl (hb hby dc0_61) rfl ?_
    show Steps p.tables e below (T101.setTop (mkF m 62 #[.val (.ref a1), .val (.int (0 : Int32)), .val (.long (0 : Int64)), .second, .val (.ref b101), .val (.int (0 : Int32)), .val (.int (7 : Int32)), .unset, .unset, .unset, .unset, .unset, .unset, .unset, .unset, .unset, .unset] [(.int (0 : Int32))])) _
    refine XS.ifYes X101.here hx rfl (pc0 := 62) (pc' := 78) rfl (hb hby dc0_62) rfl (by decide) (by decide) (by decide) ?_
    refine XS.iinc X101.here hx rfl (hb hby dc0_78) rfl (l' := #[.val (.ref a1), .val (.int (0 : Int32)), .val (.long (0 : Int64)), .second, .val (.ref b101), .val (.int (0 : Int32)), .val (.int (8 : Int32)), .unset, .unset, .unset, .unset, .unset, .unset, .unset, .unset, .unset, .unset]) rfl ?_
    refine XS.goto X101.here hx rfl (pc0 := 81) (pc' := 42) rfl (hb hby dc0_81) (by decide) (by decide) ?_
    show Steps p.tables e below (T101.setTop (mkF m 42 #[.val (.ref a1), .val (.int (0 : Int32)), .val (.long (0 : Int64)), .second, .val (.ref b101), .val (.int (0 : Int32)), .val (.int (8 : Int32)), .unset, .unset, .unset, .unset, .unset, .unset, .unset, .unset, .unset, .unset] [])) _
    refine XS.iload X101.here hx rfl (hb hby dc0_42) rfl ?_
    refine XS.bipush X101.here hx rfl (hb hby dc0_44) ?_
    show Steps p.tables e below (T101.setTop (mkF m 46 #[.val (.ref a1), .val (.int (0 : Int32)), .val (.long (0 : Int64)), .second, .val (.ref b101), .val (.int (0 : Int32)), .val (.int (8 : Int32)), .unset, .unset, .unset, .unset, .unset, .unset, .unset, .unset, .unset, .unset] [(.int (8 : Int32)), (.int (8 : Int32))])) _
    refine XS.icmpYes X101.here hx rfl (pc0 := 46) (pc' := 84) rfl (hb hby dc0_46) rfl (by decide) (by decide) (by decide) ?_
    refine XS.iload X101.here hx rfl (hb hby dc0_84) rfl ?_
    refine XS.sipush X101.here hx rfl (hb hby dc0_86) ?_
    show Steps p.tables e below (T101.setTop (mkF m 89 #[.val (.ref a1), .val (.int (0 : Int32)), .val (.long (0 : Int64)), .second, .val (.ref b101), .val (.int (0 : Int32)), .val (.int (8 : Int32)), .unset, .unset, .unset, .unset, .unset, .unset, .unset, .unset, .unset, .unset] [(.int (256 : Int32)), (.int (0 : Int32))])) _
    refine st103 _ ?_
    refine XS.astore X103.here hx rfl (hb hby dc0_93) rfl rfl (l' := #[.val (.ref a1), .val (.int (0 : Int32)), .val (.long (0 : Int64)), .second, .val (.ref b101), .val (.int (0 : Int32)), .val (.ref b103), .unset, .unset, .unset, .unset, .unset, .unset, .unset, .unset, .unset, .unset]) rfl ?_
    refine XS.iconst X103.here hx rfl (hb hby dc0_95) ?_
    refine XS.istore X103.here hx rfl (hb hby dc0_96) rfl (l' := #[.val (.ref a1), .val (.int (0 : Int32)), .val (.long (0 : Int64)), .second, .val (.ref b101), .val (.int (0 : Int32)), .val (.ref b103), .val (.int (0 : Int32)), .unset, .unset, .unset, .unset, .unset, .unset, .unset, .unset, .unset]) rfl ?_
    refine XS.iload X103.here hx rfl (hb hby dc0_98) rfl ?_
    show Steps p.tables e below (T103.setTop (mkF m 100 #[.val (.ref a1), .val (.int (0 : Int32)), .val (.long (0 : Int64)), .second, .val (.ref b101), .val (.int (0 : Int32)), .val (.ref b103), .val (.int (0 : Int32)), .unset, .unset, .unset, .unset, .unset, .unset, .unset, .unset, .unset] [(.int (0 : Int32))])) _
    refine XS.iloadN X103.here hx rfl (hb hby dc0_100) rfl ?_
    show Steps p.tables e below (T103.setTop (mkF m 101 #[.val (.ref a1), .val (.int (0 : Int32)), .val (.long (0 : Int64)), .second, .val (.ref b101), .val (.int (0 : Int32)), .val (.ref b103), .val (.int (0 : Int32)), .unset, .unset, .unset, .unset, .unset, .unset, .unset, .unset, .unset] [(.int (0 : Int32)), (.int (0 : Int32))])) _
    refine XS.icmpYes X103.here hx rfl (pc0 := 101) (pc' := 161) rfl (hb hby dc0_101) rfl (by decide) (by decide) (by decide) ?_
    refine XS.aloadN X103.here hx rfl (hb hby dc0_161) rfl rfl ?_
    refine XS.astore X103.here hx rfl (hb hby dc0_162) rfl rfl (l' := #[.val (.ref a1), .val (.int (0 : Int32)), .val (.long (0 : Int64)), .second, .val (.ref b101), .val (.int (0 : Int32)), .val (.ref b103), .val (.ref a1), .unset, .unset, .unset, .unset, .unset, .unset, .unset, .unset, .unset]) rfl ?_
    refine XS.iload X103.here hx rfl (hb hby dc0_164) rfl ?_
    show Steps p.tables e below (T103.setTop (mkF m 166 #[.val (.ref a1), .val (.int (0 : Int32)), .val (.long (0 : Int64)), .second, .val (.ref b101), .val (.int (0 : Int32)), .val (.ref b103), .val (.ref a1), .unset, .unset, .unset, .unset, .unset, .unset, .unset, .unset, .unset] [(.int (0 : Int32))])) _
    refine XS.ifNo X103.here hx rfl (hb hby dc0_166) rfl (by decide) ?_
    refine XS.aconstNull X103.here hx rfl (hb hby dc0_169) ?_
    refine XS.goto X103.here hx rfl (pc0 := 170) (pc' := 177) rfl (hb hby dc0_170) (by decide) (by decide) ?_
    refine XS.astore X103.here hx rfl (hb hby dc0_177) rfl rfl (l' := #[.val (.ref a1), .val (.int (0 : Int32)), .val (.long (0 : Int64)), .second, .val (.ref b101), .val (.int (0 : Int32)), .val (.ref b103), .val (.ref a1), .val .null, .unset, .unset, .unset, .unset, .unset, .unset, .unset, .unset]) rfl ?_
    refine XS.iconst X103.here hx rfl (hb hby dc0_179) ?_
    show Steps p.tables e below (T103.setTop (mkF m 180 #[.val (.ref a1), .val (.int (0 : Int32)), .val (.long (0 : Int64)), .second, .val (.ref b101), .val (.int (0 : Int32)), .val (.ref b103), .val (.ref a1), .val .null, .unset, .unset, .unset, .unset, .unset, .unset, .unset, .unset] [(.int (0 : Int32))])) _
    refine XS.istore X103.here hx rfl (hb hby dc0_180) rfl (l' := #[.val (.ref a1), .val (.int (0 : Int32)), .val (.long (0 : Int64)), .second, .val (.ref b101), .val (.int (0 : Int32)), .val (.ref b103), .val (.ref a1), .val .null, .val (.int (0 : Int32)), .unset, .unset, .unset, .unset, .unset, .unset, .unset]) rfl ?_
    refine XS.iload X103.here hx rfl (hb hby dc0_182) rfl ?_
    refine XS.iload X103.here hx rfl (hb hby dc0_184) rfl ?_
    show Steps p.tables e below (T103.setTop (mkF m 186 #[.val (.ref a1), .val (.int (0 : Int32)), .val (.long (0 : Int64)), .second, .val (.ref b101), .val (.int (0 : Int32)), .val (.ref b103), .val (.ref a1), .val .null, .val (.int (0 : Int32)), .unset, .unset, .unset, .unset, .unset, .unset, .unset] [(.int (0 : Int32)), (.int (0 : Int32))])) _
    refine XS.icmpYes X103.here hx rfl (pc0 := 186) (pc' := 335) rfl (hb hby dc0_186) rfl (by decide) (by decide) (by decide) ?_
    refine XS.aload X103.here hx rfl (hb hby dc0_335) rfl rfl ?_
    show Steps p.tables e below (T103.setTop (mkF m 337 #[.val (.ref a1), .val (.int (0 : Int32)), .val (.long (0 : Int64)), .second, .val (.ref b101), .val (.int (0 : Int32)), .val (.ref b103), .val (.ref a1), .val .null, .val (.int (0 : Int32)), .unset, .unset, .unset, .unset, .unset, .unset, .unset] [(.ref a1)])) _
    exact retOut X103 hx (t := (.array .long)) Bd.returns rfl (Or.inr (Or.inr (Or.inr (Or.inr ⟨rfl, rfl, rfl⟩)))) (hb hby dc0_337) hr
  · show Q_s Z (fun _ => True) n0 _ T103.heap _
    rw [e103]
    exact ⟨_, f1, rfl, N0, O105, f106, trivial⟩
theorem dc0_11 : decode prog_98_method_19_code 11 = .ok (.lload_n 2, 1) := by decide +kernel
theorem dc0_12 : decode prog_98_method_19_code 12 = .ok (.aload_n 0, 1) := by decide +kernel
theorem dc0_13 : decode prog_98_method_19_code 13 = .ok (.iconst 2, 1) := by decide +kernel
theorem dc0_14 : decode prog_98_method_19_code 14 = .ok (.iload 4, 2) := by decide +kernel
theorem dc0_16 : decode prog_98_method_19_code 16 = .ok (.imul, 1) := by decide +kernel
theorem dc0_17 : decode prog_98_method_19_code 17 = .ok (.laload, 1) := by decide +kernel
theorem dc0_18 : decode prog_98_method_19_code 18 = .ok (.aload_n 0, 1) := by decide +kernel
theorem dc0_19 : decode prog_98_method_19_code 19 = .ok (.iconst 0, 1) := by decide +kernel
theorem dc0_20 : decode prog_98_method_19_code 20 = .ok (.laload, 1) := by decide +kernel
theorem dc0_21 : decode prog_98_method_19_code 21 = .ok (.lxor, 1) := by decide +kernel
theorem dc0_22 : decode prog_98_method_19_code 22 = .ok (.lor, 1) := by decide +kernel
theorem dc0_23 : decode prog_98_method_19_code 23 = .ok (.lstore_n 2, 1) := by decide +kernel
theorem dc0_24 : decode prog_98_method_19_code 24 = .ok (.iinc 4 1, 3) := by decide +kernel
theorem dc0_27 : decode prog_98_method_19_code 27 = .ok (.goto (-22), 3) := by decide +kernel
theorem dc0_104 : decode prog_98_method_19_code 104 = .ok (.aload_n 0, 1) := by decide +kernel
theorem dc0_105 : decode prog_98_method_19_code 105 = .ok (.iconst 2, 1) := by decide +kernel
theorem dc0_106 : decode prog_98_method_19_code 106 = .ok (.iload 7, 2) := by decide +kernel
theorem dc0_108 : decode prog_98_method_19_code 108 = .ok (.imul, 1) := by decide +kernel
theorem dc0_109 : decode prog_98_method_19_code 109 = .ok (.laload, 1) := by decide +kernel
theorem dc0_110 : decode prog_98_method_19_code 110 = .ok (.ldc2_w 208, 3) := by decide +kernel
theorem dc0_113 : decode prog_98_method_19_code 113 = .ok (.lxor, 1) := by decide +kernel
theorem dc0_114 : decode prog_98_method_19_code 114 = .ok (.lstore 8, 2) := by decide +kernel
theorem dc0_116 : decode prog_98_method_19_code 116 = .ok (.iconst 0, 1) := by decide +kernel
theorem dc0_117 : decode prog_98_method_19_code 117 = .ok (.istore 10, 2) := by decide +kernel
theorem dc0_155 : decode prog_98_method_19_code 155 = .ok (.iinc 7 1, 3) := by decide +kernel
theorem dc0_158 : decode prog_98_method_19_code 158 = .ok (.goto (-60), 3) := by decide +kernel
set_option maxRecDepth 65536 in
set_option maxHeartbeats 40000000 in
theorem rmS1 (l : Launch) (Z : State) (a0 : Array Value) (hw : ∀ d ∈ tables_1, d.before a0 Z = true) (ws : List Jvm.Cond) (a1 : Addr) (f1 : Int32 → Int64) (k0 k1 k2 w0 : Int64) (h0 : Heap) (n0 : Nat) (O0 : Old Z n0 h0) (LP : Lv Z h0 a1 6 f1) (g1 : n0 ≤ a1) (hf0 : f1 (0 : Int32) = k0) (hf1 : f1 (1 : Int32) = (k0 ^^^ w0)) (hf2 : f1 (2 : Int32) = k1) (hf3 : f1 (3 : Int32) = (k1 ^^^ w0)) (hf4 : f1 (4 : Int32) = k2) (hf5 : f1 (5 : Int32) = (k2 ^^^ w0)) :
    MetFree l (⟨"com/example/keyfold/keyfold/SortedRows", "sort", "([JI)[J"⟩ : MethodName) (head1 (Jvm.Cond.code (⟨"com/example/keyfold/keyfold/SortedRows", "sort", "([JI)[J"⟩ : MethodName) prog_98_method_19_code 17 (some (.array .long)) :: ws) ({ frames := 0, cells := 2, slots := 8, locals := 0 } : Room)) (fun a U => a = #[(.ref a1), (.int (1 : Int32))] ∧ Z.Warmed39 U.vm ∧ U.heap = h0) (fun _ _ _ _ _ => True) (fun _ U o U' => ∃ v L, o = .returned v ∧ Q_s Z (fun f => f 0 = k0 ∧ f 1 = k0 ^^^ w0) n0 v U'.heap L ∧ FrameEnd U o U' L ({ frames := 0, cells := 2, slots := 8, locals := 0 } : Room).cells ({ frames := 0, cells := 2, slots := 8, locals := 0 } : Room).slots) := by
  refine MetFree.of_bodySF (plainFor_of_name pn_0) hisR ?_
  intro p e s m args below meth c s₁ Bd hml0 hP hK
  obtain ⟨rfl, hZ, hh⟩ := hP
  have hx := Bd.exec
  have hby := Bd.bytes
  have hml : c.maxLocals = 17 := hml0
  have hown : s.vm.findClass "com/example/keyfold/keyfold/SortedRows" = some m.cls := findClass_of_methodNamed Bd.named
  have hnm := (name_of_methodNamed Bd.named Bd.method).1
  have X0 : Stand p l e ({ frames := 0, cells := 2, slots := 8, locals := 0 } : Room) s m #[(.ref a1), (.int (1 : Int32))] below meth c s₁ [] 0 0 := Stand.of_body Bd
  have e0 : s₁.heap = h0 := by rw [← hh, Bd.state]; rfl
  have N0 := Fr.nil n0
  have pre0 : ∀ t, Steps p.tables e below (s₁.setTop (mkF m 0 #[.val (.ref a1), .val (.int (1 : Int32)), .unset, .unset, .unset, .unset, .unset, .unset, .unset, .unset, .unset, .unset, .unset, .unset, .unset, .unset, .unset] [])) t → Steps p.tables e below (s₁.setTop (entryFrame m #[(.ref a1), (.int (1 : Int32))] 17)) t := fun t k => castTop (ef_0 m a1 (1 : Int32)) k
  obtain ⟨cl101, Ar101, S101, H101⟩ := id LP
  have hin101 : ¬ ((0 : Int32) < 0 ∨ cl101.slots.size ≤ ((0 : Int32)).toNatClampNeg) := by rw [S101]; exact (by decide)
  have hat101 : cl101.slots[((0 : Int32)).toNatClampNeg]? = some (.long (f1 (0 : Int32))) := H101 _ hin101
  obtain ⟨cl102, Ar102, S102, H102⟩ := id LP
  have hin102 : ¬ ((0 : Int32) < 0 ∨ cl102.slots.size ≤ ((0 : Int32)).toNatClampNeg) := by rw [S102]; exact (by decide)
  have hat102 : cl102.slots[((0 : Int32)).toNatClampNeg]? = some (.long (f1 (0 : Int32))) := H102 _ hin102
  obtain ⟨T103, h103, k103, X103, e103, E103, A103, st103⟩ := newP X0 hx hZ (hw _ (List.mem_of_getElem? (i := 5) rfl)) e0 (g := (mkF m 32 #[.val (.ref a1), .val (.int (1 : Int32)), .val (.long (0 : Int64)), .second, .val (.int (1 : Int32)), .unset, .unset, .unset, .unset, .unset, .unset, .unset, .unset, .unset, .unset, .unset, .unset] [(.int (8 : Int32))])) rfl (hb hby dc0_32) rfl (by decide) (cap := 8) (by decide) (by decide) (by decide) (by decide)
  obtain ⟨b103, g103⟩ : ∃ z, z = h0.size := ⟨_, rfl⟩
  rw [← g103] at A103 st103
  have gb103 : n0 ≤ b103 := by rw [g103, ← O0.1]; exact O0.2.1
  have ne103_a1 : a1 ≠ b103 := by rw [g103]; exact Nat.ne_of_lt (LP).lt
  have V103 : Arv Z h103 b103 k103 .int (8 : Int32) [(.int (0 : Int32)), (.int (0 : Int32)), (.int (0 : Int32)), (.int (0 : Int32)), (.int (0 : Int32)), (.int (0 : Int32)), (.int (0 : Int32)), (.int (0 : Int32))] (.int (0 : Int32)) := (Arv.new A103 (by decide)).pad (pad_rep [] (.int (0 : Int32)) 8)
  have O104 : Old Z n0 h103 := (O0.ext E103)
  obtain ⟨T105, h105, k105, kc105, X105_, e105, E105, A105, -, -, I105, st105⟩ := gridM X103 hx hZ hown (C := "[I") (ad := "[[I") (ty := .int) (by first | rfl | decide) (by first | rfl | decide) (hw _ (List.mem_of_getElem? (i := 7) rfl)) (hw _ (List.mem_of_getElem? (i := 8) rfl)) (hw _ (List.mem_of_getElem? (i := 5) rfl)) e103 (g := (mkF m 89 #[.val (.ref a1), .val (.int (1 : Int32)), .val (.long (0 : Int64)), .second, .val (.ref b103), .val (.int (0 : Int32)), .val (.int (8 : Int32)), .unset, .unset, .unset, .unset, .unset, .unset, .unset, .unset, .unset, .unset] [(.int (256 : Int32)), (.int (0 : Int32))])) rfl (hb hby dc0_89) rfl (by decide) (by decide) (N := ((0 : Int32)).toNatClampNeg) rfl rfl (cap := 256) (by decide) (by decide) (Nat.le_trans (Nat.le_refl 0) (by decide)) (by decide) (by decide) (Nat.le_trans (Nat.add_le_add_left (Nat.add_le_add_left (Nat.le_refl 0) 1) _) (by decide : 1 + (1 + 0) ≤ _)) (Nat.le_trans (Nat.add_le_add_left (Nat.add_le_add (Nat.le_refl 0) (Nat.mul_le_mul_right _ (Nat.le_refl 0))) _) (by decide : 8 + (0 + 0 * 256) ≤ _))
  have X105 := X105_.more (Nat.add_le_add_left (Nat.add_le_add_left (Nat.le_refl 0) 1) _ : 1 + (1 + _) ≤ 1 + (1 + 0)) (Nat.add_le_add_left (Nat.add_le_add (Nat.le_refl 0) (Nat.mul_le_mul_right _ (Nat.le_refl 0))) _ : 8 + (_ + _ * 256) ≤ 8 + (0 + 0 * 256))
  obtain ⟨b105, g105⟩ : ∃ z, z = h103.size := ⟨_, rfl⟩
  rw [← g105] at A105 I105 st105
  have gb105 : n0 ≤ b105 := by rw [g105, ← O104.1]; exact O104.2.1
  have f106 := (LP.ext E103)
  have ne105_a1 : a1 ≠ b105 := by rw [g105]; exact Nat.ne_of_lt (f106).lt
  have ne105_b103 : b103 ≠ b105 := by rw [g105]; exact Nat.ne_of_lt (V103).lt
  have f107 := (f106.ext E105)
  obtain ⟨cl108, Ar108, S108, H108⟩ := id f107
  have hin108 : ¬ ((0 : Int32) < 0 ∨ cl108.slots.size ≤ ((0 : Int32)).toNatClampNeg) := by rw [S108]; exact (by decide)
  have hat108 : cl108.slots[((0 : Int32)).toNatClampNeg]? = some (.long (f1 (0 : Int32))) := H108 _ hin108
  obtain ⟨fs, hr, hrun, hended, hW, hsame⟩ := X105.leave (v := some (.ref a1)) (fun h => by rw [Bd.returns] at h; cases h)
  have O109 : Old Z n0 h105 := (O104.ext E105)
  refine ⟨_, _, pre0 _ ?_, hrun, hended, _, _, rfl, ?_, ⟨_, rfl⟩, hW, hsame.mono (by decide) (by decide)⟩
  · skip
    show Steps p.tables e below (s₁.setTop (mkF m 0 #[.val (.ref a1), .val (.int (1 : Int32)), .unset, .unset, .unset, .unset, .unset, .unset, .unset, .unset, .unset, .unset, .unset, .unset, .unset, .unset, .unset] [])) _
    refine XS.lconst X0.here hx rfl (hb hby dc0_0) ?_
    refine XS.lstoreN X0.here hx rfl (hb hby dc0_1) rfl (l' := #[.val (.ref a1), .val (.int (1 : Int32)), .val (.long (0 : Int64)), .second, .unset, .unset, .unset, .unset, .unset, .unset, .unset, .unset, .unset, .unset, .unset, .unset, .unset]) rfl ?_
    refine XS.iconst X0.here hx rfl (hb hby dc0_2) ?_
    refine XS.istore X0.here hx rfl (hb hby dc0_3) rfl (l' := #[.val (.ref a1), .val (.int (1 : Int32)), .val (.long (0 : Int64)), .second, .val (.int (0 : Int32)), .unset, .unset, .unset, .unset, .unset, .unset, .unset, .unset, .unset, .unset, .unset, .unset]) rfl ?_
    refine XS.iload X0.here hx rfl (hb hby dc0_5) rfl ?_
    show Steps p.tables e below (s₁.setTop (mkF m 7 #[.val (.ref a1), .val (.int (1 : Int32)), .val (.long (0 : Int64)), .second, .val (.int (0 : Int32)), .unset, .unset, .unset, .unset, .unset, .unset, .unset, .unset, .unset, .unset, .unset, .unset] [(.int (0 : Int32))])) _
    refine XS.iloadN X0.here hx rfl (hb hby dc0_7) rfl ?_
    show Steps p.tables e below (s₁.setTop (mkF m 8 #[.val (.ref a1), .val (.int (1 : Int32)), .val (.long (0 : Int64)), .second, .val (.int (0 : Int32)), .unset, .unset, .unset, .unset, .unset, .unset, .unset, .unset, .unset, .unset, .unset, .unset] [(.int (1 : Int32)), (.int (0 : Int32))])) _
    refine XS.icmpNo X0.here hx rfl (hb hby dc0_8) rfl (by decide) ?_
    refine XS.lloadN X0.here hx rfl (hb hby dc0_11) rfl ?_
    refine XS.aloadN X0.here hx rfl (hb hby dc0_12) rfl rfl ?_
    refine XS.iconst X0.here hx rfl (hb hby dc0_13) ?_
    show Steps p.tables e below (s₁.setTop (mkF m 14 #[.val (.ref a1), .val (.int (1 : Int32)), .val (.long (0 : Int64)), .second, .val (.int (0 : Int32)), .unset, .unset, .unset, .unset, .unset, .unset, .unset, .unset, .unset, .unset, .unset, .unset] [(.int (2 : Int32)), (.ref a1), (.long (0 : Int64))])) _
    refine XS.iload X0.here hx rfl (hb hby dc0_14) rfl ?_
    refine XS.imul X0.here hx rfl (hb hby dc0_16) rfl ?_
    refine X0.laload hx (j := (0 : Int32)) (v := (.long (f1 (0 : Int32)))) (by rw [e0]; exact Ar101.1) (State.isArrayOf_alike hZ.alike Ar101.2.1) Ar101.2.2 hin101 hat101 (g := (mkF m 17 #[.val (.ref a1), .val (.int (1 : Int32)), .val (.long (0 : Int64)), .second, .val (.int (0 : Int32)), .unset, .unset, .unset, .unset, .unset, .unset, .unset, .unset, .unset, .unset, .unset, .unset] [(.int (0 : Int32)), (.ref a1), (.long (0 : Int64))])) rfl rfl (hb hby dc0_17) _ ?_
    show Steps p.tables e below (s₁.setTop (mkF m 18 #[.val (.ref a1), .val (.int (1 : Int32)), .val (.long (0 : Int64)), .second, .val (.int (0 : Int32)), .unset, .unset, .unset, .unset, .unset, .unset, .unset, .unset, .unset, .unset, .unset, .unset] [(.long (f1 (0 : Int32))), (.long (0 : Int64))])) _
    rw [hf0]
    refine XS.aloadN X0.here hx rfl (hb hby dc0_18) rfl rfl ?_
    show Steps p.tables e below (s₁.setTop (mkF m 19 #[.val (.ref a1), .val (.int (1 : Int32)), .val (.long (0 : Int64)), .second, .val (.int (0 : Int32)), .unset, .unset, .unset, .unset, .unset, .unset, .unset, .unset, .unset, .unset, .unset, .unset] [(.ref a1), (.long k0), (.long (0 : Int64))])) _
    refine XS.iconst X0.here hx rfl (hb hby dc0_19) ?_
    refine X0.laload hx (j := (0 : Int32)) (v := (.long (f1 (0 : Int32)))) (by rw [e0]; exact Ar102.1) (State.isArrayOf_alike hZ.alike Ar102.2.1) Ar102.2.2 hin102 hat102 (g := (mkF m 20 #[.val (.ref a1), .val (.int (1 : Int32)), .val (.long (0 : Int64)), .second, .val (.int (0 : Int32)), .unset, .unset, .unset, .unset, .unset, .unset, .unset, .unset, .unset, .unset, .unset, .unset] [(.int (0 : Int32)), (.ref a1), (.long k0), (.long (0 : Int64))])) rfl rfl (hb hby dc0_20) _ ?_
    show Steps p.tables e below (s₁.setTop (mkF m 21 #[.val (.ref a1), .val (.int (1 : Int32)), .val (.long (0 : Int64)), .second, .val (.int (0 : Int32)), .unset, .unset, .unset, .unset, .unset, .unset, .unset, .unset, .unset, .unset, .unset, .unset] [(.long (f1 (0 : Int32))), (.long k0), (.long (0 : Int64))])) _
    rw [hf0]
    refine XS.lxor X0.here hx rfl (hb hby dc0_21) rfl ?_
    refine XS.lor X0.here hx rfl (hb hby dc0_22) rfl ?_
    show Steps p.tables e below (s₁.setTop (mkF m 23 #[.val (.ref a1), .val (.int (1 : Int32)), .val (.long (0 : Int64)), .second, .val (.int (0 : Int32)), .unset, .unset, .unset, .unset, .unset, .unset, .unset, .unset, .unset, .unset, .unset, .unset] [(.long ((0 : Int64) ||| (k0 ^^^ k0)))])) _
    rw [(own_x0 k0)]
    refine XS.lstoreN X0.here hx rfl (hb hby dc0_23) rfl (l' := #[.val (.ref a1), .val (.int (1 : Int32)), .val (.long (0 : Int64)), .second, .val (.int (0 : Int32)), .unset, .unset, .unset, .unset, .unset, .unset, .unset, .unset, .unset, .unset, .unset, .unset]) rfl ?_
    refine XS.iinc X0.here hx rfl (hb hby dc0_24) rfl (l' := #[.val (.ref a1), .val (.int (1 : Int32)), .val (.long (0 : Int64)), .second, .val (.int (1 : Int32)), .unset, .unset, .unset, .unset, .unset, .unset, .unset, .unset, .unset, .unset, .unset, .unset]) rfl ?_
    refine XS.goto X0.here hx rfl (pc0 := 27) (pc' := 5) rfl (hb hby dc0_27) (by decide) (by decide) ?_
    refine XS.iload X0.here hx rfl (hb hby dc0_5) rfl ?_
    show Steps p.tables e below (s₁.setTop (mkF m 7 #[.val (.ref a1), .val (.int (1 : Int32)), .val (.long (0 : Int64)), .second, .val (.int (1 : Int32)), .unset, .unset, .unset, .unset, .unset, .unset, .unset, .unset, .unset, .unset, .unset, .unset] [(.int (1 : Int32))])) _
    refine XS.iloadN X0.here hx rfl (hb hby dc0_7) rfl ?_
    show Steps p.tables e below (s₁.setTop (mkF m 8 #[.val (.ref a1), .val (.int (1 : Int32)), .val (.long (0 : Int64)), .second, .val (.int (1 : Int32)), .unset, .unset, .unset, .unset, .unset, .unset, .unset, .unset, .unset, .unset, .unset, .unset] [(.int (1 : Int32)), (.int (1 : Int32))])) _
    refine XS.icmpYes X0.here hx rfl (pc0 := 8) (pc' := 30) rfl (hb hby dc0_8) rfl (by decide) (by decide) (by decide) ?_
    refine XS.bipush X0.here hx rfl (hb hby dc0_30) ?_
    refine st103 _ ?_
    refine XS.astore X103.here hx rfl (hb hby dc0_34) rfl rfl (l' := #[.val (.ref a1), .val (.int (1 : Int32)), .val (.long (0 : Int64)), .second, .val (.ref b103), .unset, .unset, .unset, .unset, .unset, .unset, .unset, .unset, .unset, .unset, .unset, .unset]) rfl ?_
    show Steps p.tables e below (T103.setTop (mkF m 36 #[.val (.ref a1), .val (.int (1 : Int32)), .val (.long (0 : Int64)), .second, .val (.ref b103), .unset, .unset, .unset, .unset, .unset, .unset, .unset, .unset, .unset, .unset, .unset, .unset] [])) _
    refine XS.iconst X103.here hx rfl (hb hby dc0_36) ?_
    refine XS.istore X103.here hx rfl (hb hby dc0_37) rfl (l' := #[.val (.ref a1), .val (.int (1 : Int32)), .val (.long (0 : Int64)), .second, .val (.ref b103), .val (.int (0 : Int32)), .unset, .unset, .unset, .unset, .unset, .unset, .unset, .unset, .unset, .unset, .unset]) rfl ?_
    refine XS.iconst X103.here hx rfl (hb hby dc0_39) ?_
    refine XS.istore X103.here hx rfl (hb hby dc0_40) rfl (l' := #[.val (.ref a1), .val (.int (1 : Int32)), .val (.long (0 : Int64)), .second, .val (.ref b103), .val (.int (0 : Int32)), .val (.int (0 : Int32)), .unset, .unset, .unset, .unset, .unset, .unset, .unset, .unset, .unset, .unset]) rfl ?_
    refine XS.iload X103.here hx rfl (hb hby dc0_42) rfl ?_
    show Steps p.tables e below (T103.setTop (mkF m 44 #[.val (.ref a1), .val (.int (1 : Int32)), .val (.long (0 : Int64)), .second, .val (.ref b103), .val (.int (0 : Int32)), .val (.int (0 : Int32)), .unset, .unset, .unset, .unset, .unset, .unset, .unset, .unset, .unset, .unset] [(.int (0 : Int32))])) _
    refine XS.bipush X103.here hx rfl (hb hby dc0_44) ?_
    show Steps p.tables e below (T103.setTop (mkF m 46 #[.val (.ref a1), .val (.int (1 : Int32)), .val (.long (0 : Int64)), .second, .val (.ref b103), .val (.int (0 : Int32)), .val (.int (0 : Int32)), .unset, .unset, .unset, .unset, .unset, .unset, .unset, .unset, .unset, .unset] [(.int (8 : Int32)), (.int (0 : Int32))])) _
    refine XS.icmpNo X103.here hx rfl (hb hby dc0_46) rfl (by decide) ?_
    refine XS.lloadN X103.here hx rfl (hb hby dc0_49) rfl ?_
    refine XS.bipush X103.here hx rfl (hb hby dc0_50) ?_
    refine XS.iload X103.here hx rfl (hb hby dc0_52) rfl ?_
    show Steps p.tables e below (T103.setTop (mkF m 54 #[.val (.ref a1), .val (.int (1 : Int32)), .val (.long (0 : Int64)), .second, .val (.ref b103), .val (.int (0 : Int32)), .val (.int (0 : Int32)), .unset, .unset, .unset, .unset, .unset, .unset, .unset, .unset, .unset, .unset] [(.int (0 : Int32)), (.int (8 : Int32)), (.long (0 : Int64))])) _
    refine XS.imul X103.here hx rfl (hb hby dc0_54) rfl ?_
    refine XS.lushr X103.here hx rfl (hb hby dc0_55) rfl ?_
    refine X103.ldc2Long hx hown (mvT hZ (hw _ (List.mem_of_getElem? (i := 6) rfl))) (g := (mkF m 56 #[.val (.ref a1), .val (.int (1 : Int32)), .val (.long (0 : Int64)), .second, .val (.ref b103), .val (.int (0 : Int32)), .val (.int (0 : Int32)), .unset, .unset, .unset, .unset, .unset, .unset, .unset, .unset, .unset, .unset] [(.long (0 : Int64))])) rfl (hb hby dc0_56) _ ?_
    refine XS.land X103.here hx rfl (hb hby dc0_59) rfl ?_
    refine XS.lconst X103.here hx rfl (hb hby dc0_60) ?_
    show Steps p.tables e below (T103.setTop (mkF m 61 #[.val (.ref a1), .val (.int (1 : Int32)), .val (.long (0 : Int64)), .second, .val (.ref b103), .val (.int (0 : Int32)), .val (.int (0 : Int32)), .unset, .unset, .unset, .unset, .unset, .unset, .unset, .unset, .unset, .unset] [(.long (0 : Int64)), (.long (0 : Int64))])) _
    refine XS.lcmp X103.here hx rfl (hb hby dc0_61) rfl ?_
    show Steps p.tables e below (T103.setTop (mkF m 62 #[.val (.ref a1), .val (.int (1 : Int32)), .val (.long (0 : Int64)), .second, .val (.ref b103), .val (.int (0 : Int32)), .val (.int (0 : Int32)), .unset, .unset, .unset, .unset, .unset, .unset, .unset, .unset, .unset, .unset] [(.int (0 : Int32))])) _
    refine XS.ifYes X103.here hx rfl (pc0 := 62) (pc' := 78) rfl (hb hby dc0_62) rfl (by decide) (by decide) (by decide) ?_
    refine XS.iinc X103.here hx rfl (hb hby dc0_78) rfl (l' := #[.val (.ref a1), .val (.int (1 : Int32)), .val (.long (0 : Int64)), .second, .val (.ref b103), .val (.int (0 : Int32)), .val (.int (1 : Int32)), .unset, .unset, .unset, .unset, .unset, .unset, .unset, .unset, .unset, .unset]) rfl ?_
    refine XS.goto X103.here hx rfl (pc0 := 81) (pc' := 42) rfl (hb hby dc0_81) (by decide) (by decide) ?_
    refine XS.iload X103.here hx rfl (hb hby dc0_42) rfl ?_
    show Steps p.tables e below (T103.setTop (mkF m 44 #[.val (.ref a1), .val (.int (1 : Int32)), .val (.long (0 : Int64)), .second, .val (.ref b103), .val (.int (0 : Int32)), .val (.int (1 : Int32)), .unset, .unset, .unset, .unset, .unset, .unset, .unset, .unset, .unset, .unset] [(.int (1 : Int32))])) _
    refine XS.bipush X103.here hx rfl (hb hby dc0_44) ?_
    show Steps p.tables e below (T103.setTop (mkF m 46 #[.val (.ref a1), .val (.int (1 : Int32)), .val (.long (0 : Int64)), .second, .val (.ref b103), .val (.int (0 : Int32)), .val (.int (1 : Int32)), .unset, .unset, .unset, .unset, .unset, .unset, .unset, .unset, .unset, .unset] [(.int (8 : Int32)), (.int (1 : Int32))])) _
    refine XS.icmpNo X103.here hx rfl (hb hby dc0_46) rfl (by decide) ?_
    refine XS.lloadN X103.here hx rfl (hb hby dc0_49) rfl ?_
    refine XS.bipush X103.here hx rfl (hb hby dc0_50) ?_
    refine XS.iload X103.here hx rfl (hb hby dc0_52) rfl ?_
    show Steps p.tables e below (T103.setTop (mkF m 54 #[.val (.ref a1), .val (.int (1 : Int32)), .val (.long (0 : Int64)), .second, .val (.ref b103), .val (.int (0 : Int32)), .val (.int (1 : Int32)), .unset, .unset, .unset, .unset, .unset, .unset, .unset, .unset, .unset, .unset] [(.int (1 : Int32)), (.int (8 : Int32)), (.long (0 : Int64))])) _
    refine XS.imul X103.here hx rfl (hb hby dc0_54) rfl ?_
    refine XS.lushr X103.here hx rfl (hb hby dc0_55) rfl ?_
    refine X103.ldc2Long hx hown (mvT hZ (hw _ (List.mem_of_getElem? (i := 6) rfl))) (g := (mkF m 56 #[.val (.ref a1), .val (.int (1 : Int32)), .val (.long (0 : Int64)), .second, .val (.ref b103), .val (.int (0 : Int32)), .val (.int (1 : Int32)), .unset, .unset, .unset, .unset, .unset, .unset, .unset, .unset, .unset, .unset] [(.long (0 : Int64))])) rfl (hb hby dc0_56) _ ?_
    refine XS.land X103.here hx rfl (hb hby dc0_59) rfl ?_
    refine XS.lconst X103.here hx rfl (hb hby dc0_60) ?_
    show Steps p.tables e below (T103.setTop (mkF m 61 #[.val (.ref a1), .val (.int (1 : Int32)), .val (.long (0 : Int64)), .second, .val (.ref b103), .val (.int (0 : Int32)), .val (.int (1 : Int32)), .unset, .unset, .unset, .unset, .unset, .unset, .unset, .unset, .unset, .unset] [(.long (0 : Int64)), (.long (0 : Int64))])) _
    refine XS.lcmp X103.here hx rfl (hb hby dc0_61) rfl ?_
    show Steps p.tables e below (T103.setTop (mkF m 62 #[.val (.ref a1), .val (.int (1 : Int32)), .val (.long (0 : Int64)), .second, .val (.ref b103), .val (.int (0 : Int32)), .val (.int (1 : Int32)), .unset, .unset, .unset, .unset, .unset, .unset, .unset, .unset, .unset, .unset] [(.int (0 : Int32))])) _
    refine XS.ifYes X103.here hx rfl (pc0 := 62) (pc' := 78) rfl (hb hby dc0_62) rfl (by decide) (by decide) (by decide) ?_
    refine XS.iinc X103.here hx rfl (hb hby dc0_78) rfl (l' := #[.val (.ref a1), .val (.int (1 : Int32)), .val (.long (0 : Int64)), .second, .val (.ref b103), .val (.int (0 : Int32)), .val (.int (2 : Int32)), .unset, .unset, .unset, .unset, .unset, .unset, .unset, .unset, .unset, .unset]) rfl ?_
    refine XS.goto X103.here hx rfl (pc0 := 81) (pc' := 42) rfl (hb hby dc0_81) (by decide) (by decide) ?_
    refine XS.iload X103.here hx rfl (hb hby dc0_42) rfl ?_
    show Steps p.tables e below (T103.setTop (mkF m 44 #[.val (.ref a1), .val (.int (1 : Int32)), .val (.long (0 : Int64)), .second, .val (.ref b103), .val (.int (0 : Int32)), .val (.int (2 : Int32)), .unset, .unset, .unset, .unset, .unset, .unset, .unset, .unset, .unset, .unset] [(.int (2 : Int32))])) _
    refine XS.bipush X103.here hx rfl (hb hby dc0_44) ?_
    show Steps p.tables e below (T103.setTop (mkF m 46 #[.val (.ref a1), .val (.int (1 : Int32)), .val (.long (0 : Int64)), .second, .val (.ref b103), .val (.int (0 : Int32)), .val (.int (2 : Int32)), .unset, .unset, .unset, .unset, .unset, .unset, .unset, .unset, .unset, .unset] [(.int (8 : Int32)), (.int (2 : Int32))])) _
    refine XS.icmpNo X103.here hx rfl (hb hby dc0_46) rfl (by decide) ?_
    refine XS.lloadN X103.here hx rfl (hb hby dc0_49) rfl ?_
    refine XS.bipush X103.here hx rfl (hb hby dc0_50) ?_
    refine XS.iload X103.here hx rfl (hb hby dc0_52) rfl ?_
    show Steps p.tables e below (T103.setTop (mkF m 54 #[.val (.ref a1), .val (.int (1 : Int32)), .val (.long (0 : Int64)), .second, .val (.ref b103), .val (.int (0 : Int32)), .val (.int (2 : Int32)), .unset, .unset, .unset, .unset, .unset, .unset, .unset, .unset, .unset, .unset] [(.int (2 : Int32)), (.int (8 : Int32)), (.long (0 : Int64))])) _
    refine XS.imul X103.here hx rfl (hb hby dc0_54) rfl ?_
    refine XS.lushr X103.here hx rfl (hb hby dc0_55) rfl ?_
    refine X103.ldc2Long hx hown (mvT hZ (hw _ (List.mem_of_getElem? (i := 6) rfl))) (g := (mkF m 56 #[.val (.ref a1), .val (.int (1 : Int32)), .val (.long (0 : Int64)), .second, .val (.ref b103), .val (.int (0 : Int32)), .val (.int (2 : Int32)), .unset, .unset, .unset, .unset, .unset, .unset, .unset, .unset, .unset, .unset] [(.long (0 : Int64))])) rfl (hb hby dc0_56) _ ?_
    refine XS.land X103.here hx rfl (hb hby dc0_59) rfl ?_
    refine XS.lconst X103.here hx rfl (hb hby dc0_60) ?_
    show Steps p.tables e below (T103.setTop (mkF m 61 #[.val (.ref a1), .val (.int (1 : Int32)), .val (.long (0 : Int64)), .second, .val (.ref b103), .val (.int (0 : Int32)), .val (.int (2 : Int32)), .unset, .unset, .unset, .unset, .unset, .unset, .unset, .unset, .unset, .unset] [(.long (0 : Int64)), (.long (0 : Int64))])) _
    refine XS.lcmp X103.here hx rfl (hb hby dc0_61) rfl ?_
    show Steps p.tables e below (T103.setTop (mkF m 62 #[.val (.ref a1), .val (.int (1 : Int32)), .val (.long (0 : Int64)), .second, .val (.ref b103), .val (.int (0 : Int32)), .val (.int (2 : Int32)), .unset, .unset, .unset, .unset, .unset, .unset, .unset, .unset, .unset, .unset] [(.int (0 : Int32))])) _
    refine XS.ifYes X103.here hx rfl (pc0 := 62) (pc' := 78) rfl (hb hby dc0_62) rfl (by decide) (by decide) (by decide) ?_
    refine XS.iinc X103.here hx rfl (hb hby dc0_78) rfl (l' := #[.val (.ref a1), .val (.int (1 : Int32)), .val (.long (0 : Int64)), .second, .val (.ref b103), .val (.int (0 : Int32)), .val (.int (3 : Int32)), .unset, .unset, .unset, .unset, .unset, .unset, .unset, .unset, .unset, .unset]) rfl ?_
    refine XS.goto X103.here hx rfl (pc0 := 81) (pc' := 42) rfl (hb hby dc0_81) (by decide) (by decide) ?_
    refine XS.iload X103.here hx rfl (hb hby dc0_42) rfl ?_
    show Steps p.tables e below (T103.setTop (mkF m 44 #[.val (.ref a1), .val (.int (1 : Int32)), .val (.long (0 : Int64)), .second, .val (.ref b103), .val (.int (0 : Int32)), .val (.int (3 : Int32)), .unset, .unset, .unset, .unset, .unset, .unset, .unset, .unset, .unset, .unset] [(.int (3 : Int32))])) _
    refine XS.bipush X103.here hx rfl (hb hby dc0_44) ?_
    show Steps p.tables e below (T103.setTop (mkF m 46 #[.val (.ref a1), .val (.int (1 : Int32)), .val (.long (0 : Int64)), .second, .val (.ref b103), .val (.int (0 : Int32)), .val (.int (3 : Int32)), .unset, .unset, .unset, .unset, .unset, .unset, .unset, .unset, .unset, .unset] [(.int (8 : Int32)), (.int (3 : Int32))])) _
    refine XS.icmpNo X103.here hx rfl (hb hby dc0_46) rfl (by decide) ?_
    refine XS.lloadN X103.here hx rfl (hb hby dc0_49) rfl ?_
    refine XS.bipush X103.here hx rfl (hb hby dc0_50) ?_
    refine XS.iload X103.here hx rfl (hb hby dc0_52) rfl ?_
    show Steps p.tables e below (T103.setTop (mkF m 54 #[.val (.ref a1), .val (.int (1 : Int32)), .val (.long (0 : Int64)), .second, .val (.ref b103), .val (.int (0 : Int32)), .val (.int (3 : Int32)), .unset, .unset, .unset, .unset, .unset, .unset, .unset, .unset, .unset, .unset] [(.int (3 : Int32)), (.int (8 : Int32)), (.long (0 : Int64))])) _
    refine XS.imul X103.here hx rfl (hb hby dc0_54) rfl ?_
    refine XS.lushr X103.here hx rfl (hb hby dc0_55) rfl ?_
    refine X103.ldc2Long hx hown (mvT hZ (hw _ (List.mem_of_getElem? (i := 6) rfl))) (g := (mkF m 56 #[.val (.ref a1), .val (.int (1 : Int32)), .val (.long (0 : Int64)), .second, .val (.ref b103), .val (.int (0 : Int32)), .val (.int (3 : Int32)), .unset, .unset, .unset, .unset, .unset, .unset, .unset, .unset, .unset, .unset] [(.long (0 : Int64))])) rfl (hb hby dc0_56) _ ?_
    refine XS.land X103.here hx rfl (hb hby dc0_59) rfl ?_
    refine XS.lconst X103.here hx rfl (hb hby dc0_60) ?_
    show Steps p.tables e below (T103.setTop (mkF m 61 #[.val (.ref a1), .val (.int (1 : Int32)), .val (.long (0 : Int64)), .second, .val (.ref b103), .val (.int (0 : Int32)), .val (.int (3 : Int32)), .unset, .unset, .unset, .unset, .unset, .unset, .unset, .unset, .unset, .unset] [(.long (0 : Int64)), (.long (0 : Int64))])) _
    refine XS.lcmp X103.here hx rfl (hb hby dc0_61) rfl ?_
    show Steps p.tables e below (T103.setTop (mkF m 62 #[.val (.ref a1), .val (.int (1 : Int32)), .val (.long (0 : Int64)), .second, .val (.ref b103), .val (.int (0 : Int32)), .val (.int (3 : Int32)), .unset, .unset, .unset, .unset, .unset, .unset, .unset, .unset, .unset, .unset] [(.int (0 : Int32))])) _
    refine XS.ifYes X103.here hx rfl (pc0 := 62) (pc' := 78) rfl (hb hby dc0_62) rfl (by decide) (by decide) (by decide) ?_
    refine XS.iinc X103.here hx rfl (hb hby dc0_78) rfl (l' := #[.val (.ref a1), .val (.int (1 : Int32)), .val (.long (0 : Int64)), .second, .val (.ref b103), .val (.int (0 : Int32)), .val (.int (4 : Int32)), .unset, .unset, .unset, .unset, .unset, .unset, .unset, .unset, .unset, .unset]) rfl ?_
    refine XS.goto X103.here hx rfl (pc0 := 81) (pc' := 42) rfl (hb hby dc0_81) (by decide) (by decide) ?_
    refine XS.iload X103.here hx rfl (hb hby dc0_42) rfl ?_
    show Steps p.tables e below (T103.setTop (mkF m 44 #[.val (.ref a1), .val (.int (1 : Int32)), .val (.long (0 : Int64)), .second, .val (.ref b103), .val (.int (0 : Int32)), .val (.int (4 : Int32)), .unset, .unset, .unset, .unset, .unset, .unset, .unset, .unset, .unset, .unset] [(.int (4 : Int32))])) _
    refine XS.bipush X103.here hx rfl (hb hby dc0_44) ?_
    show Steps p.tables e below (T103.setTop (mkF m 46 #[.val (.ref a1), .val (.int (1 : Int32)), .val (.long (0 : Int64)), .second, .val (.ref b103), .val (.int (0 : Int32)), .val (.int (4 : Int32)), .unset, .unset, .unset, .unset, .unset, .unset, .unset, .unset, .unset, .unset] [(.int (8 : Int32)), (.int (4 : Int32))])) _
    refine XS.icmpNo X103.here hx rfl (hb hby dc0_46) rfl (by decide) ?_
    refine XS.lloadN X103.here hx rfl (hb hby dc0_49) rfl ?_
    refine XS.bipush X103.here hx rfl (hb hby dc0_50) ?_
    refine XS.iload X103.here hx rfl (hb hby dc0_52) rfl ?_
    show Steps p.tables e below (T103.setTop (mkF m 54 #[.val (.ref a1), .val (.int (1 : Int32)), .val (.long (0 : Int64)), .second, .val (.ref b103), .val (.int (0 : Int32)), .val (.int (4 : Int32)), .unset, .unset, .unset, .unset, .unset, .unset, .unset, .unset, .unset, .unset] [(.int (4 : Int32)), (.int (8 : Int32)), (.long (0 : Int64))])) _
    refine XS.imul X103.here hx rfl (hb hby dc0_54) rfl ?_
    refine XS.lushr X103.here hx rfl (hb hby dc0_55) rfl ?_
    refine X103.ldc2Long hx hown (mvT hZ (hw _ (List.mem_of_getElem? (i := 6) rfl))) (g := (mkF m 56 #[.val (.ref a1), .val (.int (1 : Int32)), .val (.long (0 : Int64)), .second, .val (.ref b103), .val (.int (0 : Int32)), .val (.int (4 : Int32)), .unset, .unset, .unset, .unset, .unset, .unset, .unset, .unset, .unset, .unset] [(.long (0 : Int64))])) rfl (hb hby dc0_56) _ ?_
    refine XS.land X103.here hx rfl (hb hby dc0_59) rfl ?_
    refine XS.lconst X103.here hx rfl (hb hby dc0_60) ?_
    show Steps p.tables e below (T103.setTop (mkF m 61 #[.val (.ref a1), .val (.int (1 : Int32)), .val (.long (0 : Int64)), .second, .val (.ref b103), .val (.int (0 : Int32)), .val (.int (4 : Int32)), .unset, .unset, .unset, .unset, .unset, .unset, .unset, .unset, .unset, .unset] [(.long (0 : Int64)), (.long (0 : Int64))])) _
    refine XS.lcmp X103.here hx rfl (hb hby dc0_61) rfl ?_
    show Steps p.tables e below (T103.setTop (mkF m 62 #[.val (.ref a1), .val (.int (1 : Int32)), .val (.long (0 : Int64)), .second, .val (.ref b103), .val (.int (0 : Int32)), .val (.int (4 : Int32)), .unset, .unset, .unset, .unset, .unset, .unset, .unset, .unset, .unset, .unset] [(.int (0 : Int32))])) _
    refine XS.ifYes X103.here hx rfl (pc0 := 62) (pc' := 78) rfl (hb hby dc0_62) rfl (by decide) (by decide) (by decide) ?_
    refine XS.iinc X103.here hx rfl (hb hby dc0_78) rfl (l' := #[.val (.ref a1), .val (.int (1 : Int32)), .val (.long (0 : Int64)), .second, .val (.ref b103), .val (.int (0 : Int32)), .val (.int (5 : Int32)), .unset, .unset, .unset, .unset, .unset, .unset, .unset, .unset, .unset, .unset]) rfl ?_
    refine XS.goto X103.here hx rfl (pc0 := 81) (pc' := 42) rfl (hb hby dc0_81) (by decide) (by decide) ?_
    refine XS.iload X103.here hx rfl (hb hby dc0_42) rfl ?_
    show Steps p.tables e below (T103.setTop (mkF m 44 #[.val (.ref a1), .val (.int (1 : Int32)), .val (.long (0 : Int64)), .second, .val (.ref b103), .val (.int (0 : Int32)), .val (.int (5 : Int32)), .unset, .unset, .unset, .unset, .unset, .unset, .unset, .unset, .unset, .unset] [(.int (5 : Int32))])) _
    refine XS.bipush X103.here hx rfl (hb hby dc0_44) ?_
    show Steps p.tables e below (T103.setTop (mkF m 46 #[.val (.ref a1), .val (.int (1 : Int32)), .val (.long (0 : Int64)), .second, .val (.ref b103), .val (.int (0 : Int32)), .val (.int (5 : Int32)), .unset, .unset, .unset, .unset, .unset, .unset, .unset, .unset, .unset, .unset] [(.int (8 : Int32)), (.int (5 : Int32))])) _
    refine XS.icmpNo X103.here hx rfl (hb hby dc0_46) rfl (by decide) ?_
    refine XS.lloadN X103.here hx rfl (hb hby dc0_49) rfl ?_
    refine XS.bipush X103.here hx rfl (hb hby dc0_50) ?_
    refine XS.iload X103.here hx rfl (hb hby dc0_52) rfl ?_
    show Steps p.tables e below (T103.setTop (mkF m 54 #[.val (.ref a1), .val (.int (1 : Int32)), .val (.long (0 : Int64)), .second, .val (.ref b103), .val (.int (0 : Int32)), .val (.int (5 : Int32)), .unset, .unset, .unset, .unset, .unset, .unset, .unset, .unset, .unset, .unset] [(.int (5 : Int32)), (.int (8 : Int32)), (.long (0 : Int64))])) _
    refine XS.imul X103.here hx rfl (hb hby dc0_54) rfl ?_
    refine XS.lushr X103.here hx rfl (hb hby dc0_55) rfl ?_
    refine X103.ldc2Long hx hown (mvT hZ (hw _ (List.mem_of_getElem? (i := 6) rfl))) (g := (mkF m 56 #[.val (.ref a1), .val (.int (1 : Int32)), .val (.long (0 : Int64)), .second, .val (.ref b103), .val (.int (0 : Int32)), .val (.int (5 : Int32)), .unset, .unset, .unset, .unset, .unset, .unset, .unset, .unset, .unset, .unset] [(.long (0 : Int64))])) rfl (hb hby dc0_56) _ ?_
    refine XS.land X103.here hx rfl (hb hby dc0_59) rfl ?_
    refine XS.lconst X103.here hx rfl (hb hby dc0_60) ?_
    show Steps p.tables e below (T103.setTop (mkF m 61 #[.val (.ref a1), .val (.int (1 : Int32)), .val (.long (0 : Int64)), .second, .val (.ref b103), .val (.int (0 : Int32)), .val (.int (5 : Int32)), .unset, .unset, .unset, .unset, .unset, .unset, .unset, .unset, .unset, .unset] [(.long (0 : Int64)), (.long (0 : Int64))])) _
    refine XS.lcmp X103.here hx rfl (hb hby dc0_61) rfl ?_
    show Steps p.tables e below (T103.setTop (mkF m 62 #[.val (.ref a1), .val (.int (1 : Int32)), .val (.long (0 : Int64)), .second, .val (.ref b103), .val (.int (0 : Int32)), .val (.int (5 : Int32)), .unset, .unset, .unset, .unset, .unset, .unset, .unset, .unset, .unset, .unset] [(.int (0 : Int32))])) _
    refine XS.ifYes X103.here hx rfl (pc0 := 62) (pc' := 78) rfl (hb hby dc0_62) rfl (by decide) (by decide) (by decide) ?_
    refine XS.iinc X103.here hx rfl (hb hby dc0_78) rfl (l' := #[.val (.ref a1), .val (.int (1 : Int32)), .val (.long (0 : Int64)), .second, .val (.ref b103), .val (.int (0 : Int32)), .val (.int (6 : Int32)), .unset, .unset, .unset, .unset, .unset, .unset, .unset, .unset, .unset, .unset]) rfl ?_
    refine XS.goto X103.here hx rfl (pc0 := 81) (pc' := 42) rfl (hb hby dc0_81) (by decide) (by decide) ?_
    refine XS.iload X103.here hx rfl (hb hby dc0_42) rfl ?_
    show Steps p.tables e below (T103.setTop (mkF m 44 #[.val (.ref a1), .val (.int (1 : Int32)), .val (.long (0 : Int64)), .second, .val (.ref b103), .val (.int (0 : Int32)), .val (.int (6 : Int32)), .unset, .unset, .unset, .unset, .unset, .unset, .unset, .unset, .unset, .unset] [(.int (6 : Int32))])) _
    refine XS.bipush X103.here hx rfl (hb hby dc0_44) ?_
    show Steps p.tables e below (T103.setTop (mkF m 46 #[.val (.ref a1), .val (.int (1 : Int32)), .val (.long (0 : Int64)), .second, .val (.ref b103), .val (.int (0 : Int32)), .val (.int (6 : Int32)), .unset, .unset, .unset, .unset, .unset, .unset, .unset, .unset, .unset, .unset] [(.int (8 : Int32)), (.int (6 : Int32))])) _
    refine XS.icmpNo X103.here hx rfl (hb hby dc0_46) rfl (by decide) ?_
    refine XS.lloadN X103.here hx rfl (hb hby dc0_49) rfl ?_
    refine XS.bipush X103.here hx rfl (hb hby dc0_50) ?_
    refine XS.iload X103.here hx rfl (hb hby dc0_52) rfl ?_
    show Steps p.tables e below (T103.setTop (mkF m 54 #[.val (.ref a1), .val (.int (1 : Int32)), .val (.long (0 : Int64)), .second, .val (.ref b103), .val (.int (0 : Int32)), .val (.int (6 : Int32)), .unset, .unset, .unset, .unset, .unset, .unset, .unset, .unset, .unset, .unset] [(.int (6 : Int32)), (.int (8 : Int32)), (.long (0 : Int64))])) _
    refine XS.imul X103.here hx rfl (hb hby dc0_54) rfl ?_
    refine XS.lushr X103.here hx rfl (hb hby dc0_55) rfl ?_
    refine X103.ldc2Long hx hown (mvT hZ (hw _ (List.mem_of_getElem? (i := 6) rfl))) (g := (mkF m 56 #[.val (.ref a1), .val (.int (1 : Int32)), .val (.long (0 : Int64)), .second, .val (.ref b103), .val (.int (0 : Int32)), .val (.int (6 : Int32)), .unset, .unset, .unset, .unset, .unset, .unset, .unset, .unset, .unset, .unset] [(.long (0 : Int64))])) rfl (hb hby dc0_56) _ ?_
    refine XS.land X103.here hx rfl (hb hby dc0_59) rfl ?_
    refine XS.lconst X103.here hx rfl (hb hby dc0_60) ?_
    show Steps p.tables e below (T103.setTop (mkF m 61 #[.val (.ref a1), .val (.int (1 : Int32)), .val (.long (0 : Int64)), .second, .val (.ref b103), .val (.int (0 : Int32)), .val (.int (6 : Int32)), .unset, .unset, .unset, .unset, .unset, .unset, .unset, .unset, .unset, .unset] [(.long (0 : Int64)), (.long (0 : Int64))])) _
    refine XS.lcmp X103.here hx rfl (hb hby dc0_61) rfl ?_
    show Steps p.tables e below (T103.setTop (mkF m 62 #[.val (.ref a1), .val (.int (1 : Int32)), .val (.long (0 : Int64)), .second, .val (.ref b103), .val (.int (0 : Int32)), .val (.int (6 : Int32)), .unset, .unset, .unset, .unset, .unset, .unset, .unset, .unset, .unset, .unset] [(.int (0 : Int32))])) _
    refine XS.ifYes X103.here hx rfl (pc0 := 62) (pc' := 78) rfl (hb hby dc0_62) rfl (by decide) (by decide) (by decide) ?_
    refine XS.iinc X103.here hx rfl (hb hby dc0_78) rfl (l' := #[.val (.ref a1), .val (.int (1 : Int32)), .val (.long (0 : Int64)), .second, .val (.ref b103), .val (.int (0 : Int32)), .val (.int (7 : Int32)), .unset, .unset, .unset, .unset, .unset, .unset, .unset, .unset, .unset, .unset]) rfl ?_
    refine XS.goto X103.here hx rfl (pc0 := 81) (pc' := 42) rfl (hb hby dc0_81) (by decide) (by decide) ?_
    refine XS.iload X103.here hx rfl (hb hby dc0_42) rfl ?_
    show Steps p.tables e below (T103.setTop (mkF m 44 #[.val (.ref a1), .val (.int (1 : Int32)), .val (.long (0 : Int64)), .second, .val (.ref b103), .val (.int (0 : Int32)), .val (.int (7 : Int32)), .unset, .unset, .unset, .unset, .unset, .unset, .unset, .unset, .unset, .unset] [(.int (7 : Int32))])) _
    refine XS.bipush X103.here hx rfl (hb hby dc0_44) ?_
    show Steps p.tables e below (T103.setTop (mkF m 46 #[.val (.ref a1), .val (.int (1 : Int32)), .val (.long (0 : Int64)), .second, .val (.ref b103), .val (.int (0 : Int32)), .val (.int (7 : Int32)), .unset, .unset, .unset, .unset, .unset, .unset, .unset, .unset, .unset, .unset] [(.int (8 : Int32)), (.int (7 : Int32))])) _
    refine XS.icmpNo X103.here hx rfl (hb hby dc0_46) rfl (by decide) ?_
    refine XS.lloadN X103.here hx rfl (hb hby dc0_49) rfl ?_
    refine XS.bipush X103.here hx rfl (hb hby dc0_50) ?_
    refine XS.iload X103.here hx rfl (hb hby dc0_52) rfl ?_
    show Steps p.tables e below (T103.setTop (mkF m 54 #[.val (.ref a1), .val (.int (1 : Int32)), .val (.long (0 : Int64)), .second, .val (.ref b103), .val (.int (0 : Int32)), .val (.int (7 : Int32)), .unset, .unset, .unset, .unset, .unset, .unset, .unset, .unset, .unset, .unset] [(.int (7 : Int32)), (.int (8 : Int32)), (.long (0 : Int64))])) _
    refine XS.imul X103.here hx rfl (hb hby dc0_54) rfl ?_
    refine XS.lushr X103.here hx rfl (hb hby dc0_55) rfl ?_
    refine X103.ldc2Long hx hown (mvT hZ (hw _ (List.mem_of_getElem? (i := 6) rfl))) (g := (mkF m 56 #[.val (.ref a1), .val (.int (1 : Int32)), .val (.long (0 : Int64)), .second, .val (.ref b103), .val (.int (0 : Int32)), .val (.int (7 : Int32)), .unset, .unset, .unset, .unset, .unset, .unset, .unset, .unset, .unset, .unset] [(.long (0 : Int64))])) rfl (hb hby dc0_56) _ ?_
    refine XS.land X103.here hx rfl (hb hby dc0_59) rfl ?_
    refine XS.lconst X103.here hx rfl (hb hby dc0_60) ?_
    show Steps p.tables e below (T103.setTop (mkF m 61 #[.val (.ref a1), .val (.int (1 : Int32)), .val (.long (0 : Int64)), .second, .val (.ref b103), .val (.int (0 : Int32)), .val (.int (7 : Int32)), .unset, .unset, .unset, .unset, .unset, .unset, .unset, .unset, .unset, .unset] [(.long (0 : Int64)), (.long (0 : Int64))])) _
    refine XS.lcmp X103.here hx rfl (hb hby dc0_61) rfl ?_
    show Steps p.tables e below (T103.setTop (mkF m 62 #[.val (.ref a1), .val (.int (1 : Int32)), .val (.long (0 : Int64)), .second, .val (.ref b103), .val (.int (0 : Int32)), .val (.int (7 : Int32)), .unset, .unset, .unset, .unset, .unset, .unset, .unset, .unset, .unset, .unset] [(.int (0 : Int32))])) _
    refine XS.ifYes X103.here hx rfl (pc0 := 62) (pc' := 78) rfl (hb hby dc0_62) rfl (by decide) (by decide) (by decide) ?_
    refine XS.iinc X103.here hx rfl (hb hby dc0_78) rfl (l' := #[.val (.ref a1), .val (.int (1 : Int32)), .val (.long (0 : Int64)), .second, .val (.ref b103), .val (.int (0 : Int32)), .val (.int (8 : Int32)), .unset, .unset, .unset, .unset, .unset, .unset, .unset, .unset, .unset, .unset]) rfl ?_
    refine XS.goto X103.here hx rfl (pc0 := 81) (pc' := 42) rfl (hb hby dc0_81) (by decide) (by decide) ?_
    refine XS.iload X103.here hx rfl (hb hby dc0_42) rfl ?_
    show Steps p.tables e below (T103.setTop (mkF m 44 #[.val (.ref a1), .val (.int (1 : Int32)), .val (.long (0 : Int64)), .second, .val (.ref b103), .val (.int (0 : Int32)), .val (.int (8 : Int32)), .unset, .unset, .unset, .unset, .unset, .unset, .unset, .unset, .unset, .unset] [(.int (8 : Int32))])) _
    refine XS.bipush X103.here hx rfl (hb hby dc0_44) ?_
    show Steps p.tables e below (T103.setTop (mkF m 46 #[.val (.ref a1), .val (.int (1 : Int32)), .val (.long (0 : Int64)), .second, .val (.ref b103), .val (.int (0 : Int32)), .val (.int (8 : Int32)), .unset, .unset, .unset, .unset, .unset, .unset, .unset, .unset, .unset, .unset] [(.int (8 : Int32)), (.int (8 : Int32))])) _
    refine XS.icmpYes X103.here hx rfl (pc0 := 46) (pc' := 84) rfl (hb hby dc0_46) rfl (by decide) (by decide) (by decide) ?_
    refine XS.iload X103.here hx rfl (hb hby dc0_84) rfl ?_
    refine XS.sipush X103.here hx rfl (hb hby dc0_86) ?_
    refine st105 _ ?_
    show Steps p.tables e below (T105.setTop (mkF m 93 #[.val (.ref a1), .val (.int (1 : Int32)), .val (.long (0 : Int64)), .second, .val (.ref b103), .val (.int (0 : Int32)), .val (.int (8 : Int32)), .unset, .unset, .unset, .unset, .unset, .unset, .unset, .unset, .unset, .unset] [(.ref b105)])) _
    refine XS.astore X105.here hx rfl (hb hby dc0_93) rfl rfl (l' := #[.val (.ref a1), .val (.int (1 : Int32)), .val (.long (0 : Int64)), .second, .val (.ref b103), .val (.int (0 : Int32)), .val (.ref b105), .unset, .unset, .unset, .unset, .unset, .unset, .unset, .unset, .unset, .unset]) rfl ?_
    refine XS.iconst X105.here hx rfl (hb hby dc0_95) ?_
    refine XS.istore X105.here hx rfl (hb hby dc0_96) rfl (l' := #[.val (.ref a1), .val (.int (1 : Int32)), .val (.long (0 : Int64)), .second, .val (.ref b103), .val (.int (0 : Int32)), .val (.ref b105), .val (.int (0 : Int32)), .unset, .unset, .unset, .unset, .unset, .unset, .unset, .unset, .unset]) rfl ?_
    refine XS.iload X105.here hx rfl (hb hby dc0_98) rfl ?_
    refine XS.iloadN X105.here hx rfl (hb hby dc0_100) rfl ?_
    show Steps p.tables e below (T105.setTop (mkF m 101 #[.val (.ref a1), .val (.int (1 : Int32)), .val (.long (0 : Int64)), .second, .val (.ref b103), .val (.int (0 : Int32)), .val (.ref b105), .val (.int (0 : Int32)), .unset, .unset, .unset, .unset, .unset, .unset, .unset, .unset, .unset] [(.int (1 : Int32)), (.int (0 : Int32))])) _
    refine XS.icmpNo X105.here hx rfl (hb hby dc0_101) rfl (by decide) ?_
    refine XS.aloadN X105.here hx rfl (hb hby dc0_104) rfl rfl ?_
    refine XS.iconst X105.here hx rfl (hb hby dc0_105) ?_
    refine XS.iload X105.here hx rfl (hb hby dc0_106) rfl ?_
    refine XS.imul X105.here hx rfl (hb hby dc0_108) rfl ?_
    show Steps p.tables e below (T105.setTop (mkF m 109 #[.val (.ref a1), .val (.int (1 : Int32)), .val (.long (0 : Int64)), .second, .val (.ref b103), .val (.int (0 : Int32)), .val (.ref b105), .val (.int (0 : Int32)), .unset, .unset, .unset, .unset, .unset, .unset, .unset, .unset, .unset] [(.int (0 : Int32)), (.ref a1)])) _
    refine X105.laload hx (j := (0 : Int32)) (v := (.long (f1 (0 : Int32)))) (by rw [e105]; exact Ar108.1) (State.isArrayOf_alike hZ.alike Ar108.2.1) Ar108.2.2 hin108 hat108 (g := (mkF m 109 #[.val (.ref a1), .val (.int (1 : Int32)), .val (.long (0 : Int64)), .second, .val (.ref b103), .val (.int (0 : Int32)), .val (.ref b105), .val (.int (0 : Int32)), .unset, .unset, .unset, .unset, .unset, .unset, .unset, .unset, .unset] [(.int (0 : Int32)), (.ref a1)])) rfl rfl (hb hby dc0_109) _ ?_
    show Steps p.tables e below (T105.setTop (mkF m 110 #[.val (.ref a1), .val (.int (1 : Int32)), .val (.long (0 : Int64)), .second, .val (.ref b103), .val (.int (0 : Int32)), .val (.ref b105), .val (.int (0 : Int32)), .unset, .unset, .unset, .unset, .unset, .unset, .unset, .unset, .unset] [(.long (f1 (0 : Int32)))])) _
    rw [hf0]
    refine X105.ldc2Long hx hown (mvT hZ (hw _ (List.mem_of_getElem? (i := 9) rfl))) (g := (mkF m 110 #[.val (.ref a1), .val (.int (1 : Int32)), .val (.long (0 : Int64)), .second, .val (.ref b103), .val (.int (0 : Int32)), .val (.ref b105), .val (.int (0 : Int32)), .unset, .unset, .unset, .unset, .unset, .unset, .unset, .unset, .unset] [(.long k0)])) rfl (hb hby dc0_110) _ ?_
    refine XS.lxor X105.here hx rfl (hb hby dc0_113) rfl ?_
    refine XS.lstore X105.here hx rfl (hb hby dc0_114) rfl (l' := #[.val (.ref a1), .val (.int (1 : Int32)), .val (.long (0 : Int64)), .second, .val (.ref b103), .val (.int (0 : Int32)), .val (.ref b105), .val (.int (0 : Int32)), .val (.long (k0 ^^^ (-9223372036854775808 : Int64))), .second, .unset, .unset, .unset, .unset, .unset, .unset, .unset]) rfl ?_
    show Steps p.tables e below (T105.setTop (mkF m 116 #[.val (.ref a1), .val (.int (1 : Int32)), .val (.long (0 : Int64)), .second, .val (.ref b103), .val (.int (0 : Int32)), .val (.ref b105), .val (.int (0 : Int32)), .val (.long (k0 ^^^ (-9223372036854775808 : Int64))), .second, .unset, .unset, .unset, .unset, .unset, .unset, .unset] [])) _
    refine XS.iconst X105.here hx rfl (hb hby dc0_116) ?_
    refine XS.istore X105.here hx rfl (hb hby dc0_117) rfl (l' := #[.val (.ref a1), .val (.int (1 : Int32)), .val (.long (0 : Int64)), .second, .val (.ref b103), .val (.int (0 : Int32)), .val (.ref b105), .val (.int (0 : Int32)), .val (.long (k0 ^^^ (-9223372036854775808 : Int64))), .second, .val (.int (0 : Int32)), .unset, .unset, .unset, .unset, .unset, .unset]) rfl ?_
    refine XS.iload X105.here hx rfl (hb hby dc0_119) rfl ?_
    refine XS.iload X105.here hx rfl (hb hby dc0_121) rfl ?_
    show Steps p.tables e below (T105.setTop (mkF m 123 #[.val (.ref a1), .val (.int (1 : Int32)), .val (.long (0 : Int64)), .second, .val (.ref b103), .val (.int (0 : Int32)), .val (.ref b105), .val (.int (0 : Int32)), .val (.long (k0 ^^^ (-9223372036854775808 : Int64))), .second, .val (.int (0 : Int32)), .unset, .unset, .unset, .unset, .unset, .unset] [(.int (0 : Int32)), (.int (0 : Int32))])) _
    refine XS.icmpYes X105.here hx rfl (pc0 := 123) (pc' := 155) rfl (hb hby dc0_123) rfl (by decide) (by decide) (by decide) ?_
    show Steps p.tables e below (T105.setTop (mkF m 155 #[.val (.ref a1), .val (.int (1 : Int32)), .val (.long (0 : Int64)), .second, .val (.ref b103), .val (.int (0 : Int32)), .val (.ref b105), .val (.int (0 : Int32)), .val (.long (k0 ^^^ (-9223372036854775808 : Int64))), .second, .val (.int (0 : Int32)), .unset, .unset, .unset, .unset, .unset, .unset] [])) _
    refine XS.iinc X105.here hx rfl (hb hby dc0_155) rfl (l' := #[.val (.ref a1), .val (.int (1 : Int32)), .val (.long (0 : Int64)), .second, .val (.ref b103), .val (.int (0 : Int32)), .val (.ref b105), .val (.int (1 : Int32)), .val (.long (k0 ^^^ (-9223372036854775808 : Int64))), .second, .val (.int (0 : Int32)), .unset, .unset, .unset, .unset, .unset, .unset]) rfl ?_
    refine XS.goto X105.here hx rfl (pc0 := 158) (pc' := 98) rfl (hb hby dc0_158) (by decide) (by decide) ?_
    refine XS.iload X105.here hx rfl (hb hby dc0_98) rfl ?_
    refine XS.iloadN X105.here hx rfl (hb hby dc0_100) rfl ?_
    show Steps p.tables e below (T105.setTop (mkF m 101 #[.val (.ref a1), .val (.int (1 : Int32)), .val (.long (0 : Int64)), .second, .val (.ref b103), .val (.int (0 : Int32)), .val (.ref b105), .val (.int (1 : Int32)), .val (.long (k0 ^^^ (-9223372036854775808 : Int64))), .second, .val (.int (0 : Int32)), .unset, .unset, .unset, .unset, .unset, .unset] [(.int (1 : Int32)), (.int (1 : Int32))])) _
    refine XS.icmpYes X105.here hx rfl (pc0 := 101) (pc' := 161) rfl (hb hby dc0_101) rfl (by decide) (by decide) (by decide) ?_
    show Steps p.tables e below (T105.setTop (mkF m 161 #[.val (.ref a1), .val (.int (1 : Int32)), .val (.long (0 : Int64)), .second, .val (.ref b103), .val (.int (0 : Int32)), .val (.ref b105), .val (.int (1 : Int32)), .val (.long (k0 ^^^ (-9223372036854775808 : Int64))), .second, .val (.int (0 : Int32)), .unset, .unset, .unset, .unset, .unset, .unset] [])) _
    refine XS.aloadN X105.here hx rfl (hb hby dc0_161) rfl rfl ?_
    refine XS.astore X105.here hx rfl (hb hby dc0_162) rfl rfl (l' := #[.val (.ref a1), .val (.int (1 : Int32)), .val (.long (0 : Int64)), .second, .val (.ref b103), .val (.int (0 : Int32)), .val (.ref b105), .val (.ref a1), .val (.long (k0 ^^^ (-9223372036854775808 : Int64))), .second, .val (.int (0 : Int32)), .unset, .unset, .unset, .unset, .unset, .unset]) rfl ?_
    refine XS.iload X105.here hx rfl (hb hby dc0_164) rfl ?_
    show Steps p.tables e below (T105.setTop (mkF m 166 #[.val (.ref a1), .val (.int (1 : Int32)), .val (.long (0 : Int64)), .second, .val (.ref b103), .val (.int (0 : Int32)), .val (.ref b105), .val (.ref a1), .val (.long (k0 ^^^ (-9223372036854775808 : Int64))), .second, .val (.int (0 : Int32)), .unset, .unset, .unset, .unset, .unset, .unset] [(.int (0 : Int32))])) _
    refine XS.ifNo X105.here hx rfl (hb hby dc0_166) rfl (by decide) ?_
    refine XS.aconstNull X105.here hx rfl (hb hby dc0_169) ?_
    show Steps p.tables e below (T105.setTop (mkF m 170 #[.val (.ref a1), .val (.int (1 : Int32)), .val (.long (0 : Int64)), .second, .val (.ref b103), .val (.int (0 : Int32)), .val (.ref b105), .val (.ref a1), .val (.long (k0 ^^^ (-9223372036854775808 : Int64))), .second, .val (.int (0 : Int32)), .unset, .unset, .unset, .unset, .unset, .unset] [.null])) _
    refine XS.goto X105.here hx rfl (pc0 := 170) (pc' := 177) rfl (hb hby dc0_170) (by decide) (by decide) ?_
    refine XS.astore X105.here hx rfl (hb hby dc0_177) rfl rfl (l' := #[.val (.ref a1), .val (.int (1 : Int32)), .val (.long (0 : Int64)), .second, .val (.ref b103), .val (.int (0 : Int32)), .val (.ref b105), .val (.ref a1), .val .null, .unset, .val (.int (0 : Int32)), .unset, .unset, .unset, .unset, .unset, .unset]) rfl ?_
    refine XS.iconst X105.here hx rfl (hb hby dc0_179) ?_
    refine XS.istore X105.here hx rfl (hb hby dc0_180) rfl (l' := #[.val (.ref a1), .val (.int (1 : Int32)), .val (.long (0 : Int64)), .second, .val (.ref b103), .val (.int (0 : Int32)), .val (.ref b105), .val (.ref a1), .val .null, .val (.int (0 : Int32)), .val (.int (0 : Int32)), .unset, .unset, .unset, .unset, .unset, .unset]) rfl ?_
    refine XS.iload X105.here hx rfl (hb hby dc0_182) rfl ?_
    show Steps p.tables e below (T105.setTop (mkF m 184 #[.val (.ref a1), .val (.int (1 : Int32)), .val (.long (0 : Int64)), .second, .val (.ref b103), .val (.int (0 : Int32)), .val (.ref b105), .val (.ref a1), .val .null, .val (.int (0 : Int32)), .val (.int (0 : Int32)), .unset, .unset, .unset, .unset, .unset, .unset] [(.int (0 : Int32))])) _
    refine XS.iload X105.here hx rfl (hb hby dc0_184) rfl ?_
    show Steps p.tables e below (T105.setTop (mkF m 186 #[.val (.ref a1), .val (.int (1 : Int32)), .val (.long (0 : Int64)), .second, .val (.ref b103), .val (.int (0 : Int32)), .val (.ref b105), .val (.ref a1), .val .null, .val (.int (0 : Int32)), .val (.int (0 : Int32)), .unset, .unset, .unset, .unset, .unset, .unset] [(.int (0 : Int32)), (.int (0 : Int32))])) _
    refine XS.icmpYes X105.here hx rfl (pc0 := 186) (pc' := 335) rfl (hb hby dc0_186) rfl (by decide) (by decide) (by decide) ?_
    refine XS.aload X105.here hx rfl (hb hby dc0_335) rfl rfl ?_
    show Steps p.tables e below (T105.setTop (mkF m 337 #[.val (.ref a1), .val (.int (1 : Int32)), .val (.long (0 : Int64)), .second, .val (.ref b103), .val (.int (0 : Int32)), .val (.ref b105), .val (.ref a1), .val .null, .val (.int (0 : Int32)), .val (.int (0 : Int32)), .unset, .unset, .unset, .unset, .unset, .unset] [(.ref a1)])) _
    exact retOut X105 hx (t := (.array .long)) Bd.returns rfl (Or.inr (Or.inr (Or.inr (Or.inr ⟨rfl, rfl, rfl⟩)))) (hb hby dc0_337) hr
  · show Q_s Z (fun f => f 0 = k0 ∧ f 1 = k0 ^^^ w0) n0 _ T105.heap _
    rw [e105]
    exact ⟨_, f1, rfl, N0, O109, f107, ⟨hf0, hf1⟩⟩
theorem dc0_173 : decode prog_98_method_19_code 173 = .ok (.aload_n 0, 1) := by decide +kernel
theorem dc0_174 : decode prog_98_method_19_code 174 = .ok (.arraylength, 1) := by decide +kernel
theorem dc0_175 : decode prog_98_method_19_code 175 = .ok (.newarray .long, 2) := by decide +kernel
set_option maxRecDepth 65536 in
set_option maxHeartbeats 40000000 in
theorem rmS2 (l : Launch) (Z : State) (a0 : Array Value) (hw : ∀ d ∈ tables_1, d.before a0 Z = true) (ws : List Jvm.Cond) (a1 : Addr) (f1 : Int32 → Int64) (k0 k1 k2 w0 : Int64) (h0 : Heap) (n0 : Nat) (O0 : Old Z n0 h0) (LP : Lv Z h0 a1 6 f1) (g1 : n0 ≤ a1) (hf0 : f1 (0 : Int32) = k0) (hf1 : f1 (1 : Int32) = (k0 ^^^ w0)) (hf2 : f1 (2 : Int32) = k1) (hf3 : f1 (3 : Int32) = (k1 ^^^ w0)) (hf4 : f1 (4 : Int32) = k2) (hf5 : f1 (5 : Int32) = (k2 ^^^ w0)) :
    MetFree l (⟨"com/example/keyfold/keyfold/SortedRows", "sort", "([JI)[J"⟩ : MethodName) (head1 (Jvm.Cond.code (⟨"com/example/keyfold/keyfold/SortedRows", "sort", "([JI)[J"⟩ : MethodName) prog_98_method_19_code 17 (some (.array .long)) :: ws) ({ frames := 0, cells := 11, slots := 2070, locals := 0 } : Room)) (fun a U => a = #[(.ref a1), (.int (2 : Int32))] ∧ Z.Warmed39 U.vm ∧ U.heap = h0) (fun _ _ _ _ _ => True) (fun _ U o U' => ∃ v L, o = .returned v ∧ Q_s Z (Ok2 k0 k1 w0 8) n0 v U'.heap L ∧ FrameEnd U o U' L ({ frames := 0, cells := 11, slots := 2070, locals := 0 } : Room).cells ({ frames := 0, cells := 11, slots := 2070, locals := 0 } : Room).slots) := by
  refine MetFree.of_bodySF (plainFor_of_name pn_0) hisR ?_
  intro p e s m args below meth c s₁ Bd hml0 hP hK
  obtain ⟨rfl, hZ, hh⟩ := hP
  have hx := Bd.exec
  have hby := Bd.bytes
  have hml : c.maxLocals = 17 := hml0
  have hown : s.vm.findClass "com/example/keyfold/keyfold/SortedRows" = some m.cls := findClass_of_methodNamed Bd.named
  have hnm := (name_of_methodNamed Bd.named Bd.method).1
  have X0 : Stand p l e ({ frames := 0, cells := 11, slots := 2070, locals := 0 } : Room) s m #[(.ref a1), (.int (2 : Int32))] below meth c s₁ [] 0 0 := Stand.of_body Bd
  have e0 : s₁.heap = h0 := by rw [← hh, Bd.state]; rfl
  have N0 := Fr.nil n0
  have pre0 : ∀ t, Steps p.tables e below (s₁.setTop (mkF m 0 #[.val (.ref a1), .val (.int (2 : Int32)), .unset, .unset, .unset, .unset, .unset, .unset, .unset, .unset, .unset, .unset, .unset, .unset, .unset, .unset, .unset] [])) t → Steps p.tables e below (s₁.setTop (entryFrame m #[(.ref a1), (.int (2 : Int32))] 17)) t := fun t k => castTop (ef_0 m a1 (2 : Int32)) k
  obtain ⟨cl101, Ar101, S101, H101⟩ := id LP
  have hin101 : ¬ ((0 : Int32) < 0 ∨ cl101.slots.size ≤ ((0 : Int32)).toNatClampNeg) := by rw [S101]; exact (by decide)
  have hat101 : cl101.slots[((0 : Int32)).toNatClampNeg]? = some (.long (f1 (0 : Int32))) := H101 _ hin101
  obtain ⟨cl102, Ar102, S102, H102⟩ := id LP
  have hin102 : ¬ ((0 : Int32) < 0 ∨ cl102.slots.size ≤ ((0 : Int32)).toNatClampNeg) := by rw [S102]; exact (by decide)
  have hat102 : cl102.slots[((0 : Int32)).toNatClampNeg]? = some (.long (f1 (0 : Int32))) := H102 _ hin102
  obtain ⟨cl103, Ar103, S103, H103⟩ := id LP
  have hin103 : ¬ ((2 : Int32) < 0 ∨ cl103.slots.size ≤ ((2 : Int32)).toNatClampNeg) := by rw [S103]; exact (by decide)
  have hat103 : cl103.slots[((2 : Int32)).toNatClampNeg]? = some (.long (f1 (2 : Int32))) := H103 _ hin103
  obtain ⟨cl104, Ar104, S104, H104⟩ := id LP
  have hin104 : ¬ ((0 : Int32) < 0 ∨ cl104.slots.size ≤ ((0 : Int32)).toNatClampNeg) := by rw [S104]; exact (by decide)
  have hat104 : cl104.slots[((0 : Int32)).toNatClampNeg]? = some (.long (f1 (0 : Int32))) := H104 _ hin104
  obtain ⟨T105, h105, k105, X105, e105, E105, A105, st105⟩ := newP X0 hx hZ (hw _ (List.mem_of_getElem? (i := 5) rfl)) e0 (g := (mkF m 32 #[.val (.ref a1), .val (.int (2 : Int32)), .val (.long (own_v2 k0 k1)), .second, .val (.int (2 : Int32)), .unset, .unset, .unset, .unset, .unset, .unset, .unset, .unset, .unset, .unset, .unset, .unset] [(.int (8 : Int32))])) rfl (hb hby dc0_32) rfl (by decide) (cap := 8) (by decide) (by decide) (by decide) (by decide)
  obtain ⟨b105, g105⟩ : ∃ z, z = h0.size := ⟨_, rfl⟩
  rw [← g105] at A105 st105
  have gb105 : n0 ≤ b105 := by rw [g105, ← O0.1]; exact O0.2.1
  have ne105_a1 : a1 ≠ b105 := by rw [g105]; exact Nat.ne_of_lt (LP).lt
  have V105 : La Z h105 b105 .int (8 : Int32) (List.replicate 8 0) := La.zero A105 (by decide) (by decide) rfl
  have pre106 : ∀ t, Steps p.tables e below (T105.setTop (mkF m 42 #[.val (.ref a1), .val (.int (2 : Int32)), .val (.long (own_v2 k0 k1)), .second, .val (.ref b105), .val (.int (0 : Int32)), .val (.int (0 : Int32)), .unset, .unset, .unset, .unset, .unset, .unset, .unset, .unset, .unset, .unset] [])) t → Steps p.tables e below (s₁.setTop (entryFrame m #[(.ref a1), (.int (2 : Int32))] 17)) t := fun t kt => pre0 t (by
      show Steps p.tables e below (s₁.setTop (mkF m 0 #[.val (.ref a1), .val (.int (2 : Int32)), .unset, .unset, .unset, .unset, .unset, .unset, .unset, .unset, .unset, .unset, .unset, .unset, .unset, .unset, .unset] [])) _
      refine XS.lconst X0.here hx rfl (hb hby dc0_0) ?_
      refine XS.lstoreN X0.here hx rfl (hb hby dc0_1) rfl (l' := #[.val (.ref a1), .val (.int (2 : Int32)), .val (.long (0 : Int64)), .second, .unset, .unset, .unset, .unset, .unset, .unset, .unset, .unset, .unset, .unset, .unset, .unset, .unset]) rfl ?_
      show Steps p.tables e below (s₁.setTop (mkF m 2 #[.val (.ref a1), .val (.int (2 : Int32)), .val (.long (0 : Int64)), .second, .unset, .unset, .unset, .unset, .unset, .unset, .unset, .unset, .unset, .unset, .unset, .unset, .unset] [])) _
      refine XS.iconst X0.here hx rfl (hb hby dc0_2) ?_
      refine XS.istore X0.here hx rfl (hb hby dc0_3) rfl (l' := #[.val (.ref a1), .val (.int (2 : Int32)), .val (.long (0 : Int64)), .second, .val (.int (0 : Int32)), .unset, .unset, .unset, .unset, .unset, .unset, .unset, .unset, .unset, .unset, .unset, .unset]) rfl ?_
      refine XS.iload X0.here hx rfl (hb hby dc0_5) rfl ?_
      refine XS.iloadN X0.here hx rfl (hb hby dc0_7) rfl ?_
      show Steps p.tables e below (s₁.setTop (mkF m 8 #[.val (.ref a1), .val (.int (2 : Int32)), .val (.long (0 : Int64)), .second, .val (.int (0 : Int32)), .unset, .unset, .unset, .unset, .unset, .unset, .unset, .unset, .unset, .unset, .unset, .unset] [(.int (2 : Int32)), (.int (0 : Int32))])) _
      refine XS.icmpNo X0.here hx rfl (hb hby dc0_8) rfl (by decide) ?_
      show Steps p.tables e below (s₁.setTop (mkF m 11 #[.val (.ref a1), .val (.int (2 : Int32)), .val (.long (0 : Int64)), .second, .val (.int (0 : Int32)), .unset, .unset, .unset, .unset, .unset, .unset, .unset, .unset, .unset, .unset, .unset, .unset] [])) _
      refine XS.lloadN X0.here hx rfl (hb hby dc0_11) rfl ?_
      refine XS.aloadN X0.here hx rfl (hb hby dc0_12) rfl rfl ?_
      refine XS.iconst X0.here hx rfl (hb hby dc0_13) ?_
      refine XS.iload X0.here hx rfl (hb hby dc0_14) rfl ?_
      refine XS.imul X0.here hx rfl (hb hby dc0_16) rfl ?_
      show Steps p.tables e below (s₁.setTop (mkF m 17 #[.val (.ref a1), .val (.int (2 : Int32)), .val (.long (0 : Int64)), .second, .val (.int (0 : Int32)), .unset, .unset, .unset, .unset, .unset, .unset, .unset, .unset, .unset, .unset, .unset, .unset] [(.int (0 : Int32)), (.ref a1), (.long (0 : Int64))])) _
      refine X0.laload hx (j := (0 : Int32)) (v := (.long (f1 (0 : Int32)))) (by rw [e0]; exact Ar101.1) (State.isArrayOf_alike hZ.alike Ar101.2.1) Ar101.2.2 hin101 hat101 (g := (mkF m 17 #[.val (.ref a1), .val (.int (2 : Int32)), .val (.long (0 : Int64)), .second, .val (.int (0 : Int32)), .unset, .unset, .unset, .unset, .unset, .unset, .unset, .unset, .unset, .unset, .unset, .unset] [(.int (0 : Int32)), (.ref a1), (.long (0 : Int64))])) rfl rfl (hb hby dc0_17) _ ?_
      show Steps p.tables e below (s₁.setTop (mkF m 18 #[.val (.ref a1), .val (.int (2 : Int32)), .val (.long (0 : Int64)), .second, .val (.int (0 : Int32)), .unset, .unset, .unset, .unset, .unset, .unset, .unset, .unset, .unset, .unset, .unset, .unset] [(.long (f1 (0 : Int32))), (.long (0 : Int64))])) _
      rw [hf0]
      refine XS.aloadN X0.here hx rfl (hb hby dc0_18) rfl rfl ?_
      refine XS.iconst X0.here hx rfl (hb hby dc0_19) ?_
      refine X0.laload hx (j := (0 : Int32)) (v := (.long (f1 (0 : Int32)))) (by rw [e0]; exact Ar102.1) (State.isArrayOf_alike hZ.alike Ar102.2.1) Ar102.2.2 hin102 hat102 (g := (mkF m 20 #[.val (.ref a1), .val (.int (2 : Int32)), .val (.long (0 : Int64)), .second, .val (.int (0 : Int32)), .unset, .unset, .unset, .unset, .unset, .unset, .unset, .unset, .unset, .unset, .unset, .unset] [(.int (0 : Int32)), (.ref a1), (.long k0), (.long (0 : Int64))])) rfl rfl (hb hby dc0_20) _ ?_
      show Steps p.tables e below (s₁.setTop (mkF m 21 #[.val (.ref a1), .val (.int (2 : Int32)), .val (.long (0 : Int64)), .second, .val (.int (0 : Int32)), .unset, .unset, .unset, .unset, .unset, .unset, .unset, .unset, .unset, .unset, .unset, .unset] [(.long (f1 (0 : Int32))), (.long k0), (.long (0 : Int64))])) _
      rw [hf0]
      refine XS.lxor X0.here hx rfl (hb hby dc0_21) rfl ?_
      refine XS.lor X0.here hx rfl (hb hby dc0_22) rfl ?_
      refine XS.lstoreN X0.here hx rfl (hb hby dc0_23) rfl (l' := #[.val (.ref a1), .val (.int (2 : Int32)), .val (.long ((0 : Int64) ||| (k0 ^^^ k0))), .second, .val (.int (0 : Int32)), .unset, .unset, .unset, .unset, .unset, .unset, .unset, .unset, .unset, .unset, .unset, .unset]) rfl ?_
      refine XS.iinc X0.here hx rfl (hb hby dc0_24) rfl (l' := #[.val (.ref a1), .val (.int (2 : Int32)), .val (.long ((0 : Int64) ||| (k0 ^^^ k0))), .second, .val (.int (1 : Int32)), .unset, .unset, .unset, .unset, .unset, .unset, .unset, .unset, .unset, .unset, .unset, .unset]) rfl ?_
      show Steps p.tables e below (s₁.setTop (mkF m 27 #[.val (.ref a1), .val (.int (2 : Int32)), .val (.long ((0 : Int64) ||| (k0 ^^^ k0))), .second, .val (.int (1 : Int32)), .unset, .unset, .unset, .unset, .unset, .unset, .unset, .unset, .unset, .unset, .unset, .unset] [])) _
      refine XS.goto X0.here hx rfl (pc0 := 27) (pc' := 5) rfl (hb hby dc0_27) (by decide) (by decide) ?_
      refine XS.iload X0.here hx rfl (hb hby dc0_5) rfl ?_
      refine XS.iloadN X0.here hx rfl (hb hby dc0_7) rfl ?_
      show Steps p.tables e below (s₁.setTop (mkF m 8 #[.val (.ref a1), .val (.int (2 : Int32)), .val (.long ((0 : Int64) ||| (k0 ^^^ k0))), .second, .val (.int (1 : Int32)), .unset, .unset, .unset, .unset, .unset, .unset, .unset, .unset, .unset, .unset, .unset, .unset] [(.int (2 : Int32)), (.int (1 : Int32))])) _
      refine XS.icmpNo X0.here hx rfl (hb hby dc0_8) rfl (by decide) ?_
      refine XS.lloadN X0.here hx rfl (hb hby dc0_11) rfl ?_
      show Steps p.tables e below (s₁.setTop (mkF m 12 #[.val (.ref a1), .val (.int (2 : Int32)), .val (.long ((0 : Int64) ||| (k0 ^^^ k0))), .second, .val (.int (1 : Int32)), .unset, .unset, .unset, .unset, .unset, .unset, .unset, .unset, .unset, .unset, .unset, .unset] [(.long ((0 : Int64) ||| (k0 ^^^ k0)))])) _
      refine XS.aloadN X0.here hx rfl (hb hby dc0_12) rfl rfl ?_
      refine XS.iconst X0.here hx rfl (hb hby dc0_13) ?_
      refine XS.iload X0.here hx rfl (hb hby dc0_14) rfl ?_
      refine XS.imul X0.here hx rfl (hb hby dc0_16) rfl ?_
      refine X0.laload hx (j := (2 : Int32)) (v := (.long (f1 (2 : Int32)))) (by rw [e0]; exact Ar103.1) (State.isArrayOf_alike hZ.alike Ar103.2.1) Ar103.2.2 hin103 hat103 (g := (mkF m 17 #[.val (.ref a1), .val (.int (2 : Int32)), .val (.long ((0 : Int64) ||| (k0 ^^^ k0))), .second, .val (.int (1 : Int32)), .unset, .unset, .unset, .unset, .unset, .unset, .unset, .unset, .unset, .unset, .unset, .unset] [(.int (2 : Int32)), (.ref a1), (.long ((0 : Int64) ||| (k0 ^^^ k0)))])) rfl rfl (hb hby dc0_17) _ ?_
      show Steps p.tables e below (s₁.setTop (mkF m 18 #[.val (.ref a1), .val (.int (2 : Int32)), .val (.long ((0 : Int64) ||| (k0 ^^^ k0))), .second, .val (.int (1 : Int32)), .unset, .unset, .unset, .unset, .unset, .unset, .unset, .unset, .unset, .unset, .unset, .unset] [(.long (f1 (2 : Int32))), (.long ((0 : Int64) ||| (k0 ^^^ k0)))])) _
      rw [hf2]
      refine XS.aloadN X0.here hx rfl (hb hby dc0_18) rfl rfl ?_
      refine XS.iconst X0.here hx rfl (hb hby dc0_19) ?_
      refine X0.laload hx (j := (0 : Int32)) (v := (.long (f1 (0 : Int32)))) (by rw [e0]; exact Ar104.1) (State.isArrayOf_alike hZ.alike Ar104.2.1) Ar104.2.2 hin104 hat104 (g := (mkF m 20 #[.val (.ref a1), .val (.int (2 : Int32)), .val (.long ((0 : Int64) ||| (k0 ^^^ k0))), .second, .val (.int (1 : Int32)), .unset, .unset, .unset, .unset, .unset, .unset, .unset, .unset, .unset, .unset, .unset, .unset] [(.int (0 : Int32)), (.ref a1), (.long k1), (.long ((0 : Int64) ||| (k0 ^^^ k0)))])) rfl rfl (hb hby dc0_20) _ ?_
      show Steps p.tables e below (s₁.setTop (mkF m 21 #[.val (.ref a1), .val (.int (2 : Int32)), .val (.long ((0 : Int64) ||| (k0 ^^^ k0))), .second, .val (.int (1 : Int32)), .unset, .unset, .unset, .unset, .unset, .unset, .unset, .unset, .unset, .unset, .unset, .unset] [(.long (f1 (0 : Int32))), (.long k1), (.long ((0 : Int64) ||| (k0 ^^^ k0)))])) _
      rw [hf0]
      show Steps p.tables e below (s₁.setTop (mkF m 21 #[.val (.ref a1), .val (.int (2 : Int32)), .val (.long ((0 : Int64) ||| (k0 ^^^ k0))), .second, .val (.int (1 : Int32)), .unset, .unset, .unset, .unset, .unset, .unset, .unset, .unset, .unset, .unset, .unset, .unset] [(.long k0), (.long k1), (.long ((0 : Int64) ||| (k0 ^^^ k0)))])) _
      refine XS.lxor X0.here hx rfl (hb hby dc0_21) rfl ?_
      refine XS.lor X0.here hx rfl (hb hby dc0_22) rfl ?_
      show Steps p.tables e below (s₁.setTop (mkF m 23 #[.val (.ref a1), .val (.int (2 : Int32)), .val (.long ((0 : Int64) ||| (k0 ^^^ k0))), .second, .val (.int (1 : Int32)), .unset, .unset, .unset, .unset, .unset, .unset, .unset, .unset, .unset, .unset, .unset, .unset] [(.long (((0 : Int64) ||| (k0 ^^^ k0)) ||| (k1 ^^^ k0)))])) _
      rw [(show (((0 : Int64) ||| (k0 ^^^ k0)) ||| (k1 ^^^ k0)) = own_v2 k0 k1 from rfl)]
      refine XS.lstoreN X0.here hx rfl (hb hby dc0_23) rfl (l' := #[.val (.ref a1), .val (.int (2 : Int32)), .val (.long (own_v2 k0 k1)), .second, .val (.int (1 : Int32)), .unset, .unset, .unset, .unset, .unset, .unset, .unset, .unset, .unset, .unset, .unset, .unset]) rfl ?_
      refine XS.iinc X0.here hx rfl (hb hby dc0_24) rfl (l' := #[.val (.ref a1), .val (.int (2 : Int32)), .val (.long (own_v2 k0 k1)), .second, .val (.int (2 : Int32)), .unset, .unset, .unset, .unset, .unset, .unset, .unset, .unset, .unset, .unset, .unset, .unset]) rfl ?_
      show Steps p.tables e below (s₁.setTop (mkF m 27 #[.val (.ref a1), .val (.int (2 : Int32)), .val (.long (own_v2 k0 k1)), .second, .val (.int (2 : Int32)), .unset, .unset, .unset, .unset, .unset, .unset, .unset, .unset, .unset, .unset, .unset, .unset] [])) _
      refine XS.goto X0.here hx rfl (pc0 := 27) (pc' := 5) rfl (hb hby dc0_27) (by decide) (by decide) ?_
      refine XS.iload X0.here hx rfl (hb hby dc0_5) rfl ?_
      refine XS.iloadN X0.here hx rfl (hb hby dc0_7) rfl ?_
      show Steps p.tables e below (s₁.setTop (mkF m 8 #[.val (.ref a1), .val (.int (2 : Int32)), .val (.long (own_v2 k0 k1)), .second, .val (.int (2 : Int32)), .unset, .unset, .unset, .unset, .unset, .unset, .unset, .unset, .unset, .unset, .unset, .unset] [(.int (2 : Int32)), (.int (2 : Int32))])) _
      refine XS.icmpYes X0.here hx rfl (pc0 := 8) (pc' := 30) rfl (hb hby dc0_8) rfl (by decide) (by decide) (by decide) ?_
      refine XS.bipush X0.here hx rfl (hb hby dc0_30) ?_
      show Steps p.tables e below (s₁.setTop (mkF m 32 #[.val (.ref a1), .val (.int (2 : Int32)), .val (.long (own_v2 k0 k1)), .second, .val (.int (2 : Int32)), .unset, .unset, .unset, .unset, .unset, .unset, .unset, .unset, .unset, .unset, .unset, .unset] [(.int (8 : Int32))])) _
      refine st105 _ ?_
      refine XS.astore X105.here hx rfl (hb hby dc0_34) rfl rfl (l' := #[.val (.ref a1), .val (.int (2 : Int32)), .val (.long (own_v2 k0 k1)), .second, .val (.ref b105), .unset, .unset, .unset, .unset, .unset, .unset, .unset, .unset, .unset, .unset, .unset, .unset]) rfl ?_
      refine XS.iconst X105.here hx rfl (hb hby dc0_36) ?_
      refine XS.istore X105.here hx rfl (hb hby dc0_37) rfl (l' := #[.val (.ref a1), .val (.int (2 : Int32)), .val (.long (own_v2 k0 k1)), .second, .val (.ref b105), .val (.int (0 : Int32)), .unset, .unset, .unset, .unset, .unset, .unset, .unset, .unset, .unset, .unset, .unset]) rfl ?_
      refine XS.iconst X105.here hx rfl (hb hby dc0_39) ?_
      show Steps p.tables e below (T105.setTop (mkF m 40 #[.val (.ref a1), .val (.int (2 : Int32)), .val (.long (own_v2 k0 k1)), .second, .val (.ref b105), .val (.int (0 : Int32)), .unset, .unset, .unset, .unset, .unset, .unset, .unset, .unset, .unset, .unset, .unset] [(.int (0 : Int32))])) _
      refine XS.istore X105.here hx rfl (hb hby dc0_40) rfl (l' := #[.val (.ref a1), .val (.int (2 : Int32)), .val (.long (own_v2 k0 k1)), .second, .val (.ref b105), .val (.int (0 : Int32)), .val (.int (0 : Int32)), .unset, .unset, .unset, .unset, .unset, .unset, .unset, .unset, .unset, .unset]) rfl ?_
      exact kt)
  have f108 := (LP.ext E105)
  have O109 : Old Z n0 h105 := (O0.ext E105)
  obtain ⟨h107, P107, xs107, G107, K107, A107, hg107⟩ := dgL hx hZ hw hby hml hown (.val (.ref a1)) (.val (.int (2 : Int32))) (.unset) (.unset) (.unset) (.unset) (.unset) (.unset) (.unset) (.unset) (.unset) (.unset) (own_v2 k0 k1) b105 gb105 8 h105 (0 : Int32) (0 : Int32) _ 0 (by omega) rfl (Dg.start _) V105 ⟨_, _, X105, e105, N0, O109, pre106⟩
  have Lp107 := (f108).keep K107 (ninS ne105_a1 nin0)
  obtain ⟨T107, L107, X107, e107, N107, O107, pre107⟩ := G107
  have hP107 : 0 ≤ P107.toInt ∧ P107.toInt ≤ 8 := by have := hg107.in8 (Nat.le_refl 8); omega
  have hN107 : (P107).toNatClampNeg ≤ 8 := by show P107.toInt.toNat ≤ 8; omega
  obtain ⟨T110, h110, k110, kc110, X110_, e110, E110, A110, -, -, I110, st110⟩ := gridM X107 hx hZ hown (C := "[I") (ad := "[[I") (ty := .int) (by first | rfl | decide) (by first | rfl | decide) (hw _ (List.mem_of_getElem? (i := 7) rfl)) (hw _ (List.mem_of_getElem? (i := 8) rfl)) (hw _ (List.mem_of_getElem? (i := 5) rfl)) e107 (g := (mkF m 89 #[.val (.ref a1), .val (.int (2 : Int32)), .val (.long (own_v2 k0 k1)), .second, .val (.ref b105), .val (.int P107), .val (.int (8 : Int32)), .unset, .unset, .unset, .unset, .unset, .unset, .unset, .unset, .unset, .unset] [(.int (256 : Int32)), (.int P107)])) rfl (hb hby dc0_89) rfl (own_nltI hP107.1) (by decide) (N := (P107).toNatClampNeg) rfl rfl (cap := 256) (by decide) (by decide) (Nat.le_trans hN107 (by decide)) (by decide) (by decide) (Nat.le_trans (Nat.add_le_add_left (Nat.add_le_add_left hN107 1) _) (by decide : 1 + (1 + 8) ≤ _)) (Nat.le_trans (Nat.add_le_add_left (Nat.add_le_add hN107 (Nat.mul_le_mul_right _ hN107)) _) (by decide : 8 + (8 + 8 * 256) ≤ _))
  have X110 := X110_.more (Nat.add_le_add_left (Nat.add_le_add_left hN107 1) _ : 1 + (1 + _) ≤ 1 + (1 + 8)) (Nat.add_le_add_left (Nat.add_le_add hN107 (Nat.mul_le_mul_right _ hN107)) _ : 8 + (_ + _ * 256) ≤ 8 + (8 + 8 * 256))
  obtain ⟨b110, g110⟩ : ∃ z, z = h107.size := ⟨_, rfl⟩
  rw [← g110] at A110 I110 st110
  have gb110 : n0 ≤ b110 := by rw [g110, ← O107.1]; exact O107.2.1
  have ne110_a1 : a1 ≠ b110 := by rw [g110]; exact Nat.ne_of_lt (Lp107).lt
  have ne110_b105 : b105 ≠ b110 := by rw [g110]; exact Nat.ne_of_lt (A107).lt
  have Gd110 : Gd Z h110 b110 (b110 + 1) P107 (fun _ _ => 0) := Gd.new A110 I110
  have lt4 : b105 < b110 := by rw [g110]; exact (A107).lt
  have lt1 : a1 < b110 := by rw [g110]; exact (Lp107).lt
  have f111 := (Lp107.ext E110)
  obtain ⟨cl112, Ar112, S112, H112⟩ := id f111
  have hin112 : ¬ ((0 : Int32) < 0 ∨ cl112.slots.size ≤ ((0 : Int32)).toNatClampNeg) := by rw [S112]; exact (by decide)
  have hat112 : cl112.slots[((0 : Int32)).toNatClampNeg]? = some (.long (f1 (0 : Int32))) := H112 _ hin112
  have pre113 : ∀ t, Steps p.tables e below (T110.setTop (mkF m 119 #[.val (.ref a1), .val (.int (2 : Int32)), .val (.long (own_v2 k0 k1)), .second, .val (.ref b105), .val (.int P107), .val (.ref b110), .val (.int (0 : Int32)), .val (.long (k0 ^^^ (-9223372036854775808 : Int64))), .second, .val (.int (0 : Int32)), .unset, .unset, .unset, .unset, .unset, .unset] [])) t → Steps p.tables e below (s₁.setTop (entryFrame m #[(.ref a1), (.int (2 : Int32))] 17)) t := fun t kt => pre107 t (by
      show Steps p.tables e below (T107.setTop (mkF m 42 #[.val (.ref a1), .val (.int (2 : Int32)), .val (.long (own_v2 k0 k1)), .second, .val (.ref b105), .val (.int P107), .val (.int (8 : Int32)), .unset, .unset, .unset, .unset, .unset, .unset, .unset, .unset, .unset, .unset] [])) _
      refine XS.iload X107.here hx rfl (hb hby dc0_42) rfl ?_
      refine XS.bipush X107.here hx rfl (hb hby dc0_44) ?_
      show Steps p.tables e below (T107.setTop (mkF m 46 #[.val (.ref a1), .val (.int (2 : Int32)), .val (.long (own_v2 k0 k1)), .second, .val (.ref b105), .val (.int P107), .val (.int (8 : Int32)), .unset, .unset, .unset, .unset, .unset, .unset, .unset, .unset, .unset, .unset] [(.int (8 : Int32)), (.int (8 : Int32))])) _
      refine XS.icmpYes X107.here hx rfl (pc0 := 46) (pc' := 84) rfl (hb hby dc0_46) rfl (by decide) (by decide) (by decide) ?_
      refine XS.iload X107.here hx rfl (hb hby dc0_84) rfl ?_
      show Steps p.tables e below (T107.setTop (mkF m 86 #[.val (.ref a1), .val (.int (2 : Int32)), .val (.long (own_v2 k0 k1)), .second, .val (.ref b105), .val (.int P107), .val (.int (8 : Int32)), .unset, .unset, .unset, .unset, .unset, .unset, .unset, .unset, .unset, .unset] [(.int P107)])) _
      refine XS.sipush X107.here hx rfl (hb hby dc0_86) ?_
      refine st110 _ ?_
      refine XS.astore X110.here hx rfl (hb hby dc0_93) rfl rfl (l' := #[.val (.ref a1), .val (.int (2 : Int32)), .val (.long (own_v2 k0 k1)), .second, .val (.ref b105), .val (.int P107), .val (.ref b110), .unset, .unset, .unset, .unset, .unset, .unset, .unset, .unset, .unset, .unset]) rfl ?_
      refine XS.iconst X110.here hx rfl (hb hby dc0_95) ?_
      refine XS.istore X110.here hx rfl (hb hby dc0_96) rfl (l' := #[.val (.ref a1), .val (.int (2 : Int32)), .val (.long (own_v2 k0 k1)), .second, .val (.ref b105), .val (.int P107), .val (.ref b110), .val (.int (0 : Int32)), .unset, .unset, .unset, .unset, .unset, .unset, .unset, .unset, .unset]) rfl ?_
      show Steps p.tables e below (T110.setTop (mkF m 98 #[.val (.ref a1), .val (.int (2 : Int32)), .val (.long (own_v2 k0 k1)), .second, .val (.ref b105), .val (.int P107), .val (.ref b110), .val (.int (0 : Int32)), .unset, .unset, .unset, .unset, .unset, .unset, .unset, .unset, .unset] [])) _
      refine XS.iload X110.here hx rfl (hb hby dc0_98) rfl ?_
      refine XS.iloadN X110.here hx rfl (hb hby dc0_100) rfl ?_
      show Steps p.tables e below (T110.setTop (mkF m 101 #[.val (.ref a1), .val (.int (2 : Int32)), .val (.long (own_v2 k0 k1)), .second, .val (.ref b105), .val (.int P107), .val (.ref b110), .val (.int (0 : Int32)), .unset, .unset, .unset, .unset, .unset, .unset, .unset, .unset, .unset] [(.int (2 : Int32)), (.int (0 : Int32))])) _
      refine XS.icmpNo X110.here hx rfl (hb hby dc0_101) rfl (by decide) ?_
      refine XS.aloadN X110.here hx rfl (hb hby dc0_104) rfl rfl ?_
      refine XS.iconst X110.here hx rfl (hb hby dc0_105) ?_
      show Steps p.tables e below (T110.setTop (mkF m 106 #[.val (.ref a1), .val (.int (2 : Int32)), .val (.long (own_v2 k0 k1)), .second, .val (.ref b105), .val (.int P107), .val (.ref b110), .val (.int (0 : Int32)), .unset, .unset, .unset, .unset, .unset, .unset, .unset, .unset, .unset] [(.int (2 : Int32)), (.ref a1)])) _
      refine XS.iload X110.here hx rfl (hb hby dc0_106) rfl ?_
      refine XS.imul X110.here hx rfl (hb hby dc0_108) rfl ?_
      refine X110.laload hx (j := (0 : Int32)) (v := (.long (f1 (0 : Int32)))) (by rw [e110]; exact Ar112.1) (State.isArrayOf_alike hZ.alike Ar112.2.1) Ar112.2.2 hin112 hat112 (g := (mkF m 109 #[.val (.ref a1), .val (.int (2 : Int32)), .val (.long (own_v2 k0 k1)), .second, .val (.ref b105), .val (.int P107), .val (.ref b110), .val (.int (0 : Int32)), .unset, .unset, .unset, .unset, .unset, .unset, .unset, .unset, .unset] [(.int (0 : Int32)), (.ref a1)])) rfl rfl (hb hby dc0_109) _ ?_
      show Steps p.tables e below (T110.setTop (mkF m 110 #[.val (.ref a1), .val (.int (2 : Int32)), .val (.long (own_v2 k0 k1)), .second, .val (.ref b105), .val (.int P107), .val (.ref b110), .val (.int (0 : Int32)), .unset, .unset, .unset, .unset, .unset, .unset, .unset, .unset, .unset] [(.long (f1 (0 : Int32)))])) _
      rw [hf0]
      refine X110.ldc2Long hx hown (mvT hZ (hw _ (List.mem_of_getElem? (i := 9) rfl))) (g := (mkF m 110 #[.val (.ref a1), .val (.int (2 : Int32)), .val (.long (own_v2 k0 k1)), .second, .val (.ref b105), .val (.int P107), .val (.ref b110), .val (.int (0 : Int32)), .unset, .unset, .unset, .unset, .unset, .unset, .unset, .unset, .unset] [(.long k0)])) rfl (hb hby dc0_110) _ ?_
      show Steps p.tables e below (T110.setTop (mkF m 113 #[.val (.ref a1), .val (.int (2 : Int32)), .val (.long (own_v2 k0 k1)), .second, .val (.ref b105), .val (.int P107), .val (.ref b110), .val (.int (0 : Int32)), .unset, .unset, .unset, .unset, .unset, .unset, .unset, .unset, .unset] [(.long (-9223372036854775808 : Int64)), (.long k0)])) _
      refine XS.lxor X110.here hx rfl (hb hby dc0_113) rfl ?_
      refine XS.lstore X110.here hx rfl (hb hby dc0_114) rfl (l' := #[.val (.ref a1), .val (.int (2 : Int32)), .val (.long (own_v2 k0 k1)), .second, .val (.ref b105), .val (.int P107), .val (.ref b110), .val (.int (0 : Int32)), .val (.long (k0 ^^^ (-9223372036854775808 : Int64))), .second, .unset, .unset, .unset, .unset, .unset, .unset, .unset]) rfl ?_
      refine XS.iconst X110.here hx rfl (hb hby dc0_116) ?_
      refine XS.istore X110.here hx rfl (hb hby dc0_117) rfl (l' := #[.val (.ref a1), .val (.int (2 : Int32)), .val (.long (own_v2 k0 k1)), .second, .val (.ref b105), .val (.int P107), .val (.ref b110), .val (.int (0 : Int32)), .val (.long (k0 ^^^ (-9223372036854775808 : Int64))), .second, .val (.int (0 : Int32)), .unset, .unset, .unset, .unset, .unset, .unset]) rfl ?_
      exact kt)
  have f115 := (A107.ext E110)
  have O116 : Old Z n0 h110 := (O107.ext E110)
  obtain ⟨h114, cc114, G114, K114, Gd114, hc114⟩ := cnL hx hZ hw hby hml hown (.val (.ref a1)) (.val (.int (2 : Int32))) (.val (.long (own_v2 k0 k1))) (.second) (.val (.int (0 : Int32))) (.unset) (.unset) (.unset) (.unset) (.unset) (.unset) k0 b105 b110 (b110 + 1) P107 xs107 rfl lt4 gb110 hP107.2 (P107).toNatClampNeg h110 (0 : Int32) _ (by show (0 : Int) + ((P107.toInt.toNat : Nat) : Int) = P107.toInt; omega) (by decide) f115 Gd110 ⟨_, _, X110, e110, N107, O116, pre113⟩
  have A4114 := (f115).keep K114 (own_nin (Nat.lt_succ_of_lt lt4))
  have Lp114 := (f111).keep K114 (own_nin (Nat.lt_succ_of_lt lt1))
  obtain ⟨T114, L114, X114, e114, N114, O114, pre114⟩ := G114
  obtain ⟨cl117, Ar117, S117, H117⟩ := id Lp114
  have hin117 : ¬ ((2 : Int32) < 0 ∨ cl117.slots.size ≤ ((2 : Int32)).toNatClampNeg) := by rw [S117]; exact (by decide)
  have hat117 : cl117.slots[((2 : Int32)).toNatClampNeg]? = some (.long (f1 (2 : Int32))) := H117 _ hin117
  have pre118 : ∀ t, Steps p.tables e below (T114.setTop (mkF m 119 #[.val (.ref a1), .val (.int (2 : Int32)), .val (.long (own_v2 k0 k1)), .second, .val (.ref b105), .val (.int P107), .val (.ref b110), .val (.int (1 : Int32)), .val (.long (k1 ^^^ (-9223372036854775808 : Int64))), .second, .val (.int (0 : Int32)), .unset, .unset, .unset, .unset, .unset, .unset] [])) t → Steps p.tables e below (s₁.setTop (entryFrame m #[(.ref a1), (.int (2 : Int32))] 17)) t := fun t kt => pre114 t (by
      show Steps p.tables e below (T114.setTop (mkF m 119 #[.val (.ref a1), .val (.int (2 : Int32)), .val (.long (own_v2 k0 k1)), .second, .val (.ref b105), .val (.int P107), .val (.ref b110), .val (.int (0 : Int32)), .val (.long (k0 ^^^ (-9223372036854775808 : Int64))), .second, .val (.int P107), .unset, .unset, .unset, .unset, .unset, .unset] [])) _
      refine XS.iload X114.here hx rfl (hb hby dc0_119) rfl ?_
      show Steps p.tables e below (T114.setTop (mkF m 121 #[.val (.ref a1), .val (.int (2 : Int32)), .val (.long (own_v2 k0 k1)), .second, .val (.ref b105), .val (.int P107), .val (.ref b110), .val (.int (0 : Int32)), .val (.long (k0 ^^^ (-9223372036854775808 : Int64))), .second, .val (.int P107), .unset, .unset, .unset, .unset, .unset, .unset] [(.int P107)])) _
      refine XS.iload X114.here hx rfl (hb hby dc0_121) rfl ?_
      show Steps p.tables e below (T114.setTop (mkF m 123 #[.val (.ref a1), .val (.int (2 : Int32)), .val (.long (own_v2 k0 k1)), .second, .val (.ref b105), .val (.int P107), .val (.ref b110), .val (.int (0 : Int32)), .val (.long (k0 ^^^ (-9223372036854775808 : Int64))), .second, .val (.int P107), .unset, .unset, .unset, .unset, .unset, .unset] [(.int P107), (.int P107)])) _
      refine XS.icmpYes X114.here hx rfl (pc0 := 123) (pc' := 155) rfl (hb hby dc0_123) rfl (flt (own_irr _)).2.1 (by decide) (by decide) ?_
      refine XS.iinc X114.here hx rfl (hb hby dc0_155) rfl (l' := #[.val (.ref a1), .val (.int (2 : Int32)), .val (.long (own_v2 k0 k1)), .second, .val (.ref b105), .val (.int P107), .val (.ref b110), .val (.int (1 : Int32)), .val (.long (k0 ^^^ (-9223372036854775808 : Int64))), .second, .val (.int P107), .unset, .unset, .unset, .unset, .unset, .unset]) rfl ?_
      refine XS.goto X114.here hx rfl (pc0 := 158) (pc' := 98) rfl (hb hby dc0_158) (by decide) (by decide) ?_
      refine XS.iload X114.here hx rfl (hb hby dc0_98) rfl ?_
      show Steps p.tables e below (T114.setTop (mkF m 100 #[.val (.ref a1), .val (.int (2 : Int32)), .val (.long (own_v2 k0 k1)), .second, .val (.ref b105), .val (.int P107), .val (.ref b110), .val (.int (1 : Int32)), .val (.long (k0 ^^^ (-9223372036854775808 : Int64))), .second, .val (.int P107), .unset, .unset, .unset, .unset, .unset, .unset] [(.int (1 : Int32))])) _
      refine XS.iloadN X114.here hx rfl (hb hby dc0_100) rfl ?_
      show Steps p.tables e below (T114.setTop (mkF m 101 #[.val (.ref a1), .val (.int (2 : Int32)), .val (.long (own_v2 k0 k1)), .second, .val (.ref b105), .val (.int P107), .val (.ref b110), .val (.int (1 : Int32)), .val (.long (k0 ^^^ (-9223372036854775808 : Int64))), .second, .val (.int P107), .unset, .unset, .unset, .unset, .unset, .unset] [(.int (2 : Int32)), (.int (1 : Int32))])) _
      refine XS.icmpNo X114.here hx rfl (hb hby dc0_101) rfl (by decide) ?_
      refine XS.aloadN X114.here hx rfl (hb hby dc0_104) rfl rfl ?_
      refine XS.iconst X114.here hx rfl (hb hby dc0_105) ?_
      refine XS.iload X114.here hx rfl (hb hby dc0_106) rfl ?_
      show Steps p.tables e below (T114.setTop (mkF m 108 #[.val (.ref a1), .val (.int (2 : Int32)), .val (.long (own_v2 k0 k1)), .second, .val (.ref b105), .val (.int P107), .val (.ref b110), .val (.int (1 : Int32)), .val (.long (k0 ^^^ (-9223372036854775808 : Int64))), .second, .val (.int P107), .unset, .unset, .unset, .unset, .unset, .unset] [(.int (1 : Int32)), (.int (2 : Int32)), (.ref a1)])) _
      refine XS.imul X114.here hx rfl (hb hby dc0_108) rfl ?_
      refine X114.laload hx (j := (2 : Int32)) (v := (.long (f1 (2 : Int32)))) (by rw [e114]; exact Ar117.1) (State.isArrayOf_alike hZ.alike Ar117.2.1) Ar117.2.2 hin117 hat117 (g := (mkF m 109 #[.val (.ref a1), .val (.int (2 : Int32)), .val (.long (own_v2 k0 k1)), .second, .val (.ref b105), .val (.int P107), .val (.ref b110), .val (.int (1 : Int32)), .val (.long (k0 ^^^ (-9223372036854775808 : Int64))), .second, .val (.int P107), .unset, .unset, .unset, .unset, .unset, .unset] [(.int (2 : Int32)), (.ref a1)])) rfl rfl (hb hby dc0_109) _ ?_
      show Steps p.tables e below (T114.setTop (mkF m 110 #[.val (.ref a1), .val (.int (2 : Int32)), .val (.long (own_v2 k0 k1)), .second, .val (.ref b105), .val (.int P107), .val (.ref b110), .val (.int (1 : Int32)), .val (.long (k0 ^^^ (-9223372036854775808 : Int64))), .second, .val (.int P107), .unset, .unset, .unset, .unset, .unset, .unset] [(.long (f1 (2 : Int32)))])) _
      rw [hf2]
      refine X114.ldc2Long hx hown (mvT hZ (hw _ (List.mem_of_getElem? (i := 9) rfl))) (g := (mkF m 110 #[.val (.ref a1), .val (.int (2 : Int32)), .val (.long (own_v2 k0 k1)), .second, .val (.ref b105), .val (.int P107), .val (.ref b110), .val (.int (1 : Int32)), .val (.long (k0 ^^^ (-9223372036854775808 : Int64))), .second, .val (.int P107), .unset, .unset, .unset, .unset, .unset, .unset] [(.long k1)])) rfl (hb hby dc0_110) _ ?_
      refine XS.lxor X114.here hx rfl (hb hby dc0_113) rfl ?_
      show Steps p.tables e below (T114.setTop (mkF m 114 #[.val (.ref a1), .val (.int (2 : Int32)), .val (.long (own_v2 k0 k1)), .second, .val (.ref b105), .val (.int P107), .val (.ref b110), .val (.int (1 : Int32)), .val (.long (k0 ^^^ (-9223372036854775808 : Int64))), .second, .val (.int P107), .unset, .unset, .unset, .unset, .unset, .unset] [(.long (k1 ^^^ (-9223372036854775808 : Int64)))])) _
      refine XS.lstore X114.here hx rfl (hb hby dc0_114) rfl (l' := #[.val (.ref a1), .val (.int (2 : Int32)), .val (.long (own_v2 k0 k1)), .second, .val (.ref b105), .val (.int P107), .val (.ref b110), .val (.int (1 : Int32)), .val (.long (k1 ^^^ (-9223372036854775808 : Int64))), .second, .val (.int P107), .unset, .unset, .unset, .unset, .unset, .unset]) rfl ?_
      refine XS.iconst X114.here hx rfl (hb hby dc0_116) ?_
      refine XS.istore X114.here hx rfl (hb hby dc0_117) rfl (l' := #[.val (.ref a1), .val (.int (2 : Int32)), .val (.long (own_v2 k0 k1)), .second, .val (.ref b105), .val (.int P107), .val (.ref b110), .val (.int (1 : Int32)), .val (.long (k1 ^^^ (-9223372036854775808 : Int64))), .second, .val (.int (0 : Int32)), .unset, .unset, .unset, .unset, .unset, .unset]) rfl ?_
      exact kt)
  obtain ⟨h119, cc119, G119, K119, Gd119, hc119⟩ := cnL hx hZ hw hby hml hown (.val (.ref a1)) (.val (.int (2 : Int32))) (.val (.long (own_v2 k0 k1))) (.second) (.val (.int (1 : Int32))) (.unset) (.unset) (.unset) (.unset) (.unset) (.unset) k1 b105 b110 (b110 + 1) P107 xs107 rfl lt4 gb110 hP107.2 (P107).toNatClampNeg h114 (0 : Int32) _ (by show (0 : Int) + ((P107.toInt.toNat : Nat) : Int) = P107.toInt; omega) (by decide) A4114 Gd114 ⟨_, _, X114, e114, N114, O114, pre118⟩
  have A4119 := (A4114).keep K119 (own_nin (Nat.lt_succ_of_lt lt4))
  have Lp119 := (Lp114).keep K119 (own_nin (Nat.lt_succ_of_lt lt1))
  obtain ⟨T119, L119, X119, e119, N119, O119, pre119⟩ := G119
  have pre120 : ∀ t, Steps p.tables e below (T119.setTop (mkF m 161 #[.val (.ref a1), .val (.int (2 : Int32)), .val (.long (own_v2 k0 k1)), .second, .val (.ref b105), .val (.int P107), .val (.ref b110), .val (.int (2 : Int32)), .val (.long (k1 ^^^ (-9223372036854775808 : Int64))), .second, .val (.int P107), .unset, .unset, .unset, .unset, .unset, .unset] [])) t → Steps p.tables e below (s₁.setTop (entryFrame m #[(.ref a1), (.int (2 : Int32))] 17)) t := fun t kt => pre119 t (by
      show Steps p.tables e below (T119.setTop (mkF m 119 #[.val (.ref a1), .val (.int (2 : Int32)), .val (.long (own_v2 k0 k1)), .second, .val (.ref b105), .val (.int P107), .val (.ref b110), .val (.int (1 : Int32)), .val (.long (k1 ^^^ (-9223372036854775808 : Int64))), .second, .val (.int P107), .unset, .unset, .unset, .unset, .unset, .unset] [])) _
      refine XS.iload X119.here hx rfl (hb hby dc0_119) rfl ?_
      refine XS.iload X119.here hx rfl (hb hby dc0_121) rfl ?_
      show Steps p.tables e below (T119.setTop (mkF m 123 #[.val (.ref a1), .val (.int (2 : Int32)), .val (.long (own_v2 k0 k1)), .second, .val (.ref b105), .val (.int P107), .val (.ref b110), .val (.int (1 : Int32)), .val (.long (k1 ^^^ (-9223372036854775808 : Int64))), .second, .val (.int P107), .unset, .unset, .unset, .unset, .unset, .unset] [(.int P107), (.int P107)])) _
      refine XS.icmpYes X119.here hx rfl (pc0 := 123) (pc' := 155) rfl (hb hby dc0_123) rfl (flt (own_irr _)).2.1 (by decide) (by decide) ?_
      refine XS.iinc X119.here hx rfl (hb hby dc0_155) rfl (l' := #[.val (.ref a1), .val (.int (2 : Int32)), .val (.long (own_v2 k0 k1)), .second, .val (.ref b105), .val (.int P107), .val (.ref b110), .val (.int (2 : Int32)), .val (.long (k1 ^^^ (-9223372036854775808 : Int64))), .second, .val (.int P107), .unset, .unset, .unset, .unset, .unset, .unset]) rfl ?_
      refine XS.goto X119.here hx rfl (pc0 := 158) (pc' := 98) rfl (hb hby dc0_158) (by decide) (by decide) ?_
      refine XS.iload X119.here hx rfl (hb hby dc0_98) rfl ?_
      refine XS.iloadN X119.here hx rfl (hb hby dc0_100) rfl ?_
      show Steps p.tables e below (T119.setTop (mkF m 101 #[.val (.ref a1), .val (.int (2 : Int32)), .val (.long (own_v2 k0 k1)), .second, .val (.ref b105), .val (.int P107), .val (.ref b110), .val (.int (2 : Int32)), .val (.long (k1 ^^^ (-9223372036854775808 : Int64))), .second, .val (.int P107), .unset, .unset, .unset, .unset, .unset, .unset] [(.int (2 : Int32)), (.int (2 : Int32))])) _
      refine XS.icmpYes X119.here hx rfl (pc0 := 101) (pc' := 161) rfl (hb hby dc0_101) rfl (by decide) (by decide) (by decide) ?_
      exact kt)
  by_cases hc121 : P107 = (0 : Int32)
  · skip
    have okz : Ok2 k0 k1 w0 8 f1 := by
      have q := (Ok2.start (w := w0) hf0 hf1 hf2 hf3).skip (Nat.zero_le _) (fun d _ q => (DS_first (v := (own_v2 k0 k1))).2 d q)
      rw [own_getD' (by have := hg107.1; rw [hc121] at this; have e : (0 : Int32).toInt = 0 := rfl; omega)] at q; exact q
    obtain ⟨fs, hr, hrun, hended, hW, hsame⟩ := X119.leave (v := some (.ref a1)) (fun h => by rw [Bd.returns] at h; cases h)
    refine ⟨_, _, pre120 _ ?_, hrun, hended, _, _, rfl, ?_, ⟨_, rfl⟩, hW, hsame.mono (by decide) (by decide)⟩
    · skip
      show Steps p.tables e below (T119.setTop (mkF m 161 #[.val (.ref a1), .val (.int (2 : Int32)), .val (.long (own_v2 k0 k1)), .second, .val (.ref b105), .val (.int P107), .val (.ref b110), .val (.int (2 : Int32)), .val (.long (k1 ^^^ (-9223372036854775808 : Int64))), .second, .val (.int P107), .unset, .unset, .unset, .unset, .unset, .unset] [])) _
      refine XS.aloadN X119.here hx rfl (hb hby dc0_161) rfl rfl ?_
      refine XS.astore X119.here hx rfl (hb hby dc0_162) rfl rfl (l' := #[.val (.ref a1), .val (.int (2 : Int32)), .val (.long (own_v2 k0 k1)), .second, .val (.ref b105), .val (.int P107), .val (.ref b110), .val (.ref a1), .val (.long (k1 ^^^ (-9223372036854775808 : Int64))), .second, .val (.int P107), .unset, .unset, .unset, .unset, .unset, .unset]) rfl ?_
      refine XS.iload X119.here hx rfl (hb hby dc0_164) rfl ?_
      show Steps p.tables e below (T119.setTop (mkF m 166 #[.val (.ref a1), .val (.int (2 : Int32)), .val (.long (own_v2 k0 k1)), .second, .val (.ref b105), .val (.int P107), .val (.ref b110), .val (.ref a1), .val (.long (k1 ^^^ (-9223372036854775808 : Int64))), .second, .val (.int P107), .unset, .unset, .unset, .unset, .unset, .unset] [(.int P107)])) _
      refine XS.ifNo X119.here hx rfl (hb hby dc0_166) rfl ((if0 _ _).trans (teq hc121).2) ?_
      show Steps p.tables e below (T119.setTop (mkF m 169 #[.val (.ref a1), .val (.int (2 : Int32)), .val (.long (own_v2 k0 k1)), .second, .val (.ref b105), .val (.int P107), .val (.ref b110), .val (.ref a1), .val (.long (k1 ^^^ (-9223372036854775808 : Int64))), .second, .val (.int P107), .unset, .unset, .unset, .unset, .unset, .unset] [])) _
      refine XS.aconstNull X119.here hx rfl (hb hby dc0_169) ?_
      refine XS.goto X119.here hx rfl (pc0 := 170) (pc' := 177) rfl (hb hby dc0_170) (by decide) (by decide) ?_
      refine XS.astore X119.here hx rfl (hb hby dc0_177) rfl rfl (l' := #[.val (.ref a1), .val (.int (2 : Int32)), .val (.long (own_v2 k0 k1)), .second, .val (.ref b105), .val (.int P107), .val (.ref b110), .val (.ref a1), .val .null, .unset, .val (.int P107), .unset, .unset, .unset, .unset, .unset, .unset]) rfl ?_
      refine XS.iconst X119.here hx rfl (hb hby dc0_179) ?_
      refine XS.istore X119.here hx rfl (hb hby dc0_180) rfl (l' := #[.val (.ref a1), .val (.int (2 : Int32)), .val (.long (own_v2 k0 k1)), .second, .val (.ref b105), .val (.int P107), .val (.ref b110), .val (.ref a1), .val .null, .val (.int (0 : Int32)), .val (.int P107), .unset, .unset, .unset, .unset, .unset, .unset]) rfl ?_
      show Steps p.tables e below (T119.setTop (mkF m 182 #[.val (.ref a1), .val (.int (2 : Int32)), .val (.long (own_v2 k0 k1)), .second, .val (.ref b105), .val (.int P107), .val (.ref b110), .val (.ref a1), .val .null, .val (.int (0 : Int32)), .val (.int P107), .unset, .unset, .unset, .unset, .unset, .unset] [])) _
      refine XS.iload X119.here hx rfl (hb hby dc0_182) rfl ?_
      refine XS.iload X119.here hx rfl (hb hby dc0_184) rfl ?_
      show Steps p.tables e below (T119.setTop (mkF m 186 #[.val (.ref a1), .val (.int (2 : Int32)), .val (.long (own_v2 k0 k1)), .second, .val (.ref b105), .val (.int P107), .val (.ref b110), .val (.ref a1), .val .null, .val (.int (0 : Int32)), .val (.int P107), .unset, .unset, .unset, .unset, .unset, .unset] [(.int P107), (.int (0 : Int32))])) _
      refine XS.icmpYes X119.here hx rfl (pc0 := 186) (pc' := 335) rfl (hb hby dc0_186) rfl (flt (by rw [hc121]; decide)).2.1 (by decide) (by decide) ?_
      refine XS.aload X119.here hx rfl (hb hby dc0_335) rfl rfl ?_
      show Steps p.tables e below (T119.setTop (mkF m 337 #[.val (.ref a1), .val (.int (2 : Int32)), .val (.long (own_v2 k0 k1)), .second, .val (.ref b105), .val (.int P107), .val (.ref b110), .val (.ref a1), .val .null, .val (.int (0 : Int32)), .val (.int P107), .unset, .unset, .unset, .unset, .unset, .unset] [(.ref a1)])) _
      exact retOut X119 hx (t := (.array .long)) Bd.returns rfl (Or.inr (Or.inr (Or.inr (Or.inr ⟨rfl, rfl, rfl⟩)))) (hb hby dc0_337) hr
    · show Q_s Z (Ok2 k0 k1 w0 8) n0 _ T119.heap _
      rw [e119]
      exact ⟨_, f1, rfl, N119, O119, Lp119, okz⟩
  · skip
    obtain ⟨cl122, Ar122, S122, -⟩ := id Lp119
    obtain ⟨T123, h123, k123, X123, e123, E123, A123, st123⟩ := newP X119 hx hZ (hw _ (List.mem_of_getElem? (i := 0) rfl)) e119 (g := (mkF m 175 #[.val (.ref a1), .val (.int (2 : Int32)), .val (.long (own_v2 k0 k1)), .second, .val (.ref b105), .val (.int P107), .val (.ref b110), .val (.ref a1), .val (.long (k1 ^^^ (-9223372036854775808 : Int64))), .second, .val (.int P107), .unset, .unset, .unset, .unset, .unset, .unset] [(.int (6 : Int32))])) rfl (hb hby dc0_175) rfl (by decide) (cap := 6) (by decide) (by decide) (by decide) (by decide)
    obtain ⟨b123, g123⟩ : ∃ z, z = h119.size := ⟨_, rfl⟩
    rw [← g123] at A123 st123
    have gb123 : n0 ≤ b123 := by rw [g123, ← O119.1]; exact O119.2.1
    have ne123_a1 : a1 ≠ b123 := by rw [g123]; exact Nat.ne_of_lt (Lp119).lt
    have ne123_b105 : b105 ≠ b123 := by rw [g123]; exact Nat.ne_of_lt (A4119).lt
    have V123 : Arv Z h123 b123 k123 .long (6 : Int32) [(.long (0 : Int64)), (.long (0 : Int64)), (.long (0 : Int64)), (.long (0 : Int64)), (.long (0 : Int64)), (.long (0 : Int64))] (.long (0 : Int64)) := (Arv.new A123 (by decide)).pad (pad_rep [] (.long (0 : Int64)) 6)
    have pre124 : ∀ t, Steps p.tables e below (T123.setTop (mkF m 182 #[.val (.ref a1), .val (.int (2 : Int32)), .val (.long (own_v2 k0 k1)), .second, .val (.ref b105), .val (.int P107), .val (.ref b110), .val (.ref a1), .val (.ref b123), .val (.int (0 : Int32)), .val (.int P107), .unset, .unset, .unset, .unset, .unset, .unset] [])) t → Steps p.tables e below (s₁.setTop (entryFrame m #[(.ref a1), (.int (2 : Int32))] 17)) t := fun t kt => pre120 t (by
        show Steps p.tables e below (T119.setTop (mkF m 161 #[.val (.ref a1), .val (.int (2 : Int32)), .val (.long (own_v2 k0 k1)), .second, .val (.ref b105), .val (.int P107), .val (.ref b110), .val (.int (2 : Int32)), .val (.long (k1 ^^^ (-9223372036854775808 : Int64))), .second, .val (.int P107), .unset, .unset, .unset, .unset, .unset, .unset] [])) _
        refine XS.aloadN X119.here hx rfl (hb hby dc0_161) rfl rfl ?_
        refine XS.astore X119.here hx rfl (hb hby dc0_162) rfl rfl (l' := #[.val (.ref a1), .val (.int (2 : Int32)), .val (.long (own_v2 k0 k1)), .second, .val (.ref b105), .val (.int P107), .val (.ref b110), .val (.ref a1), .val (.long (k1 ^^^ (-9223372036854775808 : Int64))), .second, .val (.int P107), .unset, .unset, .unset, .unset, .unset, .unset]) rfl ?_
        refine XS.iload X119.here hx rfl (hb hby dc0_164) rfl ?_
        show Steps p.tables e below (T119.setTop (mkF m 166 #[.val (.ref a1), .val (.int (2 : Int32)), .val (.long (own_v2 k0 k1)), .second, .val (.ref b105), .val (.int P107), .val (.ref b110), .val (.ref a1), .val (.long (k1 ^^^ (-9223372036854775808 : Int64))), .second, .val (.int P107), .unset, .unset, .unset, .unset, .unset, .unset] [(.int P107)])) _
        refine XS.ifYes X119.here hx rfl (pc0 := 166) (pc' := 173) rfl (hb hby dc0_166) rfl ((if0 _ _).trans (feq hc121).2) (by decide) (by decide) ?_
        refine XS.aloadN X119.here hx rfl (hb hby dc0_173) rfl rfl ?_
        show Steps p.tables e below (T119.setTop (mkF m 174 #[.val (.ref a1), .val (.int (2 : Int32)), .val (.long (own_v2 k0 k1)), .second, .val (.ref b105), .val (.int P107), .val (.ref b110), .val (.ref a1), .val (.long (k1 ^^^ (-9223372036854775808 : Int64))), .second, .val (.int P107), .unset, .unset, .unset, .unset, .unset, .unset] [(.ref a1)])) _
        refine X119.arraylength hx (by rw [e119]; exact Ar122.1) (State.isArrayOf_alike hZ.alike Ar122.2.1) (g := (mkF m 174 #[.val (.ref a1), .val (.int (2 : Int32)), .val (.long (own_v2 k0 k1)), .second, .val (.ref b105), .val (.int P107), .val (.ref b110), .val (.ref a1), .val (.long (k1 ^^^ (-9223372036854775808 : Int64))), .second, .val (.int P107), .unset, .unset, .unset, .unset, .unset, .unset] [(.ref a1)])) rfl rfl (hb hby dc0_174) _ ?_
        rw [show cl122.slots.size.toInt32 = (6 : Int32) from by rw [S122]; rfl]
        refine st123 _ ?_
        refine XS.astore X123.here hx rfl (hb hby dc0_177) rfl rfl (l' := #[.val (.ref a1), .val (.int (2 : Int32)), .val (.long (own_v2 k0 k1)), .second, .val (.ref b105), .val (.int P107), .val (.ref b110), .val (.ref a1), .val (.ref b123), .unset, .val (.int P107), .unset, .unset, .unset, .unset, .unset, .unset]) rfl ?_
        refine XS.iconst X123.here hx rfl (hb hby dc0_179) ?_
        refine XS.istore X123.here hx rfl (hb hby dc0_180) rfl (l' := #[.val (.ref a1), .val (.int (2 : Int32)), .val (.long (own_v2 k0 k1)), .second, .val (.ref b105), .val (.int P107), .val (.ref b110), .val (.ref a1), .val (.ref b123), .val (.int (0 : Int32)), .val (.int P107), .unset, .unset, .unset, .unset, .unset, .unset]) rfl ?_
        exact kt)
    have f126 := (A4119.ext E123)
    have f127 := (Lp119.ext E123)
    have Lb125 := Lv.of6 V123
    have Gx125 := Gd119.ext E123
    have sz125 := Gd119.sz
    have hcc125 : ∀ i, (0 : Int32).toNatClampNeg ≤ i → i < (P107).toNatClampNeg → cc119 i = own_C2 k0 k1 (xs107.getD i 0) := fun i _ hi => by rw [hc119 i hi, if_pos (show (0 : Int32).toNatClampNeg ≤ i from Nat.zero_le i), hc114 i hi, if_pos (show (0 : Int32).toNatClampNeg ≤ i from Nat.zero_le i)]; rfl
    have ok125 : Ok2 k0 k1 w0 ((DS (own_v2 k0 k1) 8).getD (0 : Int32).toNatClampNeg 8) f1 := (Ok2.start hf0 hf1 hf2 hf3).skip (Nat.zero_le _) (fun d _ q => DS_first.2 d q)
    have O128 : Old Z n0 h123 := (O119.ext E123)
    obtain ⟨h125, A125, B125, f125, u10_125, u11_125, u12_125, u13_125, u14_125, u15_125, u16_125, G125, La125, okk125⟩ := psL2 hx hZ hw hby hml hown (.val (.ref a1)) (.val (.long (own_v2 k0 k1))) (.second) b105 b110 (b110 + 1) P107 xs107 k0 k1 w0 rfl lt4 gb110 hP107.2 hg107 (P107).toNatClampNeg h123 a1 b123 (0 : Int32) f1 _ _ (.val (.int P107)) (.unset) (.unset) (.unset) (.unset) (.unset) (.unset) (by show (0 : Int) + ((P107.toInt.toNat : Nat) : Int) = P107.toInt; omega) (by decide) (Or.inl ⟨_, rfl, rfl, rfl, rfl, rfl, rfl, rfl⟩) f126 Gx125 f127 Lb125 ne123_a1 (Or.inl lt1) (Or.inr (by rw [g123]; exact sz125)) (Ne.symm ne105_a1) ne123_b105 g1 gb123 hcc125 ok125 ⟨_, _, X123, e123, N119, O128, pre124⟩
    obtain ⟨T125, L125, X125, e125, N125, O125, pre125⟩ := G125
    obtain ⟨fs, hr, hrun, hended, hW, hsame⟩ := X125.leave (v := some (.ref A125)) (fun h => by rw [Bd.returns] at h; cases h)
    refine ⟨_, _, pre125 _ ?_, hrun, hended, _, _, rfl, ?_, ⟨_, rfl⟩, hW, hsame.mono (by decide) (by decide)⟩
    · skip
      show Steps p.tables e below (T125.setTop (mkF m 182 #[.val (.ref a1), .val (.int (2 : Int32)), .val (.long (own_v2 k0 k1)), .second, .val (.ref b105), .val (.int P107), .val (.ref b110), .val (.ref A125), .val (.ref B125), .val (.int P107), u10_125, u11_125, u12_125, u13_125, u14_125, u15_125, u16_125] [])) _
      refine XS.iload X125.here hx rfl (hb hby dc0_182) rfl ?_
      refine XS.iload X125.here hx rfl (hb hby dc0_184) rfl ?_
      show Steps p.tables e below (T125.setTop (mkF m 186 #[.val (.ref a1), .val (.int (2 : Int32)), .val (.long (own_v2 k0 k1)), .second, .val (.ref b105), .val (.int P107), .val (.ref b110), .val (.ref A125), .val (.ref B125), .val (.int P107), u10_125, u11_125, u12_125, u13_125, u14_125, u15_125, u16_125] [(.int P107), (.int P107)])) _
      refine XS.icmpYes X125.here hx rfl (pc0 := 186) (pc' := 335) rfl (hb hby dc0_186) rfl (flt (own_irr _)).2.1 (by decide) (by decide) ?_
      refine XS.aload X125.here hx rfl (hb hby dc0_335) rfl rfl ?_
      show Steps p.tables e below (T125.setTop (mkF m 337 #[.val (.ref a1), .val (.int (2 : Int32)), .val (.long (own_v2 k0 k1)), .second, .val (.ref b105), .val (.int P107), .val (.ref b110), .val (.ref A125), .val (.ref B125), .val (.int P107), u10_125, u11_125, u12_125, u13_125, u14_125, u15_125, u16_125] [(.ref A125)])) _
      exact retOut X125 hx (t := (.array .long)) Bd.returns rfl (Or.inr (Or.inr (Or.inr (Or.inr ⟨rfl, rfl, rfl⟩)))) (hb hby dc0_337) hr
    · show Q_s Z (Ok2 k0 k1 w0 8) n0 _ T125.heap _
      rw [e125]
      exact ⟨_, f125, rfl, N125, O125, La125, okk125⟩
set_option maxRecDepth 65536 in
set_option maxHeartbeats 40000000 in
theorem rmS3 (l : Launch) (Z : State) (a0 : Array Value) (hw : ∀ d ∈ tables_1, d.before a0 Z = true) (ws : List Jvm.Cond) (a1 : Addr) (f1 : Int32 → Int64) (k0 k1 k2 w0 : Int64) (h0 : Heap) (n0 : Nat) (O0 : Old Z n0 h0) (LP : Lv Z h0 a1 6 f1) (g1 : n0 ≤ a1) (hf0 : f1 (0 : Int32) = k0) (hf1 : f1 (1 : Int32) = (k0 ^^^ w0)) (hf2 : f1 (2 : Int32) = k1) (hf3 : f1 (3 : Int32) = (k1 ^^^ w0)) (hf4 : f1 (4 : Int32) = k2) (hf5 : f1 (5 : Int32) = (k2 ^^^ w0)) :
    MetFree l (⟨"com/example/keyfold/keyfold/SortedRows", "sort", "([JI)[J"⟩ : MethodName) (head1 (Jvm.Cond.code (⟨"com/example/keyfold/keyfold/SortedRows", "sort", "([JI)[J"⟩ : MethodName) prog_98_method_19_code 17 (some (.array .long)) :: ws) ({ frames := 0, cells := 11, slots := 2070, locals := 0 } : Room)) (fun a U => a = #[(.ref a1), (.int (3 : Int32))] ∧ Z.Warmed39 U.vm ∧ U.heap = h0) (fun _ _ _ _ _ => True) (fun _ U o U' => ∃ v L, o = .returned v ∧ Q_s Z (Ok3 k0 k1 k2 w0 8) n0 v U'.heap L ∧ FrameEnd U o U' L ({ frames := 0, cells := 11, slots := 2070, locals := 0 } : Room).cells ({ frames := 0, cells := 11, slots := 2070, locals := 0 } : Room).slots) := by
  refine MetFree.of_bodySF (plainFor_of_name pn_0) hisR ?_
  intro p e s m args below meth c s₁ Bd hml0 hP hK
  obtain ⟨rfl, hZ, hh⟩ := hP
  have hx := Bd.exec
  have hby := Bd.bytes
  have hml : c.maxLocals = 17 := hml0
  have hown : s.vm.findClass "com/example/keyfold/keyfold/SortedRows" = some m.cls := findClass_of_methodNamed Bd.named
  have hnm := (name_of_methodNamed Bd.named Bd.method).1
  have X0 : Stand p l e ({ frames := 0, cells := 11, slots := 2070, locals := 0 } : Room) s m #[(.ref a1), (.int (3 : Int32))] below meth c s₁ [] 0 0 := Stand.of_body Bd
  have e0 : s₁.heap = h0 := by rw [← hh, Bd.state]; rfl
  have N0 := Fr.nil n0
  have pre0 : ∀ t, Steps p.tables e below (s₁.setTop (mkF m 0 #[.val (.ref a1), .val (.int (3 : Int32)), .unset, .unset, .unset, .unset, .unset, .unset, .unset, .unset, .unset, .unset, .unset, .unset, .unset, .unset, .unset] [])) t → Steps p.tables e below (s₁.setTop (entryFrame m #[(.ref a1), (.int (3 : Int32))] 17)) t := fun t k => castTop (ef_0 m a1 (3 : Int32)) k
  obtain ⟨cl101, Ar101, S101, H101⟩ := id LP
  have hin101 : ¬ ((0 : Int32) < 0 ∨ cl101.slots.size ≤ ((0 : Int32)).toNatClampNeg) := by rw [S101]; exact (by decide)
  have hat101 : cl101.slots[((0 : Int32)).toNatClampNeg]? = some (.long (f1 (0 : Int32))) := H101 _ hin101
  obtain ⟨cl102, Ar102, S102, H102⟩ := id LP
  have hin102 : ¬ ((0 : Int32) < 0 ∨ cl102.slots.size ≤ ((0 : Int32)).toNatClampNeg) := by rw [S102]; exact (by decide)
  have hat102 : cl102.slots[((0 : Int32)).toNatClampNeg]? = some (.long (f1 (0 : Int32))) := H102 _ hin102
  obtain ⟨cl103, Ar103, S103, H103⟩ := id LP
  have hin103 : ¬ ((2 : Int32) < 0 ∨ cl103.slots.size ≤ ((2 : Int32)).toNatClampNeg) := by rw [S103]; exact (by decide)
  have hat103 : cl103.slots[((2 : Int32)).toNatClampNeg]? = some (.long (f1 (2 : Int32))) := H103 _ hin103
  obtain ⟨cl104, Ar104, S104, H104⟩ := id LP
  have hin104 : ¬ ((0 : Int32) < 0 ∨ cl104.slots.size ≤ ((0 : Int32)).toNatClampNeg) := by rw [S104]; exact (by decide)
  have hat104 : cl104.slots[((0 : Int32)).toNatClampNeg]? = some (.long (f1 (0 : Int32))) := H104 _ hin104
  obtain ⟨cl105, Ar105, S105, H105⟩ := id LP
  have hin105 : ¬ ((4 : Int32) < 0 ∨ cl105.slots.size ≤ ((4 : Int32)).toNatClampNeg) := by rw [S105]; exact (by decide)
  have hat105 : cl105.slots[((4 : Int32)).toNatClampNeg]? = some (.long (f1 (4 : Int32))) := H105 _ hin105
  obtain ⟨cl106, Ar106, S106, H106⟩ := id LP
  have hin106 : ¬ ((0 : Int32) < 0 ∨ cl106.slots.size ≤ ((0 : Int32)).toNatClampNeg) := by rw [S106]; exact (by decide)
  have hat106 : cl106.slots[((0 : Int32)).toNatClampNeg]? = some (.long (f1 (0 : Int32))) := H106 _ hin106
  obtain ⟨T107, h107, k107, X107, e107, E107, A107, st107⟩ := newP X0 hx hZ (hw _ (List.mem_of_getElem? (i := 5) rfl)) e0 (g := (mkF m 32 #[.val (.ref a1), .val (.int (3 : Int32)), .val (.long (own_v3 k0 k1 k2)), .second, .val (.int (3 : Int32)), .unset, .unset, .unset, .unset, .unset, .unset, .unset, .unset, .unset, .unset, .unset, .unset] [(.int (8 : Int32))])) rfl (hb hby dc0_32) rfl (by decide) (cap := 8) (by decide) (by decide) (by decide) (by decide)
  obtain ⟨b107, g107⟩ : ∃ z, z = h0.size := ⟨_, rfl⟩
  rw [← g107] at A107 st107
  have gb107 : n0 ≤ b107 := by rw [g107, ← O0.1]; exact O0.2.1
  have ne107_a1 : a1 ≠ b107 := by rw [g107]; exact Nat.ne_of_lt (LP).lt
  have V107 : La Z h107 b107 .int (8 : Int32) (List.replicate 8 0) := La.zero A107 (by decide) (by decide) rfl
  have pre108 : ∀ t, Steps p.tables e below (T107.setTop (mkF m 42 #[.val (.ref a1), .val (.int (3 : Int32)), .val (.long (own_v3 k0 k1 k2)), .second, .val (.ref b107), .val (.int (0 : Int32)), .val (.int (0 : Int32)), .unset, .unset, .unset, .unset, .unset, .unset, .unset, .unset, .unset, .unset] [])) t → Steps p.tables e below (s₁.setTop (entryFrame m #[(.ref a1), (.int (3 : Int32))] 17)) t := fun t kt => pre0 t (by
      show Steps p.tables e below (s₁.setTop (mkF m 0 #[.val (.ref a1), .val (.int (3 : Int32)), .unset, .unset, .unset, .unset, .unset, .unset, .unset, .unset, .unset, .unset, .unset, .unset, .unset, .unset, .unset] [])) _
      refine XS.lconst X0.here hx rfl (hb hby dc0_0) ?_
      refine XS.lstoreN X0.here hx rfl (hb hby dc0_1) rfl (l' := #[.val (.ref a1), .val (.int (3 : Int32)), .val (.long (0 : Int64)), .second, .unset, .unset, .unset, .unset, .unset, .unset, .unset, .unset, .unset, .unset, .unset, .unset, .unset]) rfl ?_
      refine XS.iconst X0.here hx rfl (hb hby dc0_2) ?_
      refine XS.istore X0.here hx rfl (hb hby dc0_3) rfl (l' := #[.val (.ref a1), .val (.int (3 : Int32)), .val (.long (0 : Int64)), .second, .val (.int (0 : Int32)), .unset, .unset, .unset, .unset, .unset, .unset, .unset, .unset, .unset, .unset, .unset, .unset]) rfl ?_
      show Steps p.tables e below (s₁.setTop (mkF m 5 #[.val (.ref a1), .val (.int (3 : Int32)), .val (.long (0 : Int64)), .second, .val (.int (0 : Int32)), .unset, .unset, .unset, .unset, .unset, .unset, .unset, .unset, .unset, .unset, .unset, .unset] [])) _
      refine XS.iload X0.here hx rfl (hb hby dc0_5) rfl ?_
      refine XS.iloadN X0.here hx rfl (hb hby dc0_7) rfl ?_
      show Steps p.tables e below (s₁.setTop (mkF m 8 #[.val (.ref a1), .val (.int (3 : Int32)), .val (.long (0 : Int64)), .second, .val (.int (0 : Int32)), .unset, .unset, .unset, .unset, .unset, .unset, .unset, .unset, .unset, .unset, .unset, .unset] [(.int (3 : Int32)), (.int (0 : Int32))])) _
      refine XS.icmpNo X0.here hx rfl (hb hby dc0_8) rfl (by decide) ?_
      refine XS.lloadN X0.here hx rfl (hb hby dc0_11) rfl ?_
      refine XS.aloadN X0.here hx rfl (hb hby dc0_12) rfl rfl ?_
      show Steps p.tables e below (s₁.setTop (mkF m 13 #[.val (.ref a1), .val (.int (3 : Int32)), .val (.long (0 : Int64)), .second, .val (.int (0 : Int32)), .unset, .unset, .unset, .unset, .unset, .unset, .unset, .unset, .unset, .unset, .unset, .unset] [(.ref a1), (.long (0 : Int64))])) _
      refine XS.iconst X0.here hx rfl (hb hby dc0_13) ?_
      refine XS.iload X0.here hx rfl (hb hby dc0_14) rfl ?_
      refine XS.imul X0.here hx rfl (hb hby dc0_16) rfl ?_
      refine X0.laload hx (j := (0 : Int32)) (v := (.long (f1 (0 : Int32)))) (by rw [e0]; exact Ar101.1) (State.isArrayOf_alike hZ.alike Ar101.2.1) Ar101.2.2 hin101 hat101 (g := (mkF m 17 #[.val (.ref a1), .val (.int (3 : Int32)), .val (.long (0 : Int64)), .second, .val (.int (0 : Int32)), .unset, .unset, .unset, .unset, .unset, .unset, .unset, .unset, .unset, .unset, .unset, .unset] [(.int (0 : Int32)), (.ref a1), (.long (0 : Int64))])) rfl rfl (hb hby dc0_17) _ ?_
      show Steps p.tables e below (s₁.setTop (mkF m 18 #[.val (.ref a1), .val (.int (3 : Int32)), .val (.long (0 : Int64)), .second, .val (.int (0 : Int32)), .unset, .unset, .unset, .unset, .unset, .unset, .unset, .unset, .unset, .unset, .unset, .unset] [(.long (f1 (0 : Int32))), (.long (0 : Int64))])) _
      rw [hf0]
      show Steps p.tables e below (s₁.setTop (mkF m 18 #[.val (.ref a1), .val (.int (3 : Int32)), .val (.long (0 : Int64)), .second, .val (.int (0 : Int32)), .unset, .unset, .unset, .unset, .unset, .unset, .unset, .unset, .unset, .unset, .unset, .unset] [(.long k0), (.long (0 : Int64))])) _
      refine XS.aloadN X0.here hx rfl (hb hby dc0_18) rfl rfl ?_
      refine XS.iconst X0.here hx rfl (hb hby dc0_19) ?_
      refine X0.laload hx (j := (0 : Int32)) (v := (.long (f1 (0 : Int32)))) (by rw [e0]; exact Ar102.1) (State.isArrayOf_alike hZ.alike Ar102.2.1) Ar102.2.2 hin102 hat102 (g := (mkF m 20 #[.val (.ref a1), .val (.int (3 : Int32)), .val (.long (0 : Int64)), .second, .val (.int (0 : Int32)), .unset, .unset, .unset, .unset, .unset, .unset, .unset, .unset, .unset, .unset, .unset, .unset] [(.int (0 : Int32)), (.ref a1), (.long k0), (.long (0 : Int64))])) rfl rfl (hb hby dc0_20) _ ?_
      show Steps p.tables e below (s₁.setTop (mkF m 21 #[.val (.ref a1), .val (.int (3 : Int32)), .val (.long (0 : Int64)), .second, .val (.int (0 : Int32)), .unset, .unset, .unset, .unset, .unset, .unset, .unset, .unset, .unset, .unset, .unset, .unset] [(.long (f1 (0 : Int32))), (.long k0), (.long (0 : Int64))])) _
      rw [hf0]
      refine XS.lxor X0.here hx rfl (hb hby dc0_21) rfl ?_
      show Steps p.tables e below (s₁.setTop (mkF m 22 #[.val (.ref a1), .val (.int (3 : Int32)), .val (.long (0 : Int64)), .second, .val (.int (0 : Int32)), .unset, .unset, .unset, .unset, .unset, .unset, .unset, .unset, .unset, .unset, .unset, .unset] [(.long (k0 ^^^ k0)), (.long (0 : Int64))])) _
      refine XS.lor X0.here hx rfl (hb hby dc0_22) rfl ?_
      refine XS.lstoreN X0.here hx rfl (hb hby dc0_23) rfl (l' := #[.val (.ref a1), .val (.int (3 : Int32)), .val (.long ((0 : Int64) ||| (k0 ^^^ k0))), .second, .val (.int (0 : Int32)), .unset, .unset, .unset, .unset, .unset, .unset, .unset, .unset, .unset, .unset, .unset, .unset]) rfl ?_
      refine XS.iinc X0.here hx rfl (hb hby dc0_24) rfl (l' := #[.val (.ref a1), .val (.int (3 : Int32)), .val (.long ((0 : Int64) ||| (k0 ^^^ k0))), .second, .val (.int (1 : Int32)), .unset, .unset, .unset, .unset, .unset, .unset, .unset, .unset, .unset, .unset, .unset, .unset]) rfl ?_
      refine XS.goto X0.here hx rfl (pc0 := 27) (pc' := 5) rfl (hb hby dc0_27) (by decide) (by decide) ?_
      refine XS.iload X0.here hx rfl (hb hby dc0_5) rfl ?_
      show Steps p.tables e below (s₁.setTop (mkF m 7 #[.val (.ref a1), .val (.int (3 : Int32)), .val (.long ((0 : Int64) ||| (k0 ^^^ k0))), .second, .val (.int (1 : Int32)), .unset, .unset, .unset, .unset, .unset, .unset, .unset, .unset, .unset, .unset, .unset, .unset] [(.int (1 : Int32))])) _
      refine XS.iloadN X0.here hx rfl (hb hby dc0_7) rfl ?_
      show Steps p.tables e below (s₁.setTop (mkF m 8 #[.val (.ref a1), .val (.int (3 : Int32)), .val (.long ((0 : Int64) ||| (k0 ^^^ k0))), .second, .val (.int (1 : Int32)), .unset, .unset, .unset, .unset, .unset, .unset, .unset, .unset, .unset, .unset, .unset, .unset] [(.int (3 : Int32)), (.int (1 : Int32))])) _
      refine XS.icmpNo X0.here hx rfl (hb hby dc0_8) rfl (by decide) ?_
      refine XS.lloadN X0.here hx rfl (hb hby dc0_11) rfl ?_
      refine XS.aloadN X0.here hx rfl (hb hby dc0_12) rfl rfl ?_
      refine XS.iconst X0.here hx rfl (hb hby dc0_13) ?_
      show Steps p.tables e below (s₁.setTop (mkF m 14 #[.val (.ref a1), .val (.int (3 : Int32)), .val (.long ((0 : Int64) ||| (k0 ^^^ k0))), .second, .val (.int (1 : Int32)), .unset, .unset, .unset, .unset, .unset, .unset, .unset, .unset, .unset, .unset, .unset, .unset] [(.int (2 : Int32)), (.ref a1), (.long ((0 : Int64) ||| (k0 ^^^ k0)))])) _
      refine XS.iload X0.here hx rfl (hb hby dc0_14) rfl ?_
      refine XS.imul X0.here hx rfl (hb hby dc0_16) rfl ?_
      refine X0.laload hx (j := (2 : Int32)) (v := (.long (f1 (2 : Int32)))) (by rw [e0]; exact Ar103.1) (State.isArrayOf_alike hZ.alike Ar103.2.1) Ar103.2.2 hin103 hat103 (g := (mkF m 17 #[.val (.ref a1), .val (.int (3 : Int32)), .val (.long ((0 : Int64) ||| (k0 ^^^ k0))), .second, .val (.int (1 : Int32)), .unset, .unset, .unset, .unset, .unset, .unset, .unset, .unset, .unset, .unset, .unset, .unset] [(.int (2 : Int32)), (.ref a1), (.long ((0 : Int64) ||| (k0 ^^^ k0)))])) rfl rfl (hb hby dc0_17) _ ?_
      show Steps p.tables e below (s₁.setTop (mkF m 18 #[.val (.ref a1), .val (.int (3 : Int32)), .val (.long ((0 : Int64) ||| (k0 ^^^ k0))), .second, .val (.int (1 : Int32)), .unset, .unset, .unset, .unset, .unset, .unset, .unset, .unset, .unset, .unset, .unset, .unset] [(.long (f1 (2 : Int32))), (.long ((0 : Int64) ||| (k0 ^^^ k0)))])) _
      rw [hf2]
      refine XS.aloadN X0.here hx rfl (hb hby dc0_18) rfl rfl ?_
      show Steps p.tables e below (s₁.setTop (mkF m 19 #[.val (.ref a1), .val (.int (3 : Int32)), .val (.long ((0 : Int64) ||| (k0 ^^^ k0))), .second, .val (.int (1 : Int32)), .unset, .unset, .unset, .unset, .unset, .unset, .unset, .unset, .unset, .unset, .unset, .unset] [(.ref a1), (.long k1), (.long ((0 : Int64) ||| (k0 ^^^ k0)))])) _
      refine XS.iconst X0.here hx rfl (hb hby dc0_19) ?_
      refine X0.laload hx (j := (0 : Int32)) (v := (.long (f1 (0 : Int32)))) (by rw [e0]; exact Ar104.1) (State.isArrayOf_alike hZ.alike Ar104.2.1) Ar104.2.2 hin104 hat104 (g := (mkF m 20 #[.val (.ref a1), .val (.int (3 : Int32)), .val (.long ((0 : Int64) ||| (k0 ^^^ k0))), .second, .val (.int (1 : Int32)), .unset, .unset, .unset, .unset, .unset, .unset, .unset, .unset, .unset, .unset, .unset, .unset] [(.int (0 : Int32)), (.ref a1), (.long k1), (.long ((0 : Int64) ||| (k0 ^^^ k0)))])) rfl rfl (hb hby dc0_20) _ ?_
      show Steps p.tables e below (s₁.setTop (mkF m 21 #[.val (.ref a1), .val (.int (3 : Int32)), .val (.long ((0 : Int64) ||| (k0 ^^^ k0))), .second, .val (.int (1 : Int32)), .unset, .unset, .unset, .unset, .unset, .unset, .unset, .unset, .unset, .unset, .unset, .unset] [(.long (f1 (0 : Int32))), (.long k1), (.long ((0 : Int64) ||| (k0 ^^^ k0)))])) _
      rw [hf0]
      refine XS.lxor X0.here hx rfl (hb hby dc0_21) rfl ?_
      refine XS.lor X0.here hx rfl (hb hby dc0_22) rfl ?_
      show Steps p.tables e below (s₁.setTop (mkF m 23 #[.val (.ref a1), .val (.int (3 : Int32)), .val (.long ((0 : Int64) ||| (k0 ^^^ k0))), .second, .val (.int (1 : Int32)), .unset, .unset, .unset, .unset, .unset, .unset, .unset, .unset, .unset, .unset, .unset, .unset] [(.long (((0 : Int64) ||| (k0 ^^^ k0)) ||| (k1 ^^^ k0)))])) _
      refine XS.lstoreN X0.here hx rfl (hb hby dc0_23) rfl (l' := #[.val (.ref a1), .val (.int (3 : Int32)), .val (.long (((0 : Int64) ||| (k0 ^^^ k0)) ||| (k1 ^^^ k0))), .second, .val (.int (1 : Int32)), .unset, .unset, .unset, .unset, .unset, .unset, .unset, .unset, .unset, .unset, .unset, .unset]) rfl ?_
      refine XS.iinc X0.here hx rfl (hb hby dc0_24) rfl (l' := #[.val (.ref a1), .val (.int (3 : Int32)), .val (.long (((0 : Int64) ||| (k0 ^^^ k0)) ||| (k1 ^^^ k0))), .second, .val (.int (2 : Int32)), .unset, .unset, .unset, .unset, .unset, .unset, .unset, .unset, .unset, .unset, .unset, .unset]) rfl ?_
      refine XS.goto X0.here hx rfl (pc0 := 27) (pc' := 5) rfl (hb hby dc0_27) (by decide) (by decide) ?_
      refine XS.iload X0.here hx rfl (hb hby dc0_5) rfl ?_
      refine XS.iloadN X0.here hx rfl (hb hby dc0_7) rfl ?_
      show Steps p.tables e below (s₁.setTop (mkF m 8 #[.val (.ref a1), .val (.int (3 : Int32)), .val (.long (((0 : Int64) ||| (k0 ^^^ k0)) ||| (k1 ^^^ k0))), .second, .val (.int (2 : Int32)), .unset, .unset, .unset, .unset, .unset, .unset, .unset, .unset, .unset, .unset, .unset, .unset] [(.int (3 : Int32)), (.int (2 : Int32))])) _
      refine XS.icmpNo X0.here hx rfl (hb hby dc0_8) rfl (by decide) ?_
      refine XS.lloadN X0.here hx rfl (hb hby dc0_11) rfl ?_
      refine XS.aloadN X0.here hx rfl (hb hby dc0_12) rfl rfl ?_
      refine XS.iconst X0.here hx rfl (hb hby dc0_13) ?_
      refine XS.iload X0.here hx rfl (hb hby dc0_14) rfl ?_
      show Steps p.tables e below (s₁.setTop (mkF m 16 #[.val (.ref a1), .val (.int (3 : Int32)), .val (.long (((0 : Int64) ||| (k0 ^^^ k0)) ||| (k1 ^^^ k0))), .second, .val (.int (2 : Int32)), .unset, .unset, .unset, .unset, .unset, .unset, .unset, .unset, .unset, .unset, .unset, .unset] [(.int (2 : Int32)), (.int (2 : Int32)), (.ref a1), (.long (((0 : Int64) ||| (k0 ^^^ k0)) ||| (k1 ^^^ k0)))])) _
      refine XS.imul X0.here hx rfl (hb hby dc0_16) rfl ?_
      refine X0.laload hx (j := (4 : Int32)) (v := (.long (f1 (4 : Int32)))) (by rw [e0]; exact Ar105.1) (State.isArrayOf_alike hZ.alike Ar105.2.1) Ar105.2.2 hin105 hat105 (g := (mkF m 17 #[.val (.ref a1), .val (.int (3 : Int32)), .val (.long (((0 : Int64) ||| (k0 ^^^ k0)) ||| (k1 ^^^ k0))), .second, .val (.int (2 : Int32)), .unset, .unset, .unset, .unset, .unset, .unset, .unset, .unset, .unset, .unset, .unset, .unset] [(.int (4 : Int32)), (.ref a1), (.long (((0 : Int64) ||| (k0 ^^^ k0)) ||| (k1 ^^^ k0)))])) rfl rfl (hb hby dc0_17) _ ?_
      show Steps p.tables e below (s₁.setTop (mkF m 18 #[.val (.ref a1), .val (.int (3 : Int32)), .val (.long (((0 : Int64) ||| (k0 ^^^ k0)) ||| (k1 ^^^ k0))), .second, .val (.int (2 : Int32)), .unset, .unset, .unset, .unset, .unset, .unset, .unset, .unset, .unset, .unset, .unset, .unset] [(.long (f1 (4 : Int32))), (.long (((0 : Int64) ||| (k0 ^^^ k0)) ||| (k1 ^^^ k0)))])) _
      rw [hf4]
      refine XS.aloadN X0.here hx rfl (hb hby dc0_18) rfl rfl ?_
      refine XS.iconst X0.here hx rfl (hb hby dc0_19) ?_
      show Steps p.tables e below (s₁.setTop (mkF m 20 #[.val (.ref a1), .val (.int (3 : Int32)), .val (.long (((0 : Int64) ||| (k0 ^^^ k0)) ||| (k1 ^^^ k0))), .second, .val (.int (2 : Int32)), .unset, .unset, .unset, .unset, .unset, .unset, .unset, .unset, .unset, .unset, .unset, .unset] [(.int (0 : Int32)), (.ref a1), (.long k2), (.long (((0 : Int64) ||| (k0 ^^^ k0)) ||| (k1 ^^^ k0)))])) _
      refine X0.laload hx (j := (0 : Int32)) (v := (.long (f1 (0 : Int32)))) (by rw [e0]; exact Ar106.1) (State.isArrayOf_alike hZ.alike Ar106.2.1) Ar106.2.2 hin106 hat106 (g := (mkF m 20 #[.val (.ref a1), .val (.int (3 : Int32)), .val (.long (((0 : Int64) ||| (k0 ^^^ k0)) ||| (k1 ^^^ k0))), .second, .val (.int (2 : Int32)), .unset, .unset, .unset, .unset, .unset, .unset, .unset, .unset, .unset, .unset, .unset, .unset] [(.int (0 : Int32)), (.ref a1), (.long k2), (.long (((0 : Int64) ||| (k0 ^^^ k0)) ||| (k1 ^^^ k0)))])) rfl rfl (hb hby dc0_20) _ ?_
      show Steps p.tables e below (s₁.setTop (mkF m 21 #[.val (.ref a1), .val (.int (3 : Int32)), .val (.long (((0 : Int64) ||| (k0 ^^^ k0)) ||| (k1 ^^^ k0))), .second, .val (.int (2 : Int32)), .unset, .unset, .unset, .unset, .unset, .unset, .unset, .unset, .unset, .unset, .unset, .unset] [(.long (f1 (0 : Int32))), (.long k2), (.long (((0 : Int64) ||| (k0 ^^^ k0)) ||| (k1 ^^^ k0)))])) _
      rw [hf0]
      refine XS.lxor X0.here hx rfl (hb hby dc0_21) rfl ?_
      refine XS.lor X0.here hx rfl (hb hby dc0_22) rfl ?_
      show Steps p.tables e below (s₁.setTop (mkF m 23 #[.val (.ref a1), .val (.int (3 : Int32)), .val (.long (((0 : Int64) ||| (k0 ^^^ k0)) ||| (k1 ^^^ k0))), .second, .val (.int (2 : Int32)), .unset, .unset, .unset, .unset, .unset, .unset, .unset, .unset, .unset, .unset, .unset, .unset] [(.long ((((0 : Int64) ||| (k0 ^^^ k0)) ||| (k1 ^^^ k0)) ||| (k2 ^^^ k0)))])) _
      rw [(show ((((0 : Int64) ||| (k0 ^^^ k0)) ||| (k1 ^^^ k0)) ||| (k2 ^^^ k0)) = own_v3 k0 k1 k2 from rfl)]
      show Steps p.tables e below (s₁.setTop (mkF m 23 #[.val (.ref a1), .val (.int (3 : Int32)), .val (.long (((0 : Int64) ||| (k0 ^^^ k0)) ||| (k1 ^^^ k0))), .second, .val (.int (2 : Int32)), .unset, .unset, .unset, .unset, .unset, .unset, .unset, .unset, .unset, .unset, .unset, .unset] [(.long (own_v3 k0 k1 k2))])) _
      refine XS.lstoreN X0.here hx rfl (hb hby dc0_23) rfl (l' := #[.val (.ref a1), .val (.int (3 : Int32)), .val (.long (own_v3 k0 k1 k2)), .second, .val (.int (2 : Int32)), .unset, .unset, .unset, .unset, .unset, .unset, .unset, .unset, .unset, .unset, .unset, .unset]) rfl ?_
      refine XS.iinc X0.here hx rfl (hb hby dc0_24) rfl (l' := #[.val (.ref a1), .val (.int (3 : Int32)), .val (.long (own_v3 k0 k1 k2)), .second, .val (.int (3 : Int32)), .unset, .unset, .unset, .unset, .unset, .unset, .unset, .unset, .unset, .unset, .unset, .unset]) rfl ?_
      refine XS.goto X0.here hx rfl (pc0 := 27) (pc' := 5) rfl (hb hby dc0_27) (by decide) (by decide) ?_
      refine XS.iload X0.here hx rfl (hb hby dc0_5) rfl ?_
      refine XS.iloadN X0.here hx rfl (hb hby dc0_7) rfl ?_
      show Steps p.tables e below (s₁.setTop (mkF m 8 #[.val (.ref a1), .val (.int (3 : Int32)), .val (.long (own_v3 k0 k1 k2)), .second, .val (.int (3 : Int32)), .unset, .unset, .unset, .unset, .unset, .unset, .unset, .unset, .unset, .unset, .unset, .unset] [(.int (3 : Int32)), (.int (3 : Int32))])) _
      refine XS.icmpYes X0.here hx rfl (pc0 := 8) (pc' := 30) rfl (hb hby dc0_8) rfl (by decide) (by decide) (by decide) ?_
      refine XS.bipush X0.here hx rfl (hb hby dc0_30) ?_
      refine st107 _ ?_
      refine XS.astore X107.here hx rfl (hb hby dc0_34) rfl rfl (l' := #[.val (.ref a1), .val (.int (3 : Int32)), .val (.long (own_v3 k0 k1 k2)), .second, .val (.ref b107), .unset, .unset, .unset, .unset, .unset, .unset, .unset, .unset, .unset, .unset, .unset, .unset]) rfl ?_
      refine XS.iconst X107.here hx rfl (hb hby dc0_36) ?_
      show Steps p.tables e below (T107.setTop (mkF m 37 #[.val (.ref a1), .val (.int (3 : Int32)), .val (.long (own_v3 k0 k1 k2)), .second, .val (.ref b107), .unset, .unset, .unset, .unset, .unset, .unset, .unset, .unset, .unset, .unset, .unset, .unset] [(.int (0 : Int32))])) _
      refine XS.istore X107.here hx rfl (hb hby dc0_37) rfl (l' := #[.val (.ref a1), .val (.int (3 : Int32)), .val (.long (own_v3 k0 k1 k2)), .second, .val (.ref b107), .val (.int (0 : Int32)), .unset, .unset, .unset, .unset, .unset, .unset, .unset, .unset, .unset, .unset, .unset]) rfl ?_
      refine XS.iconst X107.here hx rfl (hb hby dc0_39) ?_
      refine XS.istore X107.here hx rfl (hb hby dc0_40) rfl (l' := #[.val (.ref a1), .val (.int (3 : Int32)), .val (.long (own_v3 k0 k1 k2)), .second, .val (.ref b107), .val (.int (0 : Int32)), .val (.int (0 : Int32)), .unset, .unset, .unset, .unset, .unset, .unset, .unset, .unset, .unset, .unset]) rfl ?_
      exact kt)
  have f110 := (LP.ext E107)
  have O111 : Old Z n0 h107 := (O0.ext E107)
  obtain ⟨h109, P109, xs109, G109, K109, A109, hg109⟩ := dgL hx hZ hw hby hml hown (.val (.ref a1)) (.val (.int (3 : Int32))) (.unset) (.unset) (.unset) (.unset) (.unset) (.unset) (.unset) (.unset) (.unset) (.unset) (own_v3 k0 k1 k2) b107 gb107 8 h107 (0 : Int32) (0 : Int32) _ 0 (by omega) rfl (Dg.start _) V107 ⟨_, _, X107, e107, N0, O111, pre108⟩
  have Lp109 := (f110).keep K109 (ninS ne107_a1 nin0)
  obtain ⟨T109, L109, X109, e109, N109, O109, pre109⟩ := G109
  have hP109 : 0 ≤ P109.toInt ∧ P109.toInt ≤ 8 := by have := hg109.in8 (Nat.le_refl 8); omega
  have hN109 : (P109).toNatClampNeg ≤ 8 := by show P109.toInt.toNat ≤ 8; omega
  obtain ⟨T112, h112, k112, kc112, X112_, e112, E112, A112, -, -, I112, st112⟩ := gridM X109 hx hZ hown (C := "[I") (ad := "[[I") (ty := .int) (by first | rfl | decide) (by first | rfl | decide) (hw _ (List.mem_of_getElem? (i := 7) rfl)) (hw _ (List.mem_of_getElem? (i := 8) rfl)) (hw _ (List.mem_of_getElem? (i := 5) rfl)) e109 (g := (mkF m 89 #[.val (.ref a1), .val (.int (3 : Int32)), .val (.long (own_v3 k0 k1 k2)), .second, .val (.ref b107), .val (.int P109), .val (.int (8 : Int32)), .unset, .unset, .unset, .unset, .unset, .unset, .unset, .unset, .unset, .unset] [(.int (256 : Int32)), (.int P109)])) rfl (hb hby dc0_89) rfl (own_nltI hP109.1) (by decide) (N := (P109).toNatClampNeg) rfl rfl (cap := 256) (by decide) (by decide) (Nat.le_trans hN109 (by decide)) (by decide) (by decide) (Nat.le_trans (Nat.add_le_add_left (Nat.add_le_add_left hN109 1) _) (by decide : 1 + (1 + 8) ≤ _)) (Nat.le_trans (Nat.add_le_add_left (Nat.add_le_add hN109 (Nat.mul_le_mul_right _ hN109)) _) (by decide : 8 + (8 + 8 * 256) ≤ _))
  have X112 := X112_.more (Nat.add_le_add_left (Nat.add_le_add_left hN109 1) _ : 1 + (1 + _) ≤ 1 + (1 + 8)) (Nat.add_le_add_left (Nat.add_le_add hN109 (Nat.mul_le_mul_right _ hN109)) _ : 8 + (_ + _ * 256) ≤ 8 + (8 + 8 * 256))
  obtain ⟨b112, g112⟩ : ∃ z, z = h109.size := ⟨_, rfl⟩
  rw [← g112] at A112 I112 st112
  have gb112 : n0 ≤ b112 := by rw [g112, ← O109.1]; exact O109.2.1
  have ne112_a1 : a1 ≠ b112 := by rw [g112]; exact Nat.ne_of_lt (Lp109).lt
  have ne112_b107 : b107 ≠ b112 := by rw [g112]; exact Nat.ne_of_lt (A109).lt
  have Gd112 : Gd Z h112 b112 (b112 + 1) P109 (fun _ _ => 0) := Gd.new A112 I112
  have lt4 : b107 < b112 := by rw [g112]; exact (A109).lt
  have lt1 : a1 < b112 := by rw [g112]; exact (Lp109).lt
  have f113 := (Lp109.ext E112)
  obtain ⟨cl114, Ar114, S114, H114⟩ := id f113
  have hin114 : ¬ ((0 : Int32) < 0 ∨ cl114.slots.size ≤ ((0 : Int32)).toNatClampNeg) := by rw [S114]; exact (by decide)
  have hat114 : cl114.slots[((0 : Int32)).toNatClampNeg]? = some (.long (f1 (0 : Int32))) := H114 _ hin114
  have pre115 : ∀ t, Steps p.tables e below (T112.setTop (mkF m 119 #[.val (.ref a1), .val (.int (3 : Int32)), .val (.long (own_v3 k0 k1 k2)), .second, .val (.ref b107), .val (.int P109), .val (.ref b112), .val (.int (0 : Int32)), .val (.long (k0 ^^^ (-9223372036854775808 : Int64))), .second, .val (.int (0 : Int32)), .unset, .unset, .unset, .unset, .unset, .unset] [])) t → Steps p.tables e below (s₁.setTop (entryFrame m #[(.ref a1), (.int (3 : Int32))] 17)) t := fun t kt => pre109 t (by
      show Steps p.tables e below (T109.setTop (mkF m 42 #[.val (.ref a1), .val (.int (3 : Int32)), .val (.long (own_v3 k0 k1 k2)), .second, .val (.ref b107), .val (.int P109), .val (.int (8 : Int32)), .unset, .unset, .unset, .unset, .unset, .unset, .unset, .unset, .unset, .unset] [])) _
      refine XS.iload X109.here hx rfl (hb hby dc0_42) rfl ?_
      refine XS.bipush X109.here hx rfl (hb hby dc0_44) ?_
      show Steps p.tables e below (T109.setTop (mkF m 46 #[.val (.ref a1), .val (.int (3 : Int32)), .val (.long (own_v3 k0 k1 k2)), .second, .val (.ref b107), .val (.int P109), .val (.int (8 : Int32)), .unset, .unset, .unset, .unset, .unset, .unset, .unset, .unset, .unset, .unset] [(.int (8 : Int32)), (.int (8 : Int32))])) _
      refine XS.icmpYes X109.here hx rfl (pc0 := 46) (pc' := 84) rfl (hb hby dc0_46) rfl (by decide) (by decide) (by decide) ?_
      refine XS.iload X109.here hx rfl (hb hby dc0_84) rfl ?_
      refine XS.sipush X109.here hx rfl (hb hby dc0_86) ?_
      refine st112 _ ?_
      refine XS.astore X112.here hx rfl (hb hby dc0_93) rfl rfl (l' := #[.val (.ref a1), .val (.int (3 : Int32)), .val (.long (own_v3 k0 k1 k2)), .second, .val (.ref b107), .val (.int P109), .val (.ref b112), .unset, .unset, .unset, .unset, .unset, .unset, .unset, .unset, .unset, .unset]) rfl ?_
      show Steps p.tables e below (T112.setTop (mkF m 95 #[.val (.ref a1), .val (.int (3 : Int32)), .val (.long (own_v3 k0 k1 k2)), .second, .val (.ref b107), .val (.int P109), .val (.ref b112), .unset, .unset, .unset, .unset, .unset, .unset, .unset, .unset, .unset, .unset] [])) _
      refine XS.iconst X112.here hx rfl (hb hby dc0_95) ?_
      refine XS.istore X112.here hx rfl (hb hby dc0_96) rfl (l' := #[.val (.ref a1), .val (.int (3 : Int32)), .val (.long (own_v3 k0 k1 k2)), .second, .val (.ref b107), .val (.int P109), .val (.ref b112), .val (.int (0 : Int32)), .unset, .unset, .unset, .unset, .unset, .unset, .unset, .unset, .unset]) rfl ?_
      refine XS.iload X112.here hx rfl (hb hby dc0_98) rfl ?_
      refine XS.iloadN X112.here hx rfl (hb hby dc0_100) rfl ?_
      show Steps p.tables e below (T112.setTop (mkF m 101 #[.val (.ref a1), .val (.int (3 : Int32)), .val (.long (own_v3 k0 k1 k2)), .second, .val (.ref b107), .val (.int P109), .val (.ref b112), .val (.int (0 : Int32)), .unset, .unset, .unset, .unset, .unset, .unset, .unset, .unset, .unset] [(.int (3 : Int32)), (.int (0 : Int32))])) _
      refine XS.icmpNo X112.here hx rfl (hb hby dc0_101) rfl (by decide) ?_
      show Steps p.tables e below (T112.setTop (mkF m 104 #[.val (.ref a1), .val (.int (3 : Int32)), .val (.long (own_v3 k0 k1 k2)), .second, .val (.ref b107), .val (.int P109), .val (.ref b112), .val (.int (0 : Int32)), .unset, .unset, .unset, .unset, .unset, .unset, .unset, .unset, .unset] [])) _
      refine XS.aloadN X112.here hx rfl (hb hby dc0_104) rfl rfl ?_
      refine XS.iconst X112.here hx rfl (hb hby dc0_105) ?_
      refine XS.iload X112.here hx rfl (hb hby dc0_106) rfl ?_
      refine XS.imul X112.here hx rfl (hb hby dc0_108) rfl ?_
      refine X112.laload hx (j := (0 : Int32)) (v := (.long (f1 (0 : Int32)))) (by rw [e112]; exact Ar114.1) (State.isArrayOf_alike hZ.alike Ar114.2.1) Ar114.2.2 hin114 hat114 (g := (mkF m 109 #[.val (.ref a1), .val (.int (3 : Int32)), .val (.long (own_v3 k0 k1 k2)), .second, .val (.ref b107), .val (.int P109), .val (.ref b112), .val (.int (0 : Int32)), .unset, .unset, .unset, .unset, .unset, .unset, .unset, .unset, .unset] [(.int (0 : Int32)), (.ref a1)])) rfl rfl (hb hby dc0_109) _ ?_
      show Steps p.tables e below (T112.setTop (mkF m 110 #[.val (.ref a1), .val (.int (3 : Int32)), .val (.long (own_v3 k0 k1 k2)), .second, .val (.ref b107), .val (.int P109), .val (.ref b112), .val (.int (0 : Int32)), .unset, .unset, .unset, .unset, .unset, .unset, .unset, .unset, .unset] [(.long (f1 (0 : Int32)))])) _
      rw [hf0]
      refine X112.ldc2Long hx hown (mvT hZ (hw _ (List.mem_of_getElem? (i := 9) rfl))) (g := (mkF m 110 #[.val (.ref a1), .val (.int (3 : Int32)), .val (.long (own_v3 k0 k1 k2)), .second, .val (.ref b107), .val (.int P109), .val (.ref b112), .val (.int (0 : Int32)), .unset, .unset, .unset, .unset, .unset, .unset, .unset, .unset, .unset] [(.long k0)])) rfl (hb hby dc0_110) _ ?_
      refine XS.lxor X112.here hx rfl (hb hby dc0_113) rfl ?_
      refine XS.lstore X112.here hx rfl (hb hby dc0_114) rfl (l' := #[.val (.ref a1), .val (.int (3 : Int32)), .val (.long (own_v3 k0 k1 k2)), .second, .val (.ref b107), .val (.int P109), .val (.ref b112), .val (.int (0 : Int32)), .val (.long (k0 ^^^ (-9223372036854775808 : Int64))), .second, .unset, .unset, .unset, .unset, .unset, .unset, .unset]) rfl ?_
      refine XS.iconst X112.here hx rfl (hb hby dc0_116) ?_
      show Steps p.tables e below (T112.setTop (mkF m 117 #[.val (.ref a1), .val (.int (3 : Int32)), .val (.long (own_v3 k0 k1 k2)), .second, .val (.ref b107), .val (.int P109), .val (.ref b112), .val (.int (0 : Int32)), .val (.long (k0 ^^^ (-9223372036854775808 : Int64))), .second, .unset, .unset, .unset, .unset, .unset, .unset, .unset] [(.int (0 : Int32))])) _
      refine XS.istore X112.here hx rfl (hb hby dc0_117) rfl (l' := #[.val (.ref a1), .val (.int (3 : Int32)), .val (.long (own_v3 k0 k1 k2)), .second, .val (.ref b107), .val (.int P109), .val (.ref b112), .val (.int (0 : Int32)), .val (.long (k0 ^^^ (-9223372036854775808 : Int64))), .second, .val (.int (0 : Int32)), .unset, .unset, .unset, .unset, .unset, .unset]) rfl ?_
      exact kt)
  have f117 := (A109.ext E112)
  have O118 : Old Z n0 h112 := (O109.ext E112)
  obtain ⟨h116, cc116, G116, K116, Gd116, hc116⟩ := cnL hx hZ hw hby hml hown (.val (.ref a1)) (.val (.int (3 : Int32))) (.val (.long (own_v3 k0 k1 k2))) (.second) (.val (.int (0 : Int32))) (.unset) (.unset) (.unset) (.unset) (.unset) (.unset) k0 b107 b112 (b112 + 1) P109 xs109 rfl lt4 gb112 hP109.2 (P109).toNatClampNeg h112 (0 : Int32) _ (by show (0 : Int) + ((P109.toInt.toNat : Nat) : Int) = P109.toInt; omega) (by decide) f117 Gd112 ⟨_, _, X112, e112, N109, O118, pre115⟩
  have A4116 := (f117).keep K116 (own_nin (Nat.lt_succ_of_lt lt4))
  have Lp116 := (f113).keep K116 (own_nin (Nat.lt_succ_of_lt lt1))
  obtain ⟨T116, L116, X116, e116, N116, O116, pre116⟩ := G116
  obtain ⟨cl119, Ar119, S119, H119⟩ := id Lp116
  have hin119 : ¬ ((2 : Int32) < 0 ∨ cl119.slots.size ≤ ((2 : Int32)).toNatClampNeg) := by rw [S119]; exact (by decide)
  have hat119 : cl119.slots[((2 : Int32)).toNatClampNeg]? = some (.long (f1 (2 : Int32))) := H119 _ hin119
  have pre120 : ∀ t, Steps p.tables e below (T116.setTop (mkF m 119 #[.val (.ref a1), .val (.int (3 : Int32)), .val (.long (own_v3 k0 k1 k2)), .second, .val (.ref b107), .val (.int P109), .val (.ref b112), .val (.int (1 : Int32)), .val (.long (k1 ^^^ (-9223372036854775808 : Int64))), .second, .val (.int (0 : Int32)), .unset, .unset, .unset, .unset, .unset, .unset] [])) t → Steps p.tables e below (s₁.setTop (entryFrame m #[(.ref a1), (.int (3 : Int32))] 17)) t := fun t kt => pre116 t (by
      show Steps p.tables e below (T116.setTop (mkF m 119 #[.val (.ref a1), .val (.int (3 : Int32)), .val (.long (own_v3 k0 k1 k2)), .second, .val (.ref b107), .val (.int P109), .val (.ref b112), .val (.int (0 : Int32)), .val (.long (k0 ^^^ (-9223372036854775808 : Int64))), .second, .val (.int P109), .unset, .unset, .unset, .unset, .unset, .unset] [])) _
      refine XS.iload X116.here hx rfl (hb hby dc0_119) rfl ?_
      refine XS.iload X116.here hx rfl (hb hby dc0_121) rfl ?_
      show Steps p.tables e below (T116.setTop (mkF m 123 #[.val (.ref a1), .val (.int (3 : Int32)), .val (.long (own_v3 k0 k1 k2)), .second, .val (.ref b107), .val (.int P109), .val (.ref b112), .val (.int (0 : Int32)), .val (.long (k0 ^^^ (-9223372036854775808 : Int64))), .second, .val (.int P109), .unset, .unset, .unset, .unset, .unset, .unset] [(.int P109), (.int P109)])) _
      refine XS.icmpYes X116.here hx rfl (pc0 := 123) (pc' := 155) rfl (hb hby dc0_123) rfl (flt (own_irr _)).2.1 (by decide) (by decide) ?_
      refine XS.iinc X116.here hx rfl (hb hby dc0_155) rfl (l' := #[.val (.ref a1), .val (.int (3 : Int32)), .val (.long (own_v3 k0 k1 k2)), .second, .val (.ref b107), .val (.int P109), .val (.ref b112), .val (.int (1 : Int32)), .val (.long (k0 ^^^ (-9223372036854775808 : Int64))), .second, .val (.int P109), .unset, .unset, .unset, .unset, .unset, .unset]) rfl ?_
      show Steps p.tables e below (T116.setTop (mkF m 158 #[.val (.ref a1), .val (.int (3 : Int32)), .val (.long (own_v3 k0 k1 k2)), .second, .val (.ref b107), .val (.int P109), .val (.ref b112), .val (.int (1 : Int32)), .val (.long (k0 ^^^ (-9223372036854775808 : Int64))), .second, .val (.int P109), .unset, .unset, .unset, .unset, .unset, .unset] [])) _
      refine XS.goto X116.here hx rfl (pc0 := 158) (pc' := 98) rfl (hb hby dc0_158) (by decide) (by decide) ?_
      refine XS.iload X116.here hx rfl (hb hby dc0_98) rfl ?_
      refine XS.iloadN X116.here hx rfl (hb hby dc0_100) rfl ?_
      show Steps p.tables e below (T116.setTop (mkF m 101 #[.val (.ref a1), .val (.int (3 : Int32)), .val (.long (own_v3 k0 k1 k2)), .second, .val (.ref b107), .val (.int P109), .val (.ref b112), .val (.int (1 : Int32)), .val (.long (k0 ^^^ (-9223372036854775808 : Int64))), .second, .val (.int P109), .unset, .unset, .unset, .unset, .unset, .unset] [(.int (3 : Int32)), (.int (1 : Int32))])) _
      refine XS.icmpNo X116.here hx rfl (hb hby dc0_101) rfl (by decide) ?_
      refine XS.aloadN X116.here hx rfl (hb hby dc0_104) rfl rfl ?_
      show Steps p.tables e below (T116.setTop (mkF m 105 #[.val (.ref a1), .val (.int (3 : Int32)), .val (.long (own_v3 k0 k1 k2)), .second, .val (.ref b107), .val (.int P109), .val (.ref b112), .val (.int (1 : Int32)), .val (.long (k0 ^^^ (-9223372036854775808 : Int64))), .second, .val (.int P109), .unset, .unset, .unset, .unset, .unset, .unset] [(.ref a1)])) _
      refine XS.iconst X116.here hx rfl (hb hby dc0_105) ?_
      refine XS.iload X116.here hx rfl (hb hby dc0_106) rfl ?_
      refine XS.imul X116.here hx rfl (hb hby dc0_108) rfl ?_
      refine X116.laload hx (j := (2 : Int32)) (v := (.long (f1 (2 : Int32)))) (by rw [e116]; exact Ar119.1) (State.isArrayOf_alike hZ.alike Ar119.2.1) Ar119.2.2 hin119 hat119 (g := (mkF m 109 #[.val (.ref a1), .val (.int (3 : Int32)), .val (.long (own_v3 k0 k1 k2)), .second, .val (.ref b107), .val (.int P109), .val (.ref b112), .val (.int (1 : Int32)), .val (.long (k0 ^^^ (-9223372036854775808 : Int64))), .second, .val (.int P109), .unset, .unset, .unset, .unset, .unset, .unset] [(.int (2 : Int32)), (.ref a1)])) rfl rfl (hb hby dc0_109) _ ?_
      show Steps p.tables e below (T116.setTop (mkF m 110 #[.val (.ref a1), .val (.int (3 : Int32)), .val (.long (own_v3 k0 k1 k2)), .second, .val (.ref b107), .val (.int P109), .val (.ref b112), .val (.int (1 : Int32)), .val (.long (k0 ^^^ (-9223372036854775808 : Int64))), .second, .val (.int P109), .unset, .unset, .unset, .unset, .unset, .unset] [(.long (f1 (2 : Int32)))])) _
      rw [hf2]
      show Steps p.tables e below (T116.setTop (mkF m 110 #[.val (.ref a1), .val (.int (3 : Int32)), .val (.long (own_v3 k0 k1 k2)), .second, .val (.ref b107), .val (.int P109), .val (.ref b112), .val (.int (1 : Int32)), .val (.long (k0 ^^^ (-9223372036854775808 : Int64))), .second, .val (.int P109), .unset, .unset, .unset, .unset, .unset, .unset] [(.long k1)])) _
      refine X116.ldc2Long hx hown (mvT hZ (hw _ (List.mem_of_getElem? (i := 9) rfl))) (g := (mkF m 110 #[.val (.ref a1), .val (.int (3 : Int32)), .val (.long (own_v3 k0 k1 k2)), .second, .val (.ref b107), .val (.int P109), .val (.ref b112), .val (.int (1 : Int32)), .val (.long (k0 ^^^ (-9223372036854775808 : Int64))), .second, .val (.int P109), .unset, .unset, .unset, .unset, .unset, .unset] [(.long k1)])) rfl (hb hby dc0_110) _ ?_
      refine XS.lxor X116.here hx rfl (hb hby dc0_113) rfl ?_
      refine XS.lstore X116.here hx rfl (hb hby dc0_114) rfl (l' := #[.val (.ref a1), .val (.int (3 : Int32)), .val (.long (own_v3 k0 k1 k2)), .second, .val (.ref b107), .val (.int P109), .val (.ref b112), .val (.int (1 : Int32)), .val (.long (k1 ^^^ (-9223372036854775808 : Int64))), .second, .val (.int P109), .unset, .unset, .unset, .unset, .unset, .unset]) rfl ?_
      refine XS.iconst X116.here hx rfl (hb hby dc0_116) ?_
      refine XS.istore X116.here hx rfl (hb hby dc0_117) rfl (l' := #[.val (.ref a1), .val (.int (3 : Int32)), .val (.long (own_v3 k0 k1 k2)), .second, .val (.ref b107), .val (.int P109), .val (.ref b112), .val (.int (1 : Int32)), .val (.long (k1 ^^^ (-9223372036854775808 : Int64))), .second, .val (.int (0 : Int32)), .unset, .unset, .unset, .unset, .unset, .unset]) rfl ?_
      exact kt)
  obtain ⟨h121, cc121, G121, K121, Gd121, hc121⟩ := cnL hx hZ hw hby hml hown (.val (.ref a1)) (.val (.int (3 : Int32))) (.val (.long (own_v3 k0 k1 k2))) (.second) (.val (.int (1 : Int32))) (.unset) (.unset) (.unset) (.unset) (.unset) (.unset) k1 b107 b112 (b112 + 1) P109 xs109 rfl lt4 gb112 hP109.2 (P109).toNatClampNeg h116 (0 : Int32) _ (by show (0 : Int) + ((P109.toInt.toNat : Nat) : Int) = P109.toInt; omega) (by decide) A4116 Gd116 ⟨_, _, X116, e116, N116, O116, pre120⟩
  have A4121 := (A4116).keep K121 (own_nin (Nat.lt_succ_of_lt lt4))
  have Lp121 := (Lp116).keep K121 (own_nin (Nat.lt_succ_of_lt lt1))
  obtain ⟨T121, L121, X121, e121, N121, O121, pre121⟩ := G121
  obtain ⟨cl122, Ar122, S122, H122⟩ := id Lp121
  have hin122 : ¬ ((4 : Int32) < 0 ∨ cl122.slots.size ≤ ((4 : Int32)).toNatClampNeg) := by rw [S122]; exact (by decide)
  have hat122 : cl122.slots[((4 : Int32)).toNatClampNeg]? = some (.long (f1 (4 : Int32))) := H122 _ hin122
  have pre123 : ∀ t, Steps p.tables e below (T121.setTop (mkF m 119 #[.val (.ref a1), .val (.int (3 : Int32)), .val (.long (own_v3 k0 k1 k2)), .second, .val (.ref b107), .val (.int P109), .val (.ref b112), .val (.int (2 : Int32)), .val (.long (k2 ^^^ (-9223372036854775808 : Int64))), .second, .val (.int (0 : Int32)), .unset, .unset, .unset, .unset, .unset, .unset] [])) t → Steps p.tables e below (s₁.setTop (entryFrame m #[(.ref a1), (.int (3 : Int32))] 17)) t := fun t kt => pre121 t (by
      show Steps p.tables e below (T121.setTop (mkF m 119 #[.val (.ref a1), .val (.int (3 : Int32)), .val (.long (own_v3 k0 k1 k2)), .second, .val (.ref b107), .val (.int P109), .val (.ref b112), .val (.int (1 : Int32)), .val (.long (k1 ^^^ (-9223372036854775808 : Int64))), .second, .val (.int P109), .unset, .unset, .unset, .unset, .unset, .unset] [])) _
      refine XS.iload X121.here hx rfl (hb hby dc0_119) rfl ?_
      refine XS.iload X121.here hx rfl (hb hby dc0_121) rfl ?_
      show Steps p.tables e below (T121.setTop (mkF m 123 #[.val (.ref a1), .val (.int (3 : Int32)), .val (.long (own_v3 k0 k1 k2)), .second, .val (.ref b107), .val (.int P109), .val (.ref b112), .val (.int (1 : Int32)), .val (.long (k1 ^^^ (-9223372036854775808 : Int64))), .second, .val (.int P109), .unset, .unset, .unset, .unset, .unset, .unset] [(.int P109), (.int P109)])) _
      refine XS.icmpYes X121.here hx rfl (pc0 := 123) (pc' := 155) rfl (hb hby dc0_123) rfl (flt (own_irr _)).2.1 (by decide) (by decide) ?_
      refine XS.iinc X121.here hx rfl (hb hby dc0_155) rfl (l' := #[.val (.ref a1), .val (.int (3 : Int32)), .val (.long (own_v3 k0 k1 k2)), .second, .val (.ref b107), .val (.int P109), .val (.ref b112), .val (.int (2 : Int32)), .val (.long (k1 ^^^ (-9223372036854775808 : Int64))), .second, .val (.int P109), .unset, .unset, .unset, .unset, .unset, .unset]) rfl ?_
      refine XS.goto X121.here hx rfl (pc0 := 158) (pc' := 98) rfl (hb hby dc0_158) (by decide) (by decide) ?_
      show Steps p.tables e below (T121.setTop (mkF m 98 #[.val (.ref a1), .val (.int (3 : Int32)), .val (.long (own_v3 k0 k1 k2)), .second, .val (.ref b107), .val (.int P109), .val (.ref b112), .val (.int (2 : Int32)), .val (.long (k1 ^^^ (-9223372036854775808 : Int64))), .second, .val (.int P109), .unset, .unset, .unset, .unset, .unset, .unset] [])) _
      refine XS.iload X121.here hx rfl (hb hby dc0_98) rfl ?_
      refine XS.iloadN X121.here hx rfl (hb hby dc0_100) rfl ?_
      show Steps p.tables e below (T121.setTop (mkF m 101 #[.val (.ref a1), .val (.int (3 : Int32)), .val (.long (own_v3 k0 k1 k2)), .second, .val (.ref b107), .val (.int P109), .val (.ref b112), .val (.int (2 : Int32)), .val (.long (k1 ^^^ (-9223372036854775808 : Int64))), .second, .val (.int P109), .unset, .unset, .unset, .unset, .unset, .unset] [(.int (3 : Int32)), (.int (2 : Int32))])) _
      refine XS.icmpNo X121.here hx rfl (hb hby dc0_101) rfl (by decide) ?_
      refine XS.aloadN X121.here hx rfl (hb hby dc0_104) rfl rfl ?_
      refine XS.iconst X121.here hx rfl (hb hby dc0_105) ?_
      show Steps p.tables e below (T121.setTop (mkF m 106 #[.val (.ref a1), .val (.int (3 : Int32)), .val (.long (own_v3 k0 k1 k2)), .second, .val (.ref b107), .val (.int P109), .val (.ref b112), .val (.int (2 : Int32)), .val (.long (k1 ^^^ (-9223372036854775808 : Int64))), .second, .val (.int P109), .unset, .unset, .unset, .unset, .unset, .unset] [(.int (2 : Int32)), (.ref a1)])) _
      refine XS.iload X121.here hx rfl (hb hby dc0_106) rfl ?_
      refine XS.imul X121.here hx rfl (hb hby dc0_108) rfl ?_
      refine X121.laload hx (j := (4 : Int32)) (v := (.long (f1 (4 : Int32)))) (by rw [e121]; exact Ar122.1) (State.isArrayOf_alike hZ.alike Ar122.2.1) Ar122.2.2 hin122 hat122 (g := (mkF m 109 #[.val (.ref a1), .val (.int (3 : Int32)), .val (.long (own_v3 k0 k1 k2)), .second, .val (.ref b107), .val (.int P109), .val (.ref b112), .val (.int (2 : Int32)), .val (.long (k1 ^^^ (-9223372036854775808 : Int64))), .second, .val (.int P109), .unset, .unset, .unset, .unset, .unset, .unset] [(.int (4 : Int32)), (.ref a1)])) rfl rfl (hb hby dc0_109) _ ?_
      show Steps p.tables e below (T121.setTop (mkF m 110 #[.val (.ref a1), .val (.int (3 : Int32)), .val (.long (own_v3 k0 k1 k2)), .second, .val (.ref b107), .val (.int P109), .val (.ref b112), .val (.int (2 : Int32)), .val (.long (k1 ^^^ (-9223372036854775808 : Int64))), .second, .val (.int P109), .unset, .unset, .unset, .unset, .unset, .unset] [(.long (f1 (4 : Int32)))])) _
      rw [hf4]
      refine X121.ldc2Long hx hown (mvT hZ (hw _ (List.mem_of_getElem? (i := 9) rfl))) (g := (mkF m 110 #[.val (.ref a1), .val (.int (3 : Int32)), .val (.long (own_v3 k0 k1 k2)), .second, .val (.ref b107), .val (.int P109), .val (.ref b112), .val (.int (2 : Int32)), .val (.long (k1 ^^^ (-9223372036854775808 : Int64))), .second, .val (.int P109), .unset, .unset, .unset, .unset, .unset, .unset] [(.long k2)])) rfl (hb hby dc0_110) _ ?_
      show Steps p.tables e below (T121.setTop (mkF m 113 #[.val (.ref a1), .val (.int (3 : Int32)), .val (.long (own_v3 k0 k1 k2)), .second, .val (.ref b107), .val (.int P109), .val (.ref b112), .val (.int (2 : Int32)), .val (.long (k1 ^^^ (-9223372036854775808 : Int64))), .second, .val (.int P109), .unset, .unset, .unset, .unset, .unset, .unset] [(.long (-9223372036854775808 : Int64)), (.long k2)])) _
      refine XS.lxor X121.here hx rfl (hb hby dc0_113) rfl ?_
      refine XS.lstore X121.here hx rfl (hb hby dc0_114) rfl (l' := #[.val (.ref a1), .val (.int (3 : Int32)), .val (.long (own_v3 k0 k1 k2)), .second, .val (.ref b107), .val (.int P109), .val (.ref b112), .val (.int (2 : Int32)), .val (.long (k2 ^^^ (-9223372036854775808 : Int64))), .second, .val (.int P109), .unset, .unset, .unset, .unset, .unset, .unset]) rfl ?_
      refine XS.iconst X121.here hx rfl (hb hby dc0_116) ?_
      refine XS.istore X121.here hx rfl (hb hby dc0_117) rfl (l' := #[.val (.ref a1), .val (.int (3 : Int32)), .val (.long (own_v3 k0 k1 k2)), .second, .val (.ref b107), .val (.int P109), .val (.ref b112), .val (.int (2 : Int32)), .val (.long (k2 ^^^ (-9223372036854775808 : Int64))), .second, .val (.int (0 : Int32)), .unset, .unset, .unset, .unset, .unset, .unset]) rfl ?_
      exact kt)
  obtain ⟨h124, cc124, G124, K124, Gd124, hc124⟩ := cnL hx hZ hw hby hml hown (.val (.ref a1)) (.val (.int (3 : Int32))) (.val (.long (own_v3 k0 k1 k2))) (.second) (.val (.int (2 : Int32))) (.unset) (.unset) (.unset) (.unset) (.unset) (.unset) k2 b107 b112 (b112 + 1) P109 xs109 rfl lt4 gb112 hP109.2 (P109).toNatClampNeg h121 (0 : Int32) _ (by show (0 : Int) + ((P109.toInt.toNat : Nat) : Int) = P109.toInt; omega) (by decide) A4121 Gd121 ⟨_, _, X121, e121, N121, O121, pre123⟩
  have A4124 := (A4121).keep K124 (own_nin (Nat.lt_succ_of_lt lt4))
  have Lp124 := (Lp121).keep K124 (own_nin (Nat.lt_succ_of_lt lt1))
  obtain ⟨T124, L124, X124, e124, N124, O124, pre124⟩ := G124
  have pre125 : ∀ t, Steps p.tables e below (T124.setTop (mkF m 161 #[.val (.ref a1), .val (.int (3 : Int32)), .val (.long (own_v3 k0 k1 k2)), .second, .val (.ref b107), .val (.int P109), .val (.ref b112), .val (.int (3 : Int32)), .val (.long (k2 ^^^ (-9223372036854775808 : Int64))), .second, .val (.int P109), .unset, .unset, .unset, .unset, .unset, .unset] [])) t → Steps p.tables e below (s₁.setTop (entryFrame m #[(.ref a1), (.int (3 : Int32))] 17)) t := fun t kt => pre124 t (by
      show Steps p.tables e below (T124.setTop (mkF m 119 #[.val (.ref a1), .val (.int (3 : Int32)), .val (.long (own_v3 k0 k1 k2)), .second, .val (.ref b107), .val (.int P109), .val (.ref b112), .val (.int (2 : Int32)), .val (.long (k2 ^^^ (-9223372036854775808 : Int64))), .second, .val (.int P109), .unset, .unset, .unset, .unset, .unset, .unset] [])) _
      refine XS.iload X124.here hx rfl (hb hby dc0_119) rfl ?_
      show Steps p.tables e below (T124.setTop (mkF m 121 #[.val (.ref a1), .val (.int (3 : Int32)), .val (.long (own_v3 k0 k1 k2)), .second, .val (.ref b107), .val (.int P109), .val (.ref b112), .val (.int (2 : Int32)), .val (.long (k2 ^^^ (-9223372036854775808 : Int64))), .second, .val (.int P109), .unset, .unset, .unset, .unset, .unset, .unset] [(.int P109)])) _
      refine XS.iload X124.here hx rfl (hb hby dc0_121) rfl ?_
      show Steps p.tables e below (T124.setTop (mkF m 123 #[.val (.ref a1), .val (.int (3 : Int32)), .val (.long (own_v3 k0 k1 k2)), .second, .val (.ref b107), .val (.int P109), .val (.ref b112), .val (.int (2 : Int32)), .val (.long (k2 ^^^ (-9223372036854775808 : Int64))), .second, .val (.int P109), .unset, .unset, .unset, .unset, .unset, .unset] [(.int P109), (.int P109)])) _
      refine XS.icmpYes X124.here hx rfl (pc0 := 123) (pc' := 155) rfl (hb hby dc0_123) rfl (flt (own_irr _)).2.1 (by decide) (by decide) ?_
      refine XS.iinc X124.here hx rfl (hb hby dc0_155) rfl (l' := #[.val (.ref a1), .val (.int (3 : Int32)), .val (.long (own_v3 k0 k1 k2)), .second, .val (.ref b107), .val (.int P109), .val (.ref b112), .val (.int (3 : Int32)), .val (.long (k2 ^^^ (-9223372036854775808 : Int64))), .second, .val (.int P109), .unset, .unset, .unset, .unset, .unset, .unset]) rfl ?_
      refine XS.goto X124.here hx rfl (pc0 := 158) (pc' := 98) rfl (hb hby dc0_158) (by decide) (by decide) ?_
      refine XS.iload X124.here hx rfl (hb hby dc0_98) rfl ?_
      show Steps p.tables e below (T124.setTop (mkF m 100 #[.val (.ref a1), .val (.int (3 : Int32)), .val (.long (own_v3 k0 k1 k2)), .second, .val (.ref b107), .val (.int P109), .val (.ref b112), .val (.int (3 : Int32)), .val (.long (k2 ^^^ (-9223372036854775808 : Int64))), .second, .val (.int P109), .unset, .unset, .unset, .unset, .unset, .unset] [(.int (3 : Int32))])) _
      refine XS.iloadN X124.here hx rfl (hb hby dc0_100) rfl ?_
      show Steps p.tables e below (T124.setTop (mkF m 101 #[.val (.ref a1), .val (.int (3 : Int32)), .val (.long (own_v3 k0 k1 k2)), .second, .val (.ref b107), .val (.int P109), .val (.ref b112), .val (.int (3 : Int32)), .val (.long (k2 ^^^ (-9223372036854775808 : Int64))), .second, .val (.int P109), .unset, .unset, .unset, .unset, .unset, .unset] [(.int (3 : Int32)), (.int (3 : Int32))])) _
      refine XS.icmpYes X124.here hx rfl (pc0 := 101) (pc' := 161) rfl (hb hby dc0_101) rfl (by decide) (by decide) (by decide) ?_
      exact kt)
  by_cases hc126 : P109 = (0 : Int32)
  · skip
    have okz : Ok3 k0 k1 k2 w0 8 f1 := by
      have q := (Ok3.start (w := w0) hf0 hf1 hf2 hf3 hf4 hf5).skip (Nat.zero_le _) (fun d _ q => (DS_first (v := (own_v3 k0 k1 k2))).2 d q)
      rw [own_getD' (by have := hg109.1; rw [hc126] at this; have e : (0 : Int32).toInt = 0 := rfl; omega)] at q; exact q
    obtain ⟨fs, hr, hrun, hended, hW, hsame⟩ := X124.leave (v := some (.ref a1)) (fun h => by rw [Bd.returns] at h; cases h)
    refine ⟨_, _, pre125 _ ?_, hrun, hended, _, _, rfl, ?_, ⟨_, rfl⟩, hW, hsame.mono (by decide) (by decide)⟩
    · skip
      show Steps p.tables e below (T124.setTop (mkF m 161 #[.val (.ref a1), .val (.int (3 : Int32)), .val (.long (own_v3 k0 k1 k2)), .second, .val (.ref b107), .val (.int P109), .val (.ref b112), .val (.int (3 : Int32)), .val (.long (k2 ^^^ (-9223372036854775808 : Int64))), .second, .val (.int P109), .unset, .unset, .unset, .unset, .unset, .unset] [])) _
      refine XS.aloadN X124.here hx rfl (hb hby dc0_161) rfl rfl ?_
      refine XS.astore X124.here hx rfl (hb hby dc0_162) rfl rfl (l' := #[.val (.ref a1), .val (.int (3 : Int32)), .val (.long (own_v3 k0 k1 k2)), .second, .val (.ref b107), .val (.int P109), .val (.ref b112), .val (.ref a1), .val (.long (k2 ^^^ (-9223372036854775808 : Int64))), .second, .val (.int P109), .unset, .unset, .unset, .unset, .unset, .unset]) rfl ?_
      refine XS.iload X124.here hx rfl (hb hby dc0_164) rfl ?_
      show Steps p.tables e below (T124.setTop (mkF m 166 #[.val (.ref a1), .val (.int (3 : Int32)), .val (.long (own_v3 k0 k1 k2)), .second, .val (.ref b107), .val (.int P109), .val (.ref b112), .val (.ref a1), .val (.long (k2 ^^^ (-9223372036854775808 : Int64))), .second, .val (.int P109), .unset, .unset, .unset, .unset, .unset, .unset] [(.int P109)])) _
      refine XS.ifNo X124.here hx rfl (hb hby dc0_166) rfl ((if0 _ _).trans (teq hc126).2) ?_
      refine XS.aconstNull X124.here hx rfl (hb hby dc0_169) ?_
      refine XS.goto X124.here hx rfl (pc0 := 170) (pc' := 177) rfl (hb hby dc0_170) (by decide) (by decide) ?_
      refine XS.astore X124.here hx rfl (hb hby dc0_177) rfl rfl (l' := #[.val (.ref a1), .val (.int (3 : Int32)), .val (.long (own_v3 k0 k1 k2)), .second, .val (.ref b107), .val (.int P109), .val (.ref b112), .val (.ref a1), .val .null, .unset, .val (.int P109), .unset, .unset, .unset, .unset, .unset, .unset]) rfl ?_
      refine XS.iconst X124.here hx rfl (hb hby dc0_179) ?_
      show Steps p.tables e below (T124.setTop (mkF m 180 #[.val (.ref a1), .val (.int (3 : Int32)), .val (.long (own_v3 k0 k1 k2)), .second, .val (.ref b107), .val (.int P109), .val (.ref b112), .val (.ref a1), .val .null, .unset, .val (.int P109), .unset, .unset, .unset, .unset, .unset, .unset] [(.int (0 : Int32))])) _
      refine XS.istore X124.here hx rfl (hb hby dc0_180) rfl (l' := #[.val (.ref a1), .val (.int (3 : Int32)), .val (.long (own_v3 k0 k1 k2)), .second, .val (.ref b107), .val (.int P109), .val (.ref b112), .val (.ref a1), .val .null, .val (.int (0 : Int32)), .val (.int P109), .unset, .unset, .unset, .unset, .unset, .unset]) rfl ?_
      refine XS.iload X124.here hx rfl (hb hby dc0_182) rfl ?_
      refine XS.iload X124.here hx rfl (hb hby dc0_184) rfl ?_
      show Steps p.tables e below (T124.setTop (mkF m 186 #[.val (.ref a1), .val (.int (3 : Int32)), .val (.long (own_v3 k0 k1 k2)), .second, .val (.ref b107), .val (.int P109), .val (.ref b112), .val (.ref a1), .val .null, .val (.int (0 : Int32)), .val (.int P109), .unset, .unset, .unset, .unset, .unset, .unset] [(.int P109), (.int (0 : Int32))])) _
      refine XS.icmpYes X124.here hx rfl (pc0 := 186) (pc' := 335) rfl (hb hby dc0_186) rfl (flt (by rw [hc126]; decide)).2.1 (by decide) (by decide) ?_
      refine XS.aload X124.here hx rfl (hb hby dc0_335) rfl rfl ?_
      show Steps p.tables e below (T124.setTop (mkF m 337 #[.val (.ref a1), .val (.int (3 : Int32)), .val (.long (own_v3 k0 k1 k2)), .second, .val (.ref b107), .val (.int P109), .val (.ref b112), .val (.ref a1), .val .null, .val (.int (0 : Int32)), .val (.int P109), .unset, .unset, .unset, .unset, .unset, .unset] [(.ref a1)])) _
      exact retOut X124 hx (t := (.array .long)) Bd.returns rfl (Or.inr (Or.inr (Or.inr (Or.inr ⟨rfl, rfl, rfl⟩)))) (hb hby dc0_337) hr
    · show Q_s Z (Ok3 k0 k1 k2 w0 8) n0 _ T124.heap _
      rw [e124]
      exact ⟨_, f1, rfl, N124, O124, Lp124, okz⟩
  · skip
    obtain ⟨cl127, Ar127, S127, -⟩ := id Lp124
    obtain ⟨T128, h128, k128, X128, e128, E128, A128, st128⟩ := newP X124 hx hZ (hw _ (List.mem_of_getElem? (i := 0) rfl)) e124 (g := (mkF m 175 #[.val (.ref a1), .val (.int (3 : Int32)), .val (.long (own_v3 k0 k1 k2)), .second, .val (.ref b107), .val (.int P109), .val (.ref b112), .val (.ref a1), .val (.long (k2 ^^^ (-9223372036854775808 : Int64))), .second, .val (.int P109), .unset, .unset, .unset, .unset, .unset, .unset] [(.int (6 : Int32))])) rfl (hb hby dc0_175) rfl (by decide) (cap := 6) (by decide) (by decide) (by decide) (by decide)
    obtain ⟨b128, g128⟩ : ∃ z, z = h124.size := ⟨_, rfl⟩
    rw [← g128] at A128 st128
    have gb128 : n0 ≤ b128 := by rw [g128, ← O124.1]; exact O124.2.1
    have ne128_a1 : a1 ≠ b128 := by rw [g128]; exact Nat.ne_of_lt (Lp124).lt
    have ne128_b107 : b107 ≠ b128 := by rw [g128]; exact Nat.ne_of_lt (A4124).lt
    have V128 : Arv Z h128 b128 k128 .long (6 : Int32) [(.long (0 : Int64)), (.long (0 : Int64)), (.long (0 : Int64)), (.long (0 : Int64)), (.long (0 : Int64)), (.long (0 : Int64))] (.long (0 : Int64)) := (Arv.new A128 (by decide)).pad (pad_rep [] (.long (0 : Int64)) 6)
    have pre129 : ∀ t, Steps p.tables e below (T128.setTop (mkF m 182 #[.val (.ref a1), .val (.int (3 : Int32)), .val (.long (own_v3 k0 k1 k2)), .second, .val (.ref b107), .val (.int P109), .val (.ref b112), .val (.ref a1), .val (.ref b128), .val (.int (0 : Int32)), .val (.int P109), .unset, .unset, .unset, .unset, .unset, .unset] [])) t → Steps p.tables e below (s₁.setTop (entryFrame m #[(.ref a1), (.int (3 : Int32))] 17)) t := fun t kt => pre125 t (by
        show Steps p.tables e below (T124.setTop (mkF m 161 #[.val (.ref a1), .val (.int (3 : Int32)), .val (.long (own_v3 k0 k1 k2)), .second, .val (.ref b107), .val (.int P109), .val (.ref b112), .val (.int (3 : Int32)), .val (.long (k2 ^^^ (-9223372036854775808 : Int64))), .second, .val (.int P109), .unset, .unset, .unset, .unset, .unset, .unset] [])) _
        refine XS.aloadN X124.here hx rfl (hb hby dc0_161) rfl rfl ?_
        refine XS.astore X124.here hx rfl (hb hby dc0_162) rfl rfl (l' := #[.val (.ref a1), .val (.int (3 : Int32)), .val (.long (own_v3 k0 k1 k2)), .second, .val (.ref b107), .val (.int P109), .val (.ref b112), .val (.ref a1), .val (.long (k2 ^^^ (-9223372036854775808 : Int64))), .second, .val (.int P109), .unset, .unset, .unset, .unset, .unset, .unset]) rfl ?_
        refine XS.iload X124.here hx rfl (hb hby dc0_164) rfl ?_
        show Steps p.tables e below (T124.setTop (mkF m 166 #[.val (.ref a1), .val (.int (3 : Int32)), .val (.long (own_v3 k0 k1 k2)), .second, .val (.ref b107), .val (.int P109), .val (.ref b112), .val (.ref a1), .val (.long (k2 ^^^ (-9223372036854775808 : Int64))), .second, .val (.int P109), .unset, .unset, .unset, .unset, .unset, .unset] [(.int P109)])) _
        refine XS.ifYes X124.here hx rfl (pc0 := 166) (pc' := 173) rfl (hb hby dc0_166) rfl ((if0 _ _).trans (feq hc126).2) (by decide) (by decide) ?_
        show Steps p.tables e below (T124.setTop (mkF m 173 #[.val (.ref a1), .val (.int (3 : Int32)), .val (.long (own_v3 k0 k1 k2)), .second, .val (.ref b107), .val (.int P109), .val (.ref b112), .val (.ref a1), .val (.long (k2 ^^^ (-9223372036854775808 : Int64))), .second, .val (.int P109), .unset, .unset, .unset, .unset, .unset, .unset] [])) _
        refine XS.aloadN X124.here hx rfl (hb hby dc0_173) rfl rfl ?_
        refine X124.arraylength hx (by rw [e124]; exact Ar127.1) (State.isArrayOf_alike hZ.alike Ar127.2.1) (g := (mkF m 174 #[.val (.ref a1), .val (.int (3 : Int32)), .val (.long (own_v3 k0 k1 k2)), .second, .val (.ref b107), .val (.int P109), .val (.ref b112), .val (.ref a1), .val (.long (k2 ^^^ (-9223372036854775808 : Int64))), .second, .val (.int P109), .unset, .unset, .unset, .unset, .unset, .unset] [(.ref a1)])) rfl rfl (hb hby dc0_174) _ ?_
        rw [show cl127.slots.size.toInt32 = (6 : Int32) from by rw [S127]; rfl]
        refine st128 _ ?_
        refine XS.astore X128.here hx rfl (hb hby dc0_177) rfl rfl (l' := #[.val (.ref a1), .val (.int (3 : Int32)), .val (.long (own_v3 k0 k1 k2)), .second, .val (.ref b107), .val (.int P109), .val (.ref b112), .val (.ref a1), .val (.ref b128), .unset, .val (.int P109), .unset, .unset, .unset, .unset, .unset, .unset]) rfl ?_
        refine XS.iconst X128.here hx rfl (hb hby dc0_179) ?_
        show Steps p.tables e below (T128.setTop (mkF m 180 #[.val (.ref a1), .val (.int (3 : Int32)), .val (.long (own_v3 k0 k1 k2)), .second, .val (.ref b107), .val (.int P109), .val (.ref b112), .val (.ref a1), .val (.ref b128), .unset, .val (.int P109), .unset, .unset, .unset, .unset, .unset, .unset] [(.int (0 : Int32))])) _
        refine XS.istore X128.here hx rfl (hb hby dc0_180) rfl (l' := #[.val (.ref a1), .val (.int (3 : Int32)), .val (.long (own_v3 k0 k1 k2)), .second, .val (.ref b107), .val (.int P109), .val (.ref b112), .val (.ref a1), .val (.ref b128), .val (.int (0 : Int32)), .val (.int P109), .unset, .unset, .unset, .unset, .unset, .unset]) rfl ?_
        exact kt)
    have f131 := (A4124.ext E128)
    have f132 := (Lp124.ext E128)
    have Lb130 := Lv.of6 V128
    have Gx130 := Gd124.ext E128
    have sz130 := Gd124.sz
    have hcc130 : ∀ i, (0 : Int32).toNatClampNeg ≤ i → i < (P109).toNatClampNeg → cc124 i = own_C3 k0 k1 k2 (xs109.getD i 0) := fun i _ hi => by rw [hc124 i hi, if_pos (show (0 : Int32).toNatClampNeg ≤ i from Nat.zero_le i), hc121 i hi, if_pos (show (0 : Int32).toNatClampNeg ≤ i from Nat.zero_le i), hc116 i hi, if_pos (show (0 : Int32).toNatClampNeg ≤ i from Nat.zero_le i)]; rfl
    have ok130 : Ok3 k0 k1 k2 w0 ((DS (own_v3 k0 k1 k2) 8).getD (0 : Int32).toNatClampNeg 8) f1 := (Ok3.start hf0 hf1 hf2 hf3 hf4 hf5).skip (Nat.zero_le _) (fun d _ q => DS_first.2 d q)
    have O133 : Old Z n0 h128 := (O124.ext E128)
    obtain ⟨h130, A130, B130, f130, u10_130, u11_130, u12_130, u13_130, u14_130, u15_130, u16_130, G130, La130, okk130⟩ := psL3 hx hZ hw hby hml hown (.val (.ref a1)) (.val (.long (own_v3 k0 k1 k2))) (.second) b107 b112 (b112 + 1) P109 xs109 k0 k1 k2 w0 rfl lt4 gb112 hP109.2 hg109 (P109).toNatClampNeg h128 a1 b128 (0 : Int32) f1 _ _ (.val (.int P109)) (.unset) (.unset) (.unset) (.unset) (.unset) (.unset) (by show (0 : Int) + ((P109.toInt.toNat : Nat) : Int) = P109.toInt; omega) (by decide) (Or.inl ⟨_, rfl, rfl, rfl, rfl, rfl, rfl, rfl⟩) f131 Gx130 f132 Lb130 ne128_a1 (Or.inl lt1) (Or.inr (by rw [g128]; exact sz130)) (Ne.symm ne107_a1) ne128_b107 g1 gb128 hcc130 ok130 ⟨_, _, X128, e128, N124, O133, pre129⟩
    obtain ⟨T130, L130, X130, e130, N130, O130, pre130⟩ := G130
    obtain ⟨fs, hr, hrun, hended, hW, hsame⟩ := X130.leave (v := some (.ref A130)) (fun h => by rw [Bd.returns] at h; cases h)
    refine ⟨_, _, pre130 _ ?_, hrun, hended, _, _, rfl, ?_, ⟨_, rfl⟩, hW, hsame.mono (by decide) (by decide)⟩
    · skip
      show Steps p.tables e below (T130.setTop (mkF m 182 #[.val (.ref a1), .val (.int (3 : Int32)), .val (.long (own_v3 k0 k1 k2)), .second, .val (.ref b107), .val (.int P109), .val (.ref b112), .val (.ref A130), .val (.ref B130), .val (.int P109), u10_130, u11_130, u12_130, u13_130, u14_130, u15_130, u16_130] [])) _
      refine XS.iload X130.here hx rfl (hb hby dc0_182) rfl ?_
      refine XS.iload X130.here hx rfl (hb hby dc0_184) rfl ?_
      show Steps p.tables e below (T130.setTop (mkF m 186 #[.val (.ref a1), .val (.int (3 : Int32)), .val (.long (own_v3 k0 k1 k2)), .second, .val (.ref b107), .val (.int P109), .val (.ref b112), .val (.ref A130), .val (.ref B130), .val (.int P109), u10_130, u11_130, u12_130, u13_130, u14_130, u15_130, u16_130] [(.int P109), (.int P109)])) _
      refine XS.icmpYes X130.here hx rfl (pc0 := 186) (pc' := 335) rfl (hb hby dc0_186) rfl (flt (own_irr _)).2.1 (by decide) (by decide) ?_
      refine XS.aload X130.here hx rfl (hb hby dc0_335) rfl rfl ?_
      show Steps p.tables e below (T130.setTop (mkF m 337 #[.val (.ref a1), .val (.int (3 : Int32)), .val (.long (own_v3 k0 k1 k2)), .second, .val (.ref b107), .val (.int P109), .val (.ref b112), .val (.ref A130), .val (.ref B130), .val (.int P109), u10_130, u11_130, u12_130, u13_130, u14_130, u15_130, u16_130] [(.ref A130)])) _
      exact retOut X130 hx (t := (.array .long)) Bd.returns rfl (Or.inr (Or.inr (Or.inr (Or.inr ⟨rfl, rfl, rfl⟩)))) (hb hby dc0_337) hr
    · show Q_s Z (Ok3 k0 k1 k2 w0 8) n0 _ T130.heap _
      rw [e130]
      exact ⟨_, f130, rfl, N130, O130, La130, okk130⟩
def Q_mm (z : Int64) (h0 : Heap) (n0 : Nat) (v : Option Value) (h : Heap) (L : List Loc) : Prop := v = some (.long z) ∧ Fr n0 L ∧ h = h0
theorem ef_1 (m : MethodId) (x0 : Int64) (x1 : Int64) : entryFrame m #[(.long x0), (.long x1)] 4 = mkF m 0 #[.val (.long x0), .second, .val (.long x1), .second] [] := by first | (simp [entryFrame, mkF, argsToLocals, Value.category]; done) | rfl
theorem dc1_0 : decode jdk_29_method_70_code 0 = .ok (.lload_n 0, 1) := by decide +kernel
theorem dc1_1 : decode jdk_29_method_70_code 1 = .ok (.lload_n 2, 1) := by decide +kernel
theorem dc1_2 : decode jdk_29_method_70_code 2 = .ok (.lcmp, 1) := by decide +kernel
theorem dc1_3 : decode jdk_29_method_70_code 3 = .ok (.ifCond .gt 7, 3) := by decide +kernel
theorem dc1_10 : decode jdk_29_method_70_code 10 = .ok (.lload_n 2, 1) := by decide +kernel
theorem dc1_11 : decode jdk_29_method_70_code 11 = .ok (.lreturn, 1) := by decide +kernel
theorem dc1_6 : decode jdk_29_method_70_code 6 = .ok (.lload_n 0, 1) := by decide +kernel
theorem dc1_7 : decode jdk_29_method_70_code 7 = .ok (.goto 4, 3) := by decide +kernel
set_option maxRecDepth 65536 in
set_option maxHeartbeats 40000000 in
theorem rmMn (l : Launch) (Z : State) (a0 : Array Value) (hw : ∀ d ∈ tables_1, d.before a0 Z = true) (ws : List Jvm.Cond) (x1 x2 : Int64) (h0 : Heap) (n0 : Nat) (O0 : Old Z n0 h0) :
    MetFree l (⟨"java/lang/Math", "min", "(JJ)J"⟩ : MethodName) (head1 (Jvm.Cond.code (⟨"java/lang/Math", "min", "(JJ)J"⟩ : MethodName) jdk_29_method_70_code 4 (some .long) :: ws) ({ frames := 0, cells := 0, slots := 0, locals := 0 } : Room)) (fun a U => a = #[(.long x1), (.long x2)] ∧ Z.Warmed39 U.vm ∧ U.heap = h0) (fun _ _ _ _ _ => True) (fun _ U o U' => ∃ v L, o = .returned v ∧ Q_mm (own_mn x1 x2) h0 n0 v U'.heap L ∧ FrameEnd U o U' L ({ frames := 0, cells := 0, slots := 0, locals := 0 } : Room).cells ({ frames := 0, cells := 0, slots := 0, locals := 0 } : Room).slots) := by
  refine MetFree.of_bodySF (Jvm.Free.JP.mathPlain rfl (by decide +kernel)) hisR ?_
  intro p e s m args below meth c s₁ Bd hml0 hP hK
  obtain ⟨rfl, hZ, hh⟩ := hP
  have hx := Bd.exec
  have hby := Bd.bytes
  have hml : c.maxLocals = 4 := hml0
  have hown : s.vm.findClass "java/lang/Math" = some m.cls := findClass_of_methodNamed Bd.named
  have hnm := (name_of_methodNamed Bd.named Bd.method).1
  have X0 : Stand p l e ({ frames := 0, cells := 0, slots := 0, locals := 0 } : Room) s m #[(.long x1), (.long x2)] below meth c s₁ [] 0 0 := Stand.of_body Bd
  have e0 : s₁.heap = h0 := by rw [← hh, Bd.state]; rfl
  have N0 := Fr.nil n0
  have pre0 : ∀ t, Steps p.tables e below (s₁.setTop (mkF m 0 #[.val (.long x1), .second, .val (.long x2), .second] [])) t → Steps p.tables e below (s₁.setTop (entryFrame m #[(.long x1), (.long x2)] 4)) t := fun t k => castTop (ef_1 m x1 x2) k
  have pre101 : ∀ t, Steps p.tables e below (s₁.setTop (mkF m 3 #[.val (.long x1), .second, .val (.long x2), .second] [(.int (lcmpW x1 x2))])) t → Steps p.tables e below (s₁.setTop (entryFrame m #[(.long x1), (.long x2)] 4)) t := fun t kt => pre0 t (by
      show Steps p.tables e below (s₁.setTop (mkF m 0 #[.val (.long x1), .second, .val (.long x2), .second] [])) _
      refine XS.lloadN X0.here hx rfl (hb hby dc1_0) rfl ?_
      refine XS.lloadN X0.here hx rfl (hb hby dc1_1) rfl ?_
      refine XS.lcmp X0.here hx rfl (hb hby dc1_2) rfl ?_
      exact kt)
  by_cases hc102 : x2 < x1
  · skip
    obtain ⟨fs, hr, hrun, hended, hW, hsame⟩ := X0.leave (v := some (.long x2)) (fun h => by rw [Bd.returns] at h; cases h)
    refine ⟨_, _, pre101 _ ?_, hrun, hended, _, _, rfl, ?_, ⟨_, rfl⟩, hW, hsame.mono (by decide) (by decide)⟩
    · skip
      show Steps p.tables e below (s₁.setTop (mkF m 3 #[.val (.long x1), .second, .val (.long x2), .second] [(.int (lcmpW x1 x2))])) _
      refine XS.ifYes X0.here hx rfl (pc0 := 3) (pc' := 10) rfl (hb hby dc1_3) rfl ((if0 _ _).trans (tlt ((lw_gt _ _).mpr hc102)).2.2.1) (by decide) (by decide) ?_
      refine XS.lloadN X0.here hx rfl (hb hby dc1_10) rfl ?_
      show Steps p.tables e below (s₁.setTop (mkF m 11 #[.val (.long x1), .second, .val (.long x2), .second] [(.long x2)])) _
      exact retOut X0 hx (t := .long) Bd.returns rfl (Or.inr (Or.inl ⟨rfl, rfl, _, rfl⟩)) (hb hby dc1_11) hr
    · show Q_mm (own_mn x1 x2) h0 n0 _ s₁.heap _
      rw [e0]
      exact ⟨by rw [own_mn, if_pos hc102], N0, rfl⟩
  · skip
    obtain ⟨fs, hr, hrun, hended, hW, hsame⟩ := X0.leave (v := some (.long x1)) (fun h => by rw [Bd.returns] at h; cases h)
    refine ⟨_, _, pre101 _ ?_, hrun, hended, _, _, rfl, ?_, ⟨_, rfl⟩, hW, hsame.mono (by decide) (by decide)⟩
    · skip
      show Steps p.tables e below (s₁.setTop (mkF m 3 #[.val (.long x1), .second, .val (.long x2), .second] [(.int (lcmpW x1 x2))])) _
      refine XS.ifNo X0.here hx rfl (hb hby dc1_3) rfl ((if0 _ _).trans (flt (mt (lw_gt _ _).mp hc102)).2.2.1) ?_
      show Steps p.tables e below (s₁.setTop (mkF m 6 #[.val (.long x1), .second, .val (.long x2), .second] [])) _
      refine XS.lloadN X0.here hx rfl (hb hby dc1_6) rfl ?_
      refine XS.goto X0.here hx rfl (pc0 := 7) (pc' := 11) rfl (hb hby dc1_7) (by decide) (by decide) ?_
      show Steps p.tables e below (s₁.setTop (mkF m 11 #[.val (.long x1), .second, .val (.long x2), .second] [(.long x1)])) _
      exact retOut X0 hx (t := .long) Bd.returns rfl (Or.inr (Or.inl ⟨rfl, rfl, _, rfl⟩)) (hb hby dc1_11) hr
    · show Q_mm (own_mn x1 x2) h0 n0 _ s₁.heap _
      rw [e0]
      exact ⟨by rw [own_mn, if_neg hc102], N0, rfl⟩
theorem dc2_0 : decode jdk_29_method_66_code 0 = .ok (.lload_n 0, 1) := by decide +kernel
theorem dc2_1 : decode jdk_29_method_66_code 1 = .ok (.lload_n 2, 1) := by decide +kernel
theorem dc2_2 : decode jdk_29_method_66_code 2 = .ok (.lcmp, 1) := by decide +kernel
theorem dc2_3 : decode jdk_29_method_66_code 3 = .ok (.ifCond .lt 7, 3) := by decide +kernel
theorem dc2_10 : decode jdk_29_method_66_code 10 = .ok (.lload_n 2, 1) := by decide +kernel
theorem dc2_11 : decode jdk_29_method_66_code 11 = .ok (.lreturn, 1) := by decide +kernel
theorem dc2_6 : decode jdk_29_method_66_code 6 = .ok (.lload_n 0, 1) := by decide +kernel
theorem dc2_7 : decode jdk_29_method_66_code 7 = .ok (.goto 4, 3) := by decide +kernel
set_option maxRecDepth 65536 in
set_option maxHeartbeats 40000000 in
theorem rmMx (l : Launch) (Z : State) (a0 : Array Value) (hw : ∀ d ∈ tables_1, d.before a0 Z = true) (ws : List Jvm.Cond) (x1 x2 : Int64) (h0 : Heap) (n0 : Nat) (O0 : Old Z n0 h0) :
    MetFree l (⟨"java/lang/Math", "max", "(JJ)J"⟩ : MethodName) (head1 (Jvm.Cond.code (⟨"java/lang/Math", "max", "(JJ)J"⟩ : MethodName) jdk_29_method_66_code 4 (some .long) :: ws) ({ frames := 0, cells := 0, slots := 0, locals := 0 } : Room)) (fun a U => a = #[(.long x1), (.long x2)] ∧ Z.Warmed39 U.vm ∧ U.heap = h0) (fun _ _ _ _ _ => True) (fun _ U o U' => ∃ v L, o = .returned v ∧ Q_mm (own_mx x1 x2) h0 n0 v U'.heap L ∧ FrameEnd U o U' L ({ frames := 0, cells := 0, slots := 0, locals := 0 } : Room).cells ({ frames := 0, cells := 0, slots := 0, locals := 0 } : Room).slots) := by
  refine MetFree.of_bodySF (Jvm.Free.JP.mathPlain rfl (by decide +kernel)) hisR ?_
  intro p e s m args below meth c s₁ Bd hml0 hP hK
  obtain ⟨rfl, hZ, hh⟩ := hP
  have hx := Bd.exec
  have hby := Bd.bytes
  have hml : c.maxLocals = 4 := hml0
  have hown : s.vm.findClass "java/lang/Math" = some m.cls := findClass_of_methodNamed Bd.named
  have hnm := (name_of_methodNamed Bd.named Bd.method).1
  have X0 : Stand p l e ({ frames := 0, cells := 0, slots := 0, locals := 0 } : Room) s m #[(.long x1), (.long x2)] below meth c s₁ [] 0 0 := Stand.of_body Bd
  have e0 : s₁.heap = h0 := by rw [← hh, Bd.state]; rfl
  have N0 := Fr.nil n0
  have pre0 : ∀ t, Steps p.tables e below (s₁.setTop (mkF m 0 #[.val (.long x1), .second, .val (.long x2), .second] [])) t → Steps p.tables e below (s₁.setTop (entryFrame m #[(.long x1), (.long x2)] 4)) t := fun t k => castTop (ef_1 m x1 x2) k
  have pre101 : ∀ t, Steps p.tables e below (s₁.setTop (mkF m 3 #[.val (.long x1), .second, .val (.long x2), .second] [(.int (lcmpW x1 x2))])) t → Steps p.tables e below (s₁.setTop (entryFrame m #[(.long x1), (.long x2)] 4)) t := fun t kt => pre0 t (by
      show Steps p.tables e below (s₁.setTop (mkF m 0 #[.val (.long x1), .second, .val (.long x2), .second] [])) _
      refine XS.lloadN X0.here hx rfl (hb hby dc2_0) rfl ?_
      refine XS.lloadN X0.here hx rfl (hb hby dc2_1) rfl ?_
      refine XS.lcmp X0.here hx rfl (hb hby dc2_2) rfl ?_
      exact kt)
  by_cases hc102 : x1 < x2
  · skip
    obtain ⟨fs, hr, hrun, hended, hW, hsame⟩ := X0.leave (v := some (.long x2)) (fun h => by rw [Bd.returns] at h; cases h)
    refine ⟨_, _, pre101 _ ?_, hrun, hended, _, _, rfl, ?_, ⟨_, rfl⟩, hW, hsame.mono (by decide) (by decide)⟩
    · skip
      show Steps p.tables e below (s₁.setTop (mkF m 3 #[.val (.long x1), .second, .val (.long x2), .second] [(.int (lcmpW x1 x2))])) _
      refine XS.ifYes X0.here hx rfl (pc0 := 3) (pc' := 10) rfl (hb hby dc2_3) rfl ((if0 _ _).trans (tlt ((lw_lt _ _).mpr hc102)).1) (by decide) (by decide) ?_
      refine XS.lloadN X0.here hx rfl (hb hby dc2_10) rfl ?_
      show Steps p.tables e below (s₁.setTop (mkF m 11 #[.val (.long x1), .second, .val (.long x2), .second] [(.long x2)])) _
      exact retOut X0 hx (t := .long) Bd.returns rfl (Or.inr (Or.inl ⟨rfl, rfl, _, rfl⟩)) (hb hby dc2_11) hr
    · show Q_mm (own_mx x1 x2) h0 n0 _ s₁.heap _
      rw [e0]
      exact ⟨by rw [own_mx, if_pos hc102], N0, rfl⟩
  · skip
    obtain ⟨fs, hr, hrun, hended, hW, hsame⟩ := X0.leave (v := some (.long x1)) (fun h => by rw [Bd.returns] at h; cases h)
    refine ⟨_, _, pre101 _ ?_, hrun, hended, _, _, rfl, ?_, ⟨_, rfl⟩, hW, hsame.mono (by decide) (by decide)⟩
    · skip
      show Steps p.tables e below (s₁.setTop (mkF m 3 #[.val (.long x1), .second, .val (.long x2), .second] [(.int (lcmpW x1 x2))])) _
      refine XS.ifNo X0.here hx rfl (hb hby dc2_3) rfl ((if0 _ _).trans (flt (mt (lw_lt _ _).mp hc102)).1) ?_
      show Steps p.tables e below (s₁.setTop (mkF m 6 #[.val (.long x1), .second, .val (.long x2), .second] [])) _
      refine XS.lloadN X0.here hx rfl (hb hby dc2_6) rfl ?_
      refine XS.goto X0.here hx rfl (pc0 := 7) (pc' := 11) rfl (hb hby dc2_7) (by decide) (by decide) ?_
      show Steps p.tables e below (s₁.setTop (mkF m 11 #[.val (.long x1), .second, .val (.long x2), .second] [(.long x1)])) _
      exact retOut X0 hx (t := .long) Bd.returns rfl (Or.inr (Or.inl ⟨rfl, rfl, _, rfl⟩)) (hb hby dc2_11) hr
    · show Q_mm (own_mx x1 x2) h0 n0 _ s₁.heap _
      rw [e0]
      exact ⟨by rw [own_mx, if_neg hc102], N0, rfl⟩
def Q_pk (h0 : Heap) (n0 : Nat) (v : Option Value) (h : Heap) (L : List Loc) : Prop := v = some (.int (1 : Int32)) ∧ Fr n0 L ∧ h = h0
theorem pn_1 : plainName "com/example/keyfold/keyfold/SortedRowsSortPinLaw" = true := by first | (simp [plainName, overriddenIn]; done) | decide +kernel
theorem ef_2 (m : MethodId) (x0 : Addr) (x1 : Int32) (x2 : Int64) (x3 : Int64) : entryFrame m #[(.ref x0), (.int x1), (.long x2), (.long x3)] 6 = mkF m 0 #[.val (.ref x0), .val (.int x1), .val (.long x2), .second, .val (.long x3), .second] [] := by first | (simp [entryFrame, mkF, argsToLocals, Value.category]; done) | rfl
theorem dc3_0 : decode method_3_code 0 = .ok (.aload_n 0, 1) := by decide +kernel
theorem dc3_1 : decode method_3_code 1 = .ok (.iconst 2, 1) := by decide +kernel
theorem dc3_2 : decode method_3_code 2 = .ok (.iload_n 1, 1) := by decide +kernel
theorem dc3_3 : decode method_3_code 3 = .ok (.imul, 1) := by decide +kernel
theorem dc3_4 : decode method_3_code 4 = .ok (.laload, 1) := by decide +kernel
theorem dc3_5 : decode method_3_code 5 = .ok (.lload_n 2, 1) := by decide +kernel
theorem dc3_6 : decode method_3_code 6 = .ok (.lcmp, 1) := by decide +kernel
theorem dc3_7 : decode method_3_code 7 = .ok (.ifCond .ne 22, 3) := by decide +kernel
theorem dc3_10 : decode method_3_code 10 = .ok (.aload_n 0, 1) := by decide +kernel
theorem dc3_11 : decode method_3_code 11 = .ok (.iconst 2, 1) := by decide +kernel
theorem dc3_12 : decode method_3_code 12 = .ok (.iload_n 1, 1) := by decide +kernel
theorem dc3_13 : decode method_3_code 13 = .ok (.imul, 1) := by decide +kernel
theorem dc3_14 : decode method_3_code 14 = .ok (.iconst 1, 1) := by decide +kernel
theorem dc3_15 : decode method_3_code 15 = .ok (.iadd, 1) := by decide +kernel
theorem dc3_16 : decode method_3_code 16 = .ok (.laload, 1) := by decide +kernel
theorem dc3_17 : decode method_3_code 17 = .ok (.lload_n 2, 1) := by decide +kernel
theorem dc3_18 : decode method_3_code 18 = .ok (.lload 4, 2) := by decide +kernel
theorem dc3_20 : decode method_3_code 20 = .ok (.lxor, 1) := by decide +kernel
theorem dc3_21 : decode method_3_code 21 = .ok (.lcmp, 1) := by decide +kernel
theorem dc3_22 : decode method_3_code 22 = .ok (.ifCond .ne 7, 3) := by decide +kernel
theorem dc3_25 : decode method_3_code 25 = .ok (.iconst 1, 1) := by decide +kernel
theorem dc3_26 : decode method_3_code 26 = .ok (.goto 4, 3) := by decide +kernel
theorem dc3_30 : decode method_3_code 30 = .ok (.ireturn, 1) := by decide +kernel
set_option maxRecDepth 65536 in
set_option maxHeartbeats 40000000 in
theorem rmPk0 (l : Launch) (Z : State) (a0 : Array Value) (hw : ∀ d ∈ tables_1, d.before a0 Z = true) (ws : List Jvm.Cond) (a1 : Addr) (f1 : Int32 → Int64) (x1 x2 : Int64) (h0 : Heap) (n0 : Nat) (O0 : Old Z n0 h0) (LP : Lv Z h0 a1 6 f1) (hk : f1 (0 : Int32) = x1) (hv : f1 (1 : Int32) = x1 ^^^ x2) :
    MetFree l (⟨"com/example/keyfold/keyfold/SortedRowsSortPinLaw", "pairOk", "([JIJJ)Z"⟩ : MethodName) (head1 (Jvm.Cond.code (⟨"com/example/keyfold/keyfold/SortedRowsSortPinLaw", "pairOk", "([JIJJ)Z"⟩ : MethodName) method_3_code 6 (some .boolean) :: ws) ({ frames := 0, cells := 0, slots := 0, locals := 0 } : Room)) (fun a U => a = #[(.ref a1), (.int (0 : Int32)), (.long x1), (.long x2)] ∧ Z.Warmed39 U.vm ∧ U.heap = h0) (fun _ _ _ _ _ => True) (fun _ U o U' => ∃ v L, o = .returned v ∧ Q_pk h0 n0 v U'.heap L ∧ FrameEnd U o U' L ({ frames := 0, cells := 0, slots := 0, locals := 0 } : Room).cells ({ frames := 0, cells := 0, slots := 0, locals := 0 } : Room).slots) := by
  refine MetFree.of_bodySF (plainFor_of_name pn_1) hisR ?_
  intro p e s m args below meth c s₁ Bd hml0 hP hK
  obtain ⟨rfl, hZ, hh⟩ := hP
  have hx := Bd.exec
  have hby := Bd.bytes
  have hml : c.maxLocals = 6 := hml0
  have hown : s.vm.findClass "com/example/keyfold/keyfold/SortedRowsSortPinLaw" = some m.cls := findClass_of_methodNamed Bd.named
  have hnm := (name_of_methodNamed Bd.named Bd.method).1
  have X0 : Stand p l e ({ frames := 0, cells := 0, slots := 0, locals := 0 } : Room) s m #[(.ref a1), (.int (0 : Int32)), (.long x1), (.long x2)] below meth c s₁ [] 0 0 := Stand.of_body Bd
  have e0 : s₁.heap = h0 := by rw [← hh, Bd.state]; rfl
  have N0 := Fr.nil n0
  have pre0 : ∀ t, Steps p.tables e below (s₁.setTop (mkF m 0 #[.val (.ref a1), .val (.int (0 : Int32)), .val (.long x1), .second, .val (.long x2), .second] [])) t → Steps p.tables e below (s₁.setTop (entryFrame m #[(.ref a1), (.int (0 : Int32)), (.long x1), (.long x2)] 6)) t := fun t k => castTop (ef_2 m a1 (0 : Int32) x1 x2) k
  obtain ⟨cl101, Ar101, S101, H101⟩ := id LP
  have hin101 : ¬ ((0 : Int32) < 0 ∨ cl101.slots.size ≤ ((0 : Int32)).toNatClampNeg) := by rw [S101]; exact (by decide)
  have hat101 : cl101.slots[((0 : Int32)).toNatClampNeg]? = some (.long (f1 (0 : Int32))) := H101 _ hin101
  obtain ⟨cl102, Ar102, S102, H102⟩ := id LP
  have hin102 : ¬ ((1 : Int32) < 0 ∨ cl102.slots.size ≤ ((1 : Int32)).toNatClampNeg) := by rw [S102]; exact (by decide)
  have hat102 : cl102.slots[((1 : Int32)).toNatClampNeg]? = some (.long (f1 (1 : Int32))) := H102 _ hin102
  obtain ⟨fs, hr, hrun, hended, hW, hsame⟩ := X0.leave (v := some (.int (1 : Int32))) (fun h => by rw [Bd.returns] at h; cases h)
  refine ⟨_, _, pre0 _ ?_, hrun, hended, _, _, rfl, ?_, ⟨_, rfl⟩, hW, hsame.mono (by decide) (by decide)⟩
  · skip
    show Steps p.tables e below (s₁.setTop (mkF m 0 #[.val (.ref a1), .val (.int (0 : Int32)), .val (.long x1), .second, .val (.long x2), .second] [])) _
    refine XS.aloadN X0.here hx rfl (hb hby dc3_0) rfl rfl ?_
    show Steps p.tables e below (s₁.setTop (mkF m 1 #[.val (.ref a1), .val (.int (0 : Int32)), .val (.long x1), .second, .val (.long x2), .second] [(.ref a1)])) _
    refine XS.iconst X0.here hx rfl (hb hby dc3_1) ?_
    refine XS.iloadN X0.here hx rfl (hb hby dc3_2) rfl ?_
    refine XS.imul X0.here hx rfl (hb hby dc3_3) rfl ?_
    refine X0.laload hx (j := (0 : Int32)) (v := (.long (f1 (0 : Int32)))) (by rw [e0]; exact Ar101.1) (State.isArrayOf_alike hZ.alike Ar101.2.1) Ar101.2.2 hin101 hat101 (g := (mkF m 4 #[.val (.ref a1), .val (.int (0 : Int32)), .val (.long x1), .second, .val (.long x2), .second] [(.int (0 : Int32)), (.ref a1)])) rfl rfl (hb hby dc3_4) _ ?_
    refine XS.lloadN X0.here hx rfl (hb hby dc3_5) rfl ?_
    show Steps p.tables e below (s₁.setTop (mkF m 6 #[.val (.ref a1), .val (.int (0 : Int32)), .val (.long x1), .second, .val (.long x2), .second] [(.long x1), (.long (f1 (0 : Int32)))])) _
    refine XS.lcmp X0.here hx rfl (hb hby dc3_6) rfl ?_
    show Steps p.tables e below (s₁.setTop (mkF m 7 #[.val (.ref a1), .val (.int (0 : Int32)), .val (.long x1), .second, .val (.long x2), .second] [(.int (lcmpW (f1 (0 : Int32)) x1))])) _
    refine XS.ifNo X0.here hx rfl (hb hby dc3_7) rfl ((if0 _ _).trans (teq ((lw_eq _ _).mpr hk)).2) ?_
    refine XS.aloadN X0.here hx rfl (hb hby dc3_10) rfl rfl ?_
    refine XS.iconst X0.here hx rfl (hb hby dc3_11) ?_
    refine XS.iloadN X0.here hx rfl (hb hby dc3_12) rfl ?_
    show Steps p.tables e below (s₁.setTop (mkF m 13 #[.val (.ref a1), .val (.int (0 : Int32)), .val (.long x1), .second, .val (.long x2), .second] [(.int (0 : Int32)), (.int (2 : Int32)), (.ref a1)])) _
    refine XS.imul X0.here hx rfl (hb hby dc3_13) rfl ?_
    refine XS.iconst X0.here hx rfl (hb hby dc3_14) ?_
    refine XS.iadd X0.here hx rfl (hb hby dc3_15) rfl ?_
    refine X0.laload hx (j := (1 : Int32)) (v := (.long (f1 (1 : Int32)))) (by rw [e0]; exact Ar102.1) (State.isArrayOf_alike hZ.alike Ar102.2.1) Ar102.2.2 hin102 hat102 (g := (mkF m 16 #[.val (.ref a1), .val (.int (0 : Int32)), .val (.long x1), .second, .val (.long x2), .second] [(.int (1 : Int32)), (.ref a1)])) rfl rfl (hb hby dc3_16) _ ?_
    refine XS.lloadN X0.here hx rfl (hb hby dc3_17) rfl ?_
    show Steps p.tables e below (s₁.setTop (mkF m 18 #[.val (.ref a1), .val (.int (0 : Int32)), .val (.long x1), .second, .val (.long x2), .second] [(.long x1), (.long (f1 (1 : Int32)))])) _
    refine XS.lload X0.here hx rfl (hb hby dc3_18) rfl ?_
    refine XS.lxor X0.here hx rfl (hb hby dc3_20) rfl ?_
    refine XS.lcmp X0.here hx rfl (hb hby dc3_21) rfl ?_
    show Steps p.tables e below (s₁.setTop (mkF m 22 #[.val (.ref a1), .val (.int (0 : Int32)), .val (.long x1), .second, .val (.long x2), .second] [(.int (lcmpW (f1 (1 : Int32)) (x1 ^^^ x2)))])) _
    refine XS.ifNo X0.here hx rfl (hb hby dc3_22) rfl ((if0 _ _).trans (teq ((lw_eq _ _).mpr hv)).2) ?_
    refine XS.iconst X0.here hx rfl (hb hby dc3_25) ?_
    show Steps p.tables e below (s₁.setTop (mkF m 26 #[.val (.ref a1), .val (.int (0 : Int32)), .val (.long x1), .second, .val (.long x2), .second] [(.int (1 : Int32))])) _
    refine XS.goto X0.here hx rfl (pc0 := 26) (pc' := 30) rfl (hb hby dc3_26) (by decide) (by decide) ?_
    show Steps p.tables e below (s₁.setTop (mkF m 30 #[.val (.ref a1), .val (.int (0 : Int32)), .val (.long x1), .second, .val (.long x2), .second] [(.int (1 : Int32))])) _
    exact retN X0 hx (t := .boolean) Bd.returns (by simp) (hb hby dc3_30) hr
  · show Q_pk h0 n0 _ s₁.heap _
    rw [e0]
    exact ⟨rfl, N0, rfl⟩
set_option maxRecDepth 65536 in
set_option maxHeartbeats 40000000 in
theorem rmPk1 (l : Launch) (Z : State) (a0 : Array Value) (hw : ∀ d ∈ tables_1, d.before a0 Z = true) (ws : List Jvm.Cond) (a1 : Addr) (f1 : Int32 → Int64) (x1 x2 : Int64) (h0 : Heap) (n0 : Nat) (O0 : Old Z n0 h0) (LP : Lv Z h0 a1 6 f1) (hk : f1 (2 : Int32) = x1) (hv : f1 (3 : Int32) = x1 ^^^ x2) :
    MetFree l (⟨"com/example/keyfold/keyfold/SortedRowsSortPinLaw", "pairOk", "([JIJJ)Z"⟩ : MethodName) (head1 (Jvm.Cond.code (⟨"com/example/keyfold/keyfold/SortedRowsSortPinLaw", "pairOk", "([JIJJ)Z"⟩ : MethodName) method_3_code 6 (some .boolean) :: ws) ({ frames := 0, cells := 0, slots := 0, locals := 0 } : Room)) (fun a U => a = #[(.ref a1), (.int (1 : Int32)), (.long x1), (.long x2)] ∧ Z.Warmed39 U.vm ∧ U.heap = h0) (fun _ _ _ _ _ => True) (fun _ U o U' => ∃ v L, o = .returned v ∧ Q_pk h0 n0 v U'.heap L ∧ FrameEnd U o U' L ({ frames := 0, cells := 0, slots := 0, locals := 0 } : Room).cells ({ frames := 0, cells := 0, slots := 0, locals := 0 } : Room).slots) := by
  refine MetFree.of_bodySF (plainFor_of_name pn_1) hisR ?_
  intro p e s m args below meth c s₁ Bd hml0 hP hK
  obtain ⟨rfl, hZ, hh⟩ := hP
  have hx := Bd.exec
  have hby := Bd.bytes
  have hml : c.maxLocals = 6 := hml0
  have hown : s.vm.findClass "com/example/keyfold/keyfold/SortedRowsSortPinLaw" = some m.cls := findClass_of_methodNamed Bd.named
  have hnm := (name_of_methodNamed Bd.named Bd.method).1
  have X0 : Stand p l e ({ frames := 0, cells := 0, slots := 0, locals := 0 } : Room) s m #[(.ref a1), (.int (1 : Int32)), (.long x1), (.long x2)] below meth c s₁ [] 0 0 := Stand.of_body Bd
  have e0 : s₁.heap = h0 := by rw [← hh, Bd.state]; rfl
  have N0 := Fr.nil n0
  have pre0 : ∀ t, Steps p.tables e below (s₁.setTop (mkF m 0 #[.val (.ref a1), .val (.int (1 : Int32)), .val (.long x1), .second, .val (.long x2), .second] [])) t → Steps p.tables e below (s₁.setTop (entryFrame m #[(.ref a1), (.int (1 : Int32)), (.long x1), (.long x2)] 6)) t := fun t k => castTop (ef_2 m a1 (1 : Int32) x1 x2) k
  obtain ⟨cl101, Ar101, S101, H101⟩ := id LP
  have hin101 : ¬ ((2 : Int32) < 0 ∨ cl101.slots.size ≤ ((2 : Int32)).toNatClampNeg) := by rw [S101]; exact (by decide)
  have hat101 : cl101.slots[((2 : Int32)).toNatClampNeg]? = some (.long (f1 (2 : Int32))) := H101 _ hin101
  obtain ⟨cl102, Ar102, S102, H102⟩ := id LP
  have hin102 : ¬ ((3 : Int32) < 0 ∨ cl102.slots.size ≤ ((3 : Int32)).toNatClampNeg) := by rw [S102]; exact (by decide)
  have hat102 : cl102.slots[((3 : Int32)).toNatClampNeg]? = some (.long (f1 (3 : Int32))) := H102 _ hin102
  obtain ⟨fs, hr, hrun, hended, hW, hsame⟩ := X0.leave (v := some (.int (1 : Int32))) (fun h => by rw [Bd.returns] at h; cases h)
  refine ⟨_, _, pre0 _ ?_, hrun, hended, _, _, rfl, ?_, ⟨_, rfl⟩, hW, hsame.mono (by decide) (by decide)⟩
  · skip
    show Steps p.tables e below (s₁.setTop (mkF m 0 #[.val (.ref a1), .val (.int (1 : Int32)), .val (.long x1), .second, .val (.long x2), .second] [])) _
    refine XS.aloadN X0.here hx rfl (hb hby dc3_0) rfl rfl ?_
    show Steps p.tables e below (s₁.setTop (mkF m 1 #[.val (.ref a1), .val (.int (1 : Int32)), .val (.long x1), .second, .val (.long x2), .second] [(.ref a1)])) _
    refine XS.iconst X0.here hx rfl (hb hby dc3_1) ?_
    refine XS.iloadN X0.here hx rfl (hb hby dc3_2) rfl ?_
    refine XS.imul X0.here hx rfl (hb hby dc3_3) rfl ?_
    refine X0.laload hx (j := (2 : Int32)) (v := (.long (f1 (2 : Int32)))) (by rw [e0]; exact Ar101.1) (State.isArrayOf_alike hZ.alike Ar101.2.1) Ar101.2.2 hin101 hat101 (g := (mkF m 4 #[.val (.ref a1), .val (.int (1 : Int32)), .val (.long x1), .second, .val (.long x2), .second] [(.int (2 : Int32)), (.ref a1)])) rfl rfl (hb hby dc3_4) _ ?_
    refine XS.lloadN X0.here hx rfl (hb hby dc3_5) rfl ?_
    show Steps p.tables e below (s₁.setTop (mkF m 6 #[.val (.ref a1), .val (.int (1 : Int32)), .val (.long x1), .second, .val (.long x2), .second] [(.long x1), (.long (f1 (2 : Int32)))])) _
    refine XS.lcmp X0.here hx rfl (hb hby dc3_6) rfl ?_
    show Steps p.tables e below (s₁.setTop (mkF m 7 #[.val (.ref a1), .val (.int (1 : Int32)), .val (.long x1), .second, .val (.long x2), .second] [(.int (lcmpW (f1 (2 : Int32)) x1))])) _
    refine XS.ifNo X0.here hx rfl (hb hby dc3_7) rfl ((if0 _ _).trans (teq ((lw_eq _ _).mpr hk)).2) ?_
    refine XS.aloadN X0.here hx rfl (hb hby dc3_10) rfl rfl ?_
    refine XS.iconst X0.here hx rfl (hb hby dc3_11) ?_
    refine XS.iloadN X0.here hx rfl (hb hby dc3_12) rfl ?_
    show Steps p.tables e below (s₁.setTop (mkF m 13 #[.val (.ref a1), .val (.int (1 : Int32)), .val (.long x1), .second, .val (.long x2), .second] [(.int (1 : Int32)), (.int (2 : Int32)), (.ref a1)])) _
    refine XS.imul X0.here hx rfl (hb hby dc3_13) rfl ?_
    refine XS.iconst X0.here hx rfl (hb hby dc3_14) ?_
    refine XS.iadd X0.here hx rfl (hb hby dc3_15) rfl ?_
    refine X0.laload hx (j := (3 : Int32)) (v := (.long (f1 (3 : Int32)))) (by rw [e0]; exact Ar102.1) (State.isArrayOf_alike hZ.alike Ar102.2.1) Ar102.2.2 hin102 hat102 (g := (mkF m 16 #[.val (.ref a1), .val (.int (1 : Int32)), .val (.long x1), .second, .val (.long x2), .second] [(.int (3 : Int32)), (.ref a1)])) rfl rfl (hb hby dc3_16) _ ?_
    refine XS.lloadN X0.here hx rfl (hb hby dc3_17) rfl ?_
    show Steps p.tables e below (s₁.setTop (mkF m 18 #[.val (.ref a1), .val (.int (1 : Int32)), .val (.long x1), .second, .val (.long x2), .second] [(.long x1), (.long (f1 (3 : Int32)))])) _
    refine XS.lload X0.here hx rfl (hb hby dc3_18) rfl ?_
    refine XS.lxor X0.here hx rfl (hb hby dc3_20) rfl ?_
    refine XS.lcmp X0.here hx rfl (hb hby dc3_21) rfl ?_
    show Steps p.tables e below (s₁.setTop (mkF m 22 #[.val (.ref a1), .val (.int (1 : Int32)), .val (.long x1), .second, .val (.long x2), .second] [(.int (lcmpW (f1 (3 : Int32)) (x1 ^^^ x2)))])) _
    refine XS.ifNo X0.here hx rfl (hb hby dc3_22) rfl ((if0 _ _).trans (teq ((lw_eq _ _).mpr hv)).2) ?_
    refine XS.iconst X0.here hx rfl (hb hby dc3_25) ?_
    show Steps p.tables e below (s₁.setTop (mkF m 26 #[.val (.ref a1), .val (.int (1 : Int32)), .val (.long x1), .second, .val (.long x2), .second] [(.int (1 : Int32))])) _
    refine XS.goto X0.here hx rfl (pc0 := 26) (pc' := 30) rfl (hb hby dc3_26) (by decide) (by decide) ?_
    show Steps p.tables e below (s₁.setTop (mkF m 30 #[.val (.ref a1), .val (.int (1 : Int32)), .val (.long x1), .second, .val (.long x2), .second] [(.int (1 : Int32))])) _
    exact retN X0 hx (t := .boolean) Bd.returns (by simp) (hb hby dc3_30) hr
  · show Q_pk h0 n0 _ s₁.heap _
    rw [e0]
    exact ⟨rfl, N0, rfl⟩
set_option maxRecDepth 65536 in
set_option maxHeartbeats 40000000 in
theorem rmPk2 (l : Launch) (Z : State) (a0 : Array Value) (hw : ∀ d ∈ tables_1, d.before a0 Z = true) (ws : List Jvm.Cond) (a1 : Addr) (f1 : Int32 → Int64) (x1 x2 : Int64) (h0 : Heap) (n0 : Nat) (O0 : Old Z n0 h0) (LP : Lv Z h0 a1 6 f1) (hk : f1 (4 : Int32) = x1) (hv : f1 (5 : Int32) = x1 ^^^ x2) :
    MetFree l (⟨"com/example/keyfold/keyfold/SortedRowsSortPinLaw", "pairOk", "([JIJJ)Z"⟩ : MethodName) (head1 (Jvm.Cond.code (⟨"com/example/keyfold/keyfold/SortedRowsSortPinLaw", "pairOk", "([JIJJ)Z"⟩ : MethodName) method_3_code 6 (some .boolean) :: ws) ({ frames := 0, cells := 0, slots := 0, locals := 0 } : Room)) (fun a U => a = #[(.ref a1), (.int (2 : Int32)), (.long x1), (.long x2)] ∧ Z.Warmed39 U.vm ∧ U.heap = h0) (fun _ _ _ _ _ => True) (fun _ U o U' => ∃ v L, o = .returned v ∧ Q_pk h0 n0 v U'.heap L ∧ FrameEnd U o U' L ({ frames := 0, cells := 0, slots := 0, locals := 0 } : Room).cells ({ frames := 0, cells := 0, slots := 0, locals := 0 } : Room).slots) := by
  refine MetFree.of_bodySF (plainFor_of_name pn_1) hisR ?_
  intro p e s m args below meth c s₁ Bd hml0 hP hK
  obtain ⟨rfl, hZ, hh⟩ := hP
  have hx := Bd.exec
  have hby := Bd.bytes
  have hml : c.maxLocals = 6 := hml0
  have hown : s.vm.findClass "com/example/keyfold/keyfold/SortedRowsSortPinLaw" = some m.cls := findClass_of_methodNamed Bd.named
  have hnm := (name_of_methodNamed Bd.named Bd.method).1
  have X0 : Stand p l e ({ frames := 0, cells := 0, slots := 0, locals := 0 } : Room) s m #[(.ref a1), (.int (2 : Int32)), (.long x1), (.long x2)] below meth c s₁ [] 0 0 := Stand.of_body Bd
  have e0 : s₁.heap = h0 := by rw [← hh, Bd.state]; rfl
  have N0 := Fr.nil n0
  have pre0 : ∀ t, Steps p.tables e below (s₁.setTop (mkF m 0 #[.val (.ref a1), .val (.int (2 : Int32)), .val (.long x1), .second, .val (.long x2), .second] [])) t → Steps p.tables e below (s₁.setTop (entryFrame m #[(.ref a1), (.int (2 : Int32)), (.long x1), (.long x2)] 6)) t := fun t k => castTop (ef_2 m a1 (2 : Int32) x1 x2) k
  obtain ⟨cl101, Ar101, S101, H101⟩ := id LP
  have hin101 : ¬ ((4 : Int32) < 0 ∨ cl101.slots.size ≤ ((4 : Int32)).toNatClampNeg) := by rw [S101]; exact (by decide)
  have hat101 : cl101.slots[((4 : Int32)).toNatClampNeg]? = some (.long (f1 (4 : Int32))) := H101 _ hin101
  obtain ⟨cl102, Ar102, S102, H102⟩ := id LP
  have hin102 : ¬ ((5 : Int32) < 0 ∨ cl102.slots.size ≤ ((5 : Int32)).toNatClampNeg) := by rw [S102]; exact (by decide)
  have hat102 : cl102.slots[((5 : Int32)).toNatClampNeg]? = some (.long (f1 (5 : Int32))) := H102 _ hin102
  obtain ⟨fs, hr, hrun, hended, hW, hsame⟩ := X0.leave (v := some (.int (1 : Int32))) (fun h => by rw [Bd.returns] at h; cases h)
  refine ⟨_, _, pre0 _ ?_, hrun, hended, _, _, rfl, ?_, ⟨_, rfl⟩, hW, hsame.mono (by decide) (by decide)⟩
  · skip
    show Steps p.tables e below (s₁.setTop (mkF m 0 #[.val (.ref a1), .val (.int (2 : Int32)), .val (.long x1), .second, .val (.long x2), .second] [])) _
    refine XS.aloadN X0.here hx rfl (hb hby dc3_0) rfl rfl ?_
    show Steps p.tables e below (s₁.setTop (mkF m 1 #[.val (.ref a1), .val (.int (2 : Int32)), .val (.long x1), .second, .val (.long x2), .second] [(.ref a1)])) _
    refine XS.iconst X0.here hx rfl (hb hby dc3_1) ?_
    refine XS.iloadN X0.here hx rfl (hb hby dc3_2) rfl ?_
    refine XS.imul X0.here hx rfl (hb hby dc3_3) rfl ?_
    refine X0.laload hx (j := (4 : Int32)) (v := (.long (f1 (4 : Int32)))) (by rw [e0]; exact Ar101.1) (State.isArrayOf_alike hZ.alike Ar101.2.1) Ar101.2.2 hin101 hat101 (g := (mkF m 4 #[.val (.ref a1), .val (.int (2 : Int32)), .val (.long x1), .second, .val (.long x2), .second] [(.int (4 : Int32)), (.ref a1)])) rfl rfl (hb hby dc3_4) _ ?_
    refine XS.lloadN X0.here hx rfl (hb hby dc3_5) rfl ?_
    show Steps p.tables e below (s₁.setTop (mkF m 6 #[.val (.ref a1), .val (.int (2 : Int32)), .val (.long x1), .second, .val (.long x2), .second] [(.long x1), (.long (f1 (4 : Int32)))])) _
    refine XS.lcmp X0.here hx rfl (hb hby dc3_6) rfl ?_
    show Steps p.tables e below (s₁.setTop (mkF m 7 #[.val (.ref a1), .val (.int (2 : Int32)), .val (.long x1), .second, .val (.long x2), .second] [(.int (lcmpW (f1 (4 : Int32)) x1))])) _
    refine XS.ifNo X0.here hx rfl (hb hby dc3_7) rfl ((if0 _ _).trans (teq ((lw_eq _ _).mpr hk)).2) ?_
    refine XS.aloadN X0.here hx rfl (hb hby dc3_10) rfl rfl ?_
    refine XS.iconst X0.here hx rfl (hb hby dc3_11) ?_
    refine XS.iloadN X0.here hx rfl (hb hby dc3_12) rfl ?_
    show Steps p.tables e below (s₁.setTop (mkF m 13 #[.val (.ref a1), .val (.int (2 : Int32)), .val (.long x1), .second, .val (.long x2), .second] [(.int (2 : Int32)), (.int (2 : Int32)), (.ref a1)])) _
    refine XS.imul X0.here hx rfl (hb hby dc3_13) rfl ?_
    refine XS.iconst X0.here hx rfl (hb hby dc3_14) ?_
    refine XS.iadd X0.here hx rfl (hb hby dc3_15) rfl ?_
    refine X0.laload hx (j := (5 : Int32)) (v := (.long (f1 (5 : Int32)))) (by rw [e0]; exact Ar102.1) (State.isArrayOf_alike hZ.alike Ar102.2.1) Ar102.2.2 hin102 hat102 (g := (mkF m 16 #[.val (.ref a1), .val (.int (2 : Int32)), .val (.long x1), .second, .val (.long x2), .second] [(.int (5 : Int32)), (.ref a1)])) rfl rfl (hb hby dc3_16) _ ?_
    refine XS.lloadN X0.here hx rfl (hb hby dc3_17) rfl ?_
    show Steps p.tables e below (s₁.setTop (mkF m 18 #[.val (.ref a1), .val (.int (2 : Int32)), .val (.long x1), .second, .val (.long x2), .second] [(.long x1), (.long (f1 (5 : Int32)))])) _
    refine XS.lload X0.here hx rfl (hb hby dc3_18) rfl ?_
    refine XS.lxor X0.here hx rfl (hb hby dc3_20) rfl ?_
    refine XS.lcmp X0.here hx rfl (hb hby dc3_21) rfl ?_
    show Steps p.tables e below (s₁.setTop (mkF m 22 #[.val (.ref a1), .val (.int (2 : Int32)), .val (.long x1), .second, .val (.long x2), .second] [(.int (lcmpW (f1 (5 : Int32)) (x1 ^^^ x2)))])) _
    refine XS.ifNo X0.here hx rfl (hb hby dc3_22) rfl ((if0 _ _).trans (teq ((lw_eq _ _).mpr hv)).2) ?_
    refine XS.iconst X0.here hx rfl (hb hby dc3_25) ?_
    show Steps p.tables e below (s₁.setTop (mkF m 26 #[.val (.ref a1), .val (.int (2 : Int32)), .val (.long x1), .second, .val (.long x2), .second] [(.int (1 : Int32))])) _
    refine XS.goto X0.here hx rfl (pc0 := 26) (pc' := 30) rfl (hb hby dc3_26) (by decide) (by decide) ?_
    show Steps p.tables e below (s₁.setTop (mkF m 30 #[.val (.ref a1), .val (.int (2 : Int32)), .val (.long x1), .second, .val (.long x2), .second] [(.int (1 : Int32))])) _
    exact retN X0 hx (t := .boolean) Bd.returns (by simp) (hb hby dc3_30) hr
  · show Q_pk h0 n0 _ s₁.heap _
    rw [e0]
    exact ⟨rfl, N0, rfl⟩
theorem own_k (x : Int32) : (x &&& (3 : Int32)) = (0 : Int32) ∨ (x &&& (3 : Int32)) = (1 : Int32) ∨ (x &&& (3 : Int32)) = (2 : Int32) ∨ (x &&& (3 : Int32)) = (3 : Int32) := by
  have h1 := c_mask x 3 2 (by decide) (by decide)
  simp only [← Int32.toInt_inj]
  have e0 : (0 : Int32).toInt = 0 := rfl
  have e1 : (1 : Int32).toInt = 1 := rfl
  have e2 : (2 : Int32).toInt = 2 := rfl
  have e3 : (3 : Int32).toInt = 3 := rfl
  omega
theorem ef_3 (m : MethodId) (x0 : Int64) (x1 : Int64) (x2 : Int64) (x3 : Int64) (x4 : Int32) : entryFrame m #[(.long x0), (.long x1), (.long x2), (.long x3), (.int x4)] maxLocals = mkF m 0 #[.val (.long x0), .second, .val (.long x1), .second, .val (.long x2), .second, .val (.long x3), .second, .val (.int x4), .unset, .unset, .unset, .unset, .unset, .unset, .unset, .unset, .unset] [] := by first | (simp [entryFrame, mkF, argsToLocals, Value.category, maxLocals]; done) | rfl
theorem pd_0 : parseMethodDescriptor "([JI)[J" = some ⟨[(.array .long), .int], some (.array .long)⟩ := by decide +kernel
theorem pd_1 : parseMethodDescriptor "([JIJJ)Z" = some ⟨[(.array .long), .int, .long, .long], some .boolean⟩ := by decide +kernel
theorem pd_2 : parseMethodDescriptor "(JJ)J" = some ⟨[.long, .long], some .long⟩ := by decide +kernel
set_option maxRecDepth 65536 in
set_option maxHeartbeats 40000000 in
theorem rm0 (l : Launch) (Z : State) (a0 : Array Value) (hw : ∀ d ∈ tables_1, d.before a0 Z = true) (ws : List Jvm.Cond) (i0 i1 i2 i3 : Int64) (i4 : Int32) (h0 : Heap) (n0 : Nat) (O0 : Old Z n0 h0) :
    MetFree l x (head1 (Jvm.Cond.code x code maxLocals ret :: ws) room_1) (fun a U => a = #[(.long i0), (.long i1), (.long i2), (.long i3), (.int i4)] ∧ Z.Warmed39 U.vm ∧ U.heap = h0) (fun _ _ _ _ _ => True) (fun _ U o U' => ∃ v L, o = .returned v ∧ QL n0 v U'.heap L ∧ FrameEnd U o U' L room_1.cells room_1.slots) := by
  refine MetFree.of_bodySF (plainFor_of_name pn_1) hisR ?_
  intro p e s m args below meth c s₁ Bd hml0 hP hK
  obtain ⟨rfl, hZ, hh⟩ := hP
  have hx := Bd.exec
  have hby := Bd.bytes
  have hml : c.maxLocals = 18 := hml0
  have hown : s.vm.findClass "com/example/keyfold/keyfold/SortedRowsSortPinLaw" = some m.cls := findClass_of_methodNamed Bd.named
  have hnm := (name_of_methodNamed Bd.named Bd.method).1
  have X0 : Stand p l e room_1 s m #[(.long i0), (.long i1), (.long i2), (.long i3), (.int i4)] below meth c s₁ [] 0 0 := Stand.of_body Bd
  have e0 : s₁.heap = h0 := by rw [← hh, Bd.state]; rfl
  have N0 := Fr.nil n0
  have pre0 : ∀ t, Steps p.tables e below (s₁.setTop (mkF m 0 #[.val (.long i0), .second, .val (.long i1), .second, .val (.long i2), .second, .val (.long i3), .second, .val (.int i4), .unset, .unset, .unset, .unset, .unset, .unset, .unset, .unset, .unset] [])) t → Steps p.tables e below (s₁.setTop (entryFrame m #[(.long i0), (.long i1), (.long i2), (.long i3), (.int i4)] maxLocals)) t := fun t k => castTop (ef_3 m i0 i1 i2 i3 i4) k
  have pre101 : ∀ t, Steps p.tables e below (s₁.setTop (mkF m 4 #[.val (.long i0), .second, .val (.long i1), .second, .val (.long i2), .second, .val (.long i3), .second, .val (.int i4), .unset, .unset, .unset, .unset, .unset, .unset, .unset, .unset, .unset] [(.int (i4 &&& (3 : Int32)))])) t → Steps p.tables e below (s₁.setTop (entryFrame m #[(.long i0), (.long i1), (.long i2), (.long i3), (.int i4)] maxLocals)) t := fun t kt => pre0 t (by
      show Steps p.tables e below (s₁.setTop (mkF m 0 #[.val (.long i0), .second, .val (.long i1), .second, .val (.long i2), .second, .val (.long i3), .second, .val (.int i4), .unset, .unset, .unset, .unset, .unset, .unset, .unset, .unset, .unset] [])) _
      refine XS.iload X0.here hx rfl (hb hby at_0) rfl ?_
      refine XS.iconst X0.here hx rfl (hb hby at_2) ?_
      refine XS.iand X0.here hx rfl (hb hby at_3) rfl ?_
      exact kt)
  rcases own_k i4 with hk102 | hk102 | hk102 | hk102
  · skip
    obtain ⟨T103, h103, k103, X103, e103, E103, A103, st103⟩ := newP X0 hx hZ (hw _ (List.mem_of_getElem? (i := 0) rfl)) e0 (g := (mkF m 8 #[.val (.long i0), .second, .val (.long i1), .second, .val (.long i2), .second, .val (.long i3), .second, .val (.int i4), .val (.int (0 : Int32)), .unset, .unset, .unset, .unset, .unset, .unset, .unset, .unset] [(.int (6 : Int32))])) rfl (hb hby at_8) rfl (by decide) (cap := 6) (by decide) (by decide) (by decide) (by decide)
    obtain ⟨b103, g103⟩ : ∃ z, z = h0.size := ⟨_, rfl⟩
    rw [← g103] at A103 st103
    have gb103 : n0 ≤ b103 := by rw [g103, ← O0.1]; exact O0.2.1
    have V103 : Arv Z h103 b103 k103 .long (6 : Int32) [(.long (0 : Int64)), (.long (0 : Int64)), (.long (0 : Int64)), (.long (0 : Int64)), (.long (0 : Int64)), (.long (0 : Int64))] (.long (0 : Int64)) := (Arv.new A103 (by decide)).pad (pad_rep [] (.long (0 : Int64)) 6)
    obtain ⟨cl104, Ar104, q104, S104, N104_, H104, G104⟩ := id V103
    have hin104 : ¬ ((0 : Int32) < 0 ∨ cl104.slots.size ≤ ((0 : Int32)).toNatClampNeg) := inb_of S104 ⟨by decide, by decide⟩
    obtain ⟨T105, h105, X105, e105, W105, st105⟩ := stJ X103 hx hZ e103 Ar104 (j := (0 : Int32)) hin104 (g := (mkF m 16 #[.val (.long i0), .second, .val (.long i1), .second, .val (.long i2), .second, .val (.long i3), .second, .val (.int i4), .val (.int (0 : Int32)), .val (.ref b103), .unset, .unset, .unset, .unset, .unset, .unset, .unset] [(.long i0), (.int (0 : Int32)), (.ref b103)])) rfl rfl (hb hby at_16)
    have V105 : Arv Z h105 b103 k103 .long (6 : Int32) [(.long i0), (.long (0 : Int64)), (.long (0 : Int64)), (.long (0 : Int64)), (.long (0 : Int64)), (.long (0 : Int64))] (.long (0 : Int64)) := Arv.set Ar104 q104 S104 N104_ H104 G104 rfl W105 0 rfl (Nat.le_of_ble_eq_true rfl)
    have N105 := Fr.snoc X105 N0 gb103
    obtain ⟨cl106, Ar106, q106, S106, N106_, H106, G106⟩ := id V105
    have hin106 : ¬ ((1 : Int32) < 0 ∨ cl106.slots.size ≤ ((1 : Int32)).toNatClampNeg) := inb_of S106 ⟨by decide, by decide⟩
    obtain ⟨T107, h107, X107, e107, W107, st107⟩ := stJ X105 hx hZ e105 Ar106 (j := (1 : Int32)) hin106 (g := (mkF m 24 #[.val (.long i0), .second, .val (.long i1), .second, .val (.long i2), .second, .val (.long i3), .second, .val (.int i4), .val (.int (0 : Int32)), .val (.ref b103), .unset, .unset, .unset, .unset, .unset, .unset, .unset] [(.long (i0 ^^^ i3)), (.int (1 : Int32)), (.ref b103)])) rfl rfl (hb hby at_24)
    have V107 : Arv Z h107 b103 k103 .long (6 : Int32) [(.long i0), (.long (i0 ^^^ i3)), (.long (0 : Int64)), (.long (0 : Int64)), (.long (0 : Int64)), (.long (0 : Int64))] (.long (0 : Int64)) := Arv.set Ar106 q106 S106 N106_ H106 G106 rfl W107 1 rfl (Nat.le_of_ble_eq_true rfl)
    have N107 := Fr.snoc X107 N105 gb103
    obtain ⟨cl108, Ar108, q108, S108, N108_, H108, G108⟩ := id V107
    have hin108 : ¬ ((2 : Int32) < 0 ∨ cl108.slots.size ≤ ((2 : Int32)).toNatClampNeg) := inb_of S108 ⟨by decide, by decide⟩
    obtain ⟨T109, h109, X109, e109, W109, st109⟩ := stJ X107 hx hZ e107 Ar108 (j := (2 : Int32)) hin108 (g := (mkF m 29 #[.val (.long i0), .second, .val (.long i1), .second, .val (.long i2), .second, .val (.long i3), .second, .val (.int i4), .val (.int (0 : Int32)), .val (.ref b103), .unset, .unset, .unset, .unset, .unset, .unset, .unset] [(.long i1), (.int (2 : Int32)), (.ref b103)])) rfl rfl (hb hby at_29)
    have V109 : Arv Z h109 b103 k103 .long (6 : Int32) [(.long i0), (.long (i0 ^^^ i3)), (.long i1), (.long (0 : Int64)), (.long (0 : Int64)), (.long (0 : Int64))] (.long (0 : Int64)) := Arv.set Ar108 q108 S108 N108_ H108 G108 rfl W109 2 rfl (Nat.le_of_ble_eq_true rfl)
    have N109 := Fr.snoc X109 N107 gb103
    obtain ⟨cl110, Ar110, q110, S110, N110_, H110, G110⟩ := id V109
    have hin110 : ¬ ((3 : Int32) < 0 ∨ cl110.slots.size ≤ ((3 : Int32)).toNatClampNeg) := inb_of S110 ⟨by decide, by decide⟩
    obtain ⟨T111, h111, X111, e111, W111, st111⟩ := stJ X109 hx hZ e109 Ar110 (j := (3 : Int32)) hin110 (g := (mkF m 37 #[.val (.long i0), .second, .val (.long i1), .second, .val (.long i2), .second, .val (.long i3), .second, .val (.int i4), .val (.int (0 : Int32)), .val (.ref b103), .unset, .unset, .unset, .unset, .unset, .unset, .unset] [(.long (i1 ^^^ i3)), (.int (3 : Int32)), (.ref b103)])) rfl rfl (hb hby at_37)
    have V111 : Arv Z h111 b103 k103 .long (6 : Int32) [(.long i0), (.long (i0 ^^^ i3)), (.long i1), (.long (i1 ^^^ i3)), (.long (0 : Int64)), (.long (0 : Int64))] (.long (0 : Int64)) := Arv.set Ar110 q110 S110 N110_ H110 G110 rfl W111 3 rfl (Nat.le_of_ble_eq_true rfl)
    have N111 := Fr.snoc X111 N109 gb103
    obtain ⟨cl112, Ar112, q112, S112, N112_, H112, G112⟩ := id V111
    have hin112 : ¬ ((4 : Int32) < 0 ∨ cl112.slots.size ≤ ((4 : Int32)).toNatClampNeg) := inb_of S112 ⟨by decide, by decide⟩
    obtain ⟨T113, h113, X113, e113, W113, st113⟩ := stJ X111 hx hZ e111 Ar112 (j := (4 : Int32)) hin112 (g := (mkF m 43 #[.val (.long i0), .second, .val (.long i1), .second, .val (.long i2), .second, .val (.long i3), .second, .val (.int i4), .val (.int (0 : Int32)), .val (.ref b103), .unset, .unset, .unset, .unset, .unset, .unset, .unset] [(.long i2), (.int (4 : Int32)), (.ref b103)])) rfl rfl (hb hby at_43)
    have V113 : Arv Z h113 b103 k103 .long (6 : Int32) [(.long i0), (.long (i0 ^^^ i3)), (.long i1), (.long (i1 ^^^ i3)), (.long i2), (.long (0 : Int64))] (.long (0 : Int64)) := Arv.set Ar112 q112 S112 N112_ H112 G112 rfl W113 4 rfl (Nat.le_of_ble_eq_true rfl)
    have N113 := Fr.snoc X113 N111 gb103
    obtain ⟨cl114, Ar114, q114, S114, N114_, H114, G114⟩ := id V113
    have hin114 : ¬ ((5 : Int32) < 0 ∨ cl114.slots.size ≤ ((5 : Int32)).toNatClampNeg) := inb_of S114 ⟨by decide, by decide⟩
    obtain ⟨T115, h115, X115, e115, W115, st115⟩ := stJ X113 hx hZ e113 Ar114 (j := (5 : Int32)) hin114 (g := (mkF m 52 #[.val (.long i0), .second, .val (.long i1), .second, .val (.long i2), .second, .val (.long i3), .second, .val (.int i4), .val (.int (0 : Int32)), .val (.ref b103), .unset, .unset, .unset, .unset, .unset, .unset, .unset] [(.long (i2 ^^^ i3)), (.int (5 : Int32)), (.ref b103)])) rfl rfl (hb hby at_52)
    have V115 : Arv Z h115 b103 k103 .long (6 : Int32) [(.long i0), (.long (i0 ^^^ i3)), (.long i1), (.long (i1 ^^^ i3)), (.long i2), (.long (i2 ^^^ i3))] (.long (0 : Int64)) := Arv.set Ar114 q114 S114 N114_ H114 G114 rfl W115 5 rfl (Nat.le_of_ble_eq_true rfl)
    have N115 := Fr.snoc X115 N113 gb103
    have Lq116 := Lv.of6 V115
    have O117 : Old Z n0 h115 := (((((((O0.ext E103).wr W105 gb103).wr W107 gb103).wr W109 gb103).wr W111 gb103).wr W113 gb103).wr W115 gb103)
    obtain ⟨_, _, ⟨T118, L118, k118, n118⟩, -, X118, ⟨Lc118, hQ118, l118, y118, z118⟩, st118⟩ := Jvm.LawKit.callS X115 hx (y := (⟨"com/example/keyfold/keyfold/SortedRows", "sort", "([JI)[J"⟩ : MethodName)) hown (mvT hZ (hw _ (List.mem_of_getElem? (i := 1) rfl))) (mvT hZ (hw _ (List.mem_of_getElem? (i := 2) rfl))) (mvT hZ (hw _ (List.mem_of_getElem? (i := 3) rfl))) (mvT hZ (hw _ (List.mem_of_getElem? (i := 4) rfl))) (by decide) (backOf (W := 0) (rmS0 l Z a0 hw [] b103 (own_f6 i0 (i0 ^^^ i3) i1 (i1 ^^^ i3) i2 (i2 ^^^ i3)) i0 i1 i2 i3 h115 n0 O117 Lq116 gb103 rfl rfl rfl rfl rfl rfl) hZ (hw _ (List.mem_of_getElem? (i := 4) rfl)) (hw _ (List.mem_of_getElem? (i := 3) rfl)) (by decide) (by decide)) (g := (mkF m 57 #[.val (.long i0), .second, .val (.long i1), .second, .val (.long i2), .second, .val (.long i3), .second, .val (.int i4), .val (.int (0 : Int32)), .val (.ref b103), .unset, .unset, .unset, .unset, .unset, .unset, .unset] [(.int (0 : Int32)), (.ref b103)])) rfl (by rw [hml]; rfl) (argsL := [(.ref b103), (.int (0 : Int32))]) (rest := []) (lenOf pd_0 rfl) rfl (by show 2 * 0 + _ ≤ _; exact Nat.le_of_eq rfl) (hb hby at_57) (fun _ _ => ⟨rfl, e115, (by decide : 1 + 2 ≤ _), (by decide : 6 + 8 ≤ _)⟩)
    dsimp only [Pt.U, Pt.locs, Pt.cells, Pt.slots] at X118 l118 y118 z118 st118 hQ118
    subst l118 y118 z118
    obtain ⟨A118, f118, rfl, N118q, O118, La118, ph118⟩ := hQ118
    have N118 := Fr.app N115 N118q
    obtain ⟨cl119, Ar119, S119, -⟩ := id La118
    obtain ⟨fs, hr, hrun, hended, hW, hsame⟩ := X118.leave (v := some (.int (1 : Int32))) (fun h => by rw [Bd.returns] at h; cases h)
    refine ⟨_, _, pre101 _ ?_, hrun, hended, _, _, rfl, ?_, ⟨_, rfl⟩, hW, hsame.mono (by decide) (by decide)⟩
    · skip
      show Steps p.tables e below (s₁.setTop (mkF m 4 #[.val (.long i0), .second, .val (.long i1), .second, .val (.long i2), .second, .val (.long i3), .second, .val (.int i4), .unset, .unset, .unset, .unset, .unset, .unset, .unset, .unset, .unset] [(.int (i4 &&& (3 : Int32)))])) _
      rw [hk102]
      show Steps p.tables e below (s₁.setTop (mkF m 4 #[.val (.long i0), .second, .val (.long i1), .second, .val (.long i2), .second, .val (.long i3), .second, .val (.int i4), .unset, .unset, .unset, .unset, .unset, .unset, .unset, .unset, .unset] [(.int (0 : Int32))])) _
      refine XS.istore X0.here hx rfl (hb hby at_4) rfl (l' := #[.val (.long i0), .second, .val (.long i1), .second, .val (.long i2), .second, .val (.long i3), .second, .val (.int i4), .val (.int (0 : Int32)), .unset, .unset, .unset, .unset, .unset, .unset, .unset, .unset]) rfl ?_
      refine XS.bipush X0.here hx rfl (hb hby at_6) ?_
      refine st103 _ ?_
      refine XS.astore X103.here hx rfl (hb hby at_10) rfl rfl (l' := #[.val (.long i0), .second, .val (.long i1), .second, .val (.long i2), .second, .val (.long i3), .second, .val (.int i4), .val (.int (0 : Int32)), .val (.ref b103), .unset, .unset, .unset, .unset, .unset, .unset, .unset]) rfl ?_
      refine XS.aload X103.here hx rfl (hb hby at_12) rfl rfl ?_
      show Steps p.tables e below (T103.setTop (mkF m 14 #[.val (.long i0), .second, .val (.long i1), .second, .val (.long i2), .second, .val (.long i3), .second, .val (.int i4), .val (.int (0 : Int32)), .val (.ref b103), .unset, .unset, .unset, .unset, .unset, .unset, .unset] [(.ref b103)])) _
      refine XS.iconst X103.here hx rfl (hb hby at_14) ?_
      refine XS.lloadN X103.here hx rfl (hb hby at_15) rfl ?_
      refine st105 _ ?_
      refine XS.aload X105.here hx rfl (hb hby at_17) rfl rfl ?_
      refine XS.iconst X105.here hx rfl (hb hby at_19) ?_
      show Steps p.tables e below (T105.setTop (mkF m 20 #[.val (.long i0), .second, .val (.long i1), .second, .val (.long i2), .second, .val (.long i3), .second, .val (.int i4), .val (.int (0 : Int32)), .val (.ref b103), .unset, .unset, .unset, .unset, .unset, .unset, .unset] [(.int (1 : Int32)), (.ref b103)])) _
      refine XS.lloadN X105.here hx rfl (hb hby at_20) rfl ?_
      refine XS.lload X105.here hx rfl (hb hby at_21) rfl ?_
      refine XS.lxor X105.here hx rfl (hb hby at_23) rfl ?_
      refine st107 _ ?_
      refine XS.aload X107.here hx rfl (hb hby at_25) rfl rfl ?_
      show Steps p.tables e below (T107.setTop (mkF m 27 #[.val (.long i0), .second, .val (.long i1), .second, .val (.long i2), .second, .val (.long i3), .second, .val (.int i4), .val (.int (0 : Int32)), .val (.ref b103), .unset, .unset, .unset, .unset, .unset, .unset, .unset] [(.ref b103)])) _
      refine XS.iconst X107.here hx rfl (hb hby at_27) ?_
      refine XS.lloadN X107.here hx rfl (hb hby at_28) rfl ?_
      refine st109 _ ?_
      refine XS.aload X109.here hx rfl (hb hby at_30) rfl rfl ?_
      refine XS.iconst X109.here hx rfl (hb hby at_32) ?_
      show Steps p.tables e below (T109.setTop (mkF m 33 #[.val (.long i0), .second, .val (.long i1), .second, .val (.long i2), .second, .val (.long i3), .second, .val (.int i4), .val (.int (0 : Int32)), .val (.ref b103), .unset, .unset, .unset, .unset, .unset, .unset, .unset] [(.int (3 : Int32)), (.ref b103)])) _
      refine XS.lloadN X109.here hx rfl (hb hby at_33) rfl ?_
      refine XS.lload X109.here hx rfl (hb hby at_34) rfl ?_
      refine XS.lxor X109.here hx rfl (hb hby at_36) rfl ?_
      refine st111 _ ?_
      refine XS.aload X111.here hx rfl (hb hby at_38) rfl rfl ?_
      show Steps p.tables e below (T111.setTop (mkF m 40 #[.val (.long i0), .second, .val (.long i1), .second, .val (.long i2), .second, .val (.long i3), .second, .val (.int i4), .val (.int (0 : Int32)), .val (.ref b103), .unset, .unset, .unset, .unset, .unset, .unset, .unset] [(.ref b103)])) _
      refine XS.iconst X111.here hx rfl (hb hby at_40) ?_
      refine XS.lload X111.here hx rfl (hb hby at_41) rfl ?_
      refine st113 _ ?_
      refine XS.aload X113.here hx rfl (hb hby at_44) rfl rfl ?_
      refine XS.iconst X113.here hx rfl (hb hby at_46) ?_
      show Steps p.tables e below (T113.setTop (mkF m 47 #[.val (.long i0), .second, .val (.long i1), .second, .val (.long i2), .second, .val (.long i3), .second, .val (.int i4), .val (.int (0 : Int32)), .val (.ref b103), .unset, .unset, .unset, .unset, .unset, .unset, .unset] [(.int (5 : Int32)), (.ref b103)])) _
      refine XS.lload X113.here hx rfl (hb hby at_47) rfl ?_
      refine XS.lload X113.here hx rfl (hb hby at_49) rfl ?_
      refine XS.lxor X113.here hx rfl (hb hby at_51) rfl ?_
      refine st115 _ ?_
      refine XS.aload X115.here hx rfl (hb hby at_53) rfl rfl ?_
      show Steps p.tables e below (T115.setTop (mkF m 55 #[.val (.long i0), .second, .val (.long i1), .second, .val (.long i2), .second, .val (.long i3), .second, .val (.int i4), .val (.int (0 : Int32)), .val (.ref b103), .unset, .unset, .unset, .unset, .unset, .unset, .unset] [(.ref b103)])) _
      refine XS.iload X115.here hx rfl (hb hby at_55) rfl ?_
      refine st118 _ ?_
      refine XS.astore X118.here hx rfl (hb hby at_60) rfl rfl (l' := #[.val (.long i0), .second, .val (.long i1), .second, .val (.long i2), .second, .val (.long i3), .second, .val (.int i4), .val (.int (0 : Int32)), .val (.ref b103), .val (.ref A118), .unset, .unset, .unset, .unset, .unset, .unset]) rfl ?_
      refine XS.aload X118.here hx rfl (hb hby at_62) rfl rfl ?_
      refine XS.ifnullNo X118.here hx rfl (hb hby at_64) rfl ?_
      show Steps p.tables e below (T118.setTop (mkF m 67 #[.val (.long i0), .second, .val (.long i1), .second, .val (.long i2), .second, .val (.long i3), .second, .val (.int i4), .val (.int (0 : Int32)), .val (.ref b103), .val (.ref A118), .unset, .unset, .unset, .unset, .unset, .unset] [])) _
      refine XS.aload X118.here hx rfl (hb hby at_67) rfl rfl ?_
      refine X118.arraylength hx Ar119.1 (State.isArrayOf_alike hZ.alike Ar119.2.1) (g := (mkF m 69 #[.val (.long i0), .second, .val (.long i1), .second, .val (.long i2), .second, .val (.long i3), .second, .val (.int i4), .val (.int (0 : Int32)), .val (.ref b103), .val (.ref A118), .unset, .unset, .unset, .unset, .unset, .unset] [(.ref A118)])) rfl rfl (hb hby at_69) _ ?_
      rw [show cl119.slots.size.toInt32 = (6 : Int32) from by rw [S119]; rfl]
      refine XS.bipush X118.here hx rfl (hb hby at_70) ?_
      show Steps p.tables e below (T118.setTop (mkF m 72 #[.val (.long i0), .second, .val (.long i1), .second, .val (.long i2), .second, .val (.long i3), .second, .val (.int i4), .val (.int (0 : Int32)), .val (.ref b103), .val (.ref A118), .unset, .unset, .unset, .unset, .unset, .unset] [(.int (6 : Int32)), (.int (6 : Int32))])) _
      refine XS.icmpYes X118.here hx rfl (pc0 := 72) (pc' := 77) rfl (hb hby at_72) rfl (by decide) (by decide) (by decide) ?_
      refine XS.iload X118.here hx rfl (hb hby at_77) rfl ?_
      show Steps p.tables e below (T118.setTop (mkF m 79 #[.val (.long i0), .second, .val (.long i1), .second, .val (.long i2), .second, .val (.long i3), .second, .val (.int i4), .val (.int (0 : Int32)), .val (.ref b103), .val (.ref A118), .unset, .unset, .unset, .unset, .unset, .unset] [(.int (0 : Int32))])) _
      refine XS.ifNo X118.here hx rfl (hb hby at_79) rfl (by decide) ?_
      refine XS.iconst X118.here hx rfl (hb hby at_82) ?_
      show Steps p.tables e below (T118.setTop (mkF m 83 #[.val (.long i0), .second, .val (.long i1), .second, .val (.long i2), .second, .val (.long i3), .second, .val (.int i4), .val (.int (0 : Int32)), .val (.ref b103), .val (.ref A118), .unset, .unset, .unset, .unset, .unset, .unset] [(.int (1 : Int32))])) _
      exact retN X118 hx (t := .boolean) Bd.returns (by simp) (hb hby at_83) hr
    · show QL n0 _ T118.heap _
      exact ⟨rfl, N118⟩
  · skip
    obtain ⟨T120, h120, k120, X120, e120, E120, A120, st120⟩ := newP X0 hx hZ (hw _ (List.mem_of_getElem? (i := 0) rfl)) e0 (g := (mkF m 8 #[.val (.long i0), .second, .val (.long i1), .second, .val (.long i2), .second, .val (.long i3), .second, .val (.int i4), .val (.int (1 : Int32)), .unset, .unset, .unset, .unset, .unset, .unset, .unset, .unset] [(.int (6 : Int32))])) rfl (hb hby at_8) rfl (by decide) (cap := 6) (by decide) (by decide) (by decide) (by decide)
    obtain ⟨b120, g120⟩ : ∃ z, z = h0.size := ⟨_, rfl⟩
    rw [← g120] at A120 st120
    have gb120 : n0 ≤ b120 := by rw [g120, ← O0.1]; exact O0.2.1
    have V120 : Arv Z h120 b120 k120 .long (6 : Int32) [(.long (0 : Int64)), (.long (0 : Int64)), (.long (0 : Int64)), (.long (0 : Int64)), (.long (0 : Int64)), (.long (0 : Int64))] (.long (0 : Int64)) := (Arv.new A120 (by decide)).pad (pad_rep [] (.long (0 : Int64)) 6)
    obtain ⟨cl121, Ar121, q121, S121, N121_, H121, G121⟩ := id V120
    have hin121 : ¬ ((0 : Int32) < 0 ∨ cl121.slots.size ≤ ((0 : Int32)).toNatClampNeg) := inb_of S121 ⟨by decide, by decide⟩
    obtain ⟨T122, h122, X122, e122, W122, st122⟩ := stJ X120 hx hZ e120 Ar121 (j := (0 : Int32)) hin121 (g := (mkF m 16 #[.val (.long i0), .second, .val (.long i1), .second, .val (.long i2), .second, .val (.long i3), .second, .val (.int i4), .val (.int (1 : Int32)), .val (.ref b120), .unset, .unset, .unset, .unset, .unset, .unset, .unset] [(.long i0), (.int (0 : Int32)), (.ref b120)])) rfl rfl (hb hby at_16)
    have V122 : Arv Z h122 b120 k120 .long (6 : Int32) [(.long i0), (.long (0 : Int64)), (.long (0 : Int64)), (.long (0 : Int64)), (.long (0 : Int64)), (.long (0 : Int64))] (.long (0 : Int64)) := Arv.set Ar121 q121 S121 N121_ H121 G121 rfl W122 0 rfl (Nat.le_of_ble_eq_true rfl)
    have N122 := Fr.snoc X122 N0 gb120
    obtain ⟨cl123, Ar123, q123, S123, N123_, H123, G123⟩ := id V122
    have hin123 : ¬ ((1 : Int32) < 0 ∨ cl123.slots.size ≤ ((1 : Int32)).toNatClampNeg) := inb_of S123 ⟨by decide, by decide⟩
    obtain ⟨T124, h124, X124, e124, W124, st124⟩ := stJ X122 hx hZ e122 Ar123 (j := (1 : Int32)) hin123 (g := (mkF m 24 #[.val (.long i0), .second, .val (.long i1), .second, .val (.long i2), .second, .val (.long i3), .second, .val (.int i4), .val (.int (1 : Int32)), .val (.ref b120), .unset, .unset, .unset, .unset, .unset, .unset, .unset] [(.long (i0 ^^^ i3)), (.int (1 : Int32)), (.ref b120)])) rfl rfl (hb hby at_24)
    have V124 : Arv Z h124 b120 k120 .long (6 : Int32) [(.long i0), (.long (i0 ^^^ i3)), (.long (0 : Int64)), (.long (0 : Int64)), (.long (0 : Int64)), (.long (0 : Int64))] (.long (0 : Int64)) := Arv.set Ar123 q123 S123 N123_ H123 G123 rfl W124 1 rfl (Nat.le_of_ble_eq_true rfl)
    have N124 := Fr.snoc X124 N122 gb120
    obtain ⟨cl125, Ar125, q125, S125, N125_, H125, G125⟩ := id V124
    have hin125 : ¬ ((2 : Int32) < 0 ∨ cl125.slots.size ≤ ((2 : Int32)).toNatClampNeg) := inb_of S125 ⟨by decide, by decide⟩
    obtain ⟨T126, h126, X126, e126, W126, st126⟩ := stJ X124 hx hZ e124 Ar125 (j := (2 : Int32)) hin125 (g := (mkF m 29 #[.val (.long i0), .second, .val (.long i1), .second, .val (.long i2), .second, .val (.long i3), .second, .val (.int i4), .val (.int (1 : Int32)), .val (.ref b120), .unset, .unset, .unset, .unset, .unset, .unset, .unset] [(.long i1), (.int (2 : Int32)), (.ref b120)])) rfl rfl (hb hby at_29)
    have V126 : Arv Z h126 b120 k120 .long (6 : Int32) [(.long i0), (.long (i0 ^^^ i3)), (.long i1), (.long (0 : Int64)), (.long (0 : Int64)), (.long (0 : Int64))] (.long (0 : Int64)) := Arv.set Ar125 q125 S125 N125_ H125 G125 rfl W126 2 rfl (Nat.le_of_ble_eq_true rfl)
    have N126 := Fr.snoc X126 N124 gb120
    obtain ⟨cl127, Ar127, q127, S127, N127_, H127, G127⟩ := id V126
    have hin127 : ¬ ((3 : Int32) < 0 ∨ cl127.slots.size ≤ ((3 : Int32)).toNatClampNeg) := inb_of S127 ⟨by decide, by decide⟩
    obtain ⟨T128, h128, X128, e128, W128, st128⟩ := stJ X126 hx hZ e126 Ar127 (j := (3 : Int32)) hin127 (g := (mkF m 37 #[.val (.long i0), .second, .val (.long i1), .second, .val (.long i2), .second, .val (.long i3), .second, .val (.int i4), .val (.int (1 : Int32)), .val (.ref b120), .unset, .unset, .unset, .unset, .unset, .unset, .unset] [(.long (i1 ^^^ i3)), (.int (3 : Int32)), (.ref b120)])) rfl rfl (hb hby at_37)
    have V128 : Arv Z h128 b120 k120 .long (6 : Int32) [(.long i0), (.long (i0 ^^^ i3)), (.long i1), (.long (i1 ^^^ i3)), (.long (0 : Int64)), (.long (0 : Int64))] (.long (0 : Int64)) := Arv.set Ar127 q127 S127 N127_ H127 G127 rfl W128 3 rfl (Nat.le_of_ble_eq_true rfl)
    have N128 := Fr.snoc X128 N126 gb120
    obtain ⟨cl129, Ar129, q129, S129, N129_, H129, G129⟩ := id V128
    have hin129 : ¬ ((4 : Int32) < 0 ∨ cl129.slots.size ≤ ((4 : Int32)).toNatClampNeg) := inb_of S129 ⟨by decide, by decide⟩
    obtain ⟨T130, h130, X130, e130, W130, st130⟩ := stJ X128 hx hZ e128 Ar129 (j := (4 : Int32)) hin129 (g := (mkF m 43 #[.val (.long i0), .second, .val (.long i1), .second, .val (.long i2), .second, .val (.long i3), .second, .val (.int i4), .val (.int (1 : Int32)), .val (.ref b120), .unset, .unset, .unset, .unset, .unset, .unset, .unset] [(.long i2), (.int (4 : Int32)), (.ref b120)])) rfl rfl (hb hby at_43)
    have V130 : Arv Z h130 b120 k120 .long (6 : Int32) [(.long i0), (.long (i0 ^^^ i3)), (.long i1), (.long (i1 ^^^ i3)), (.long i2), (.long (0 : Int64))] (.long (0 : Int64)) := Arv.set Ar129 q129 S129 N129_ H129 G129 rfl W130 4 rfl (Nat.le_of_ble_eq_true rfl)
    have N130 := Fr.snoc X130 N128 gb120
    obtain ⟨cl131, Ar131, q131, S131, N131_, H131, G131⟩ := id V130
    have hin131 : ¬ ((5 : Int32) < 0 ∨ cl131.slots.size ≤ ((5 : Int32)).toNatClampNeg) := inb_of S131 ⟨by decide, by decide⟩
    obtain ⟨T132, h132, X132, e132, W132, st132⟩ := stJ X130 hx hZ e130 Ar131 (j := (5 : Int32)) hin131 (g := (mkF m 52 #[.val (.long i0), .second, .val (.long i1), .second, .val (.long i2), .second, .val (.long i3), .second, .val (.int i4), .val (.int (1 : Int32)), .val (.ref b120), .unset, .unset, .unset, .unset, .unset, .unset, .unset] [(.long (i2 ^^^ i3)), (.int (5 : Int32)), (.ref b120)])) rfl rfl (hb hby at_52)
    have V132 : Arv Z h132 b120 k120 .long (6 : Int32) [(.long i0), (.long (i0 ^^^ i3)), (.long i1), (.long (i1 ^^^ i3)), (.long i2), (.long (i2 ^^^ i3))] (.long (0 : Int64)) := Arv.set Ar131 q131 S131 N131_ H131 G131 rfl W132 5 rfl (Nat.le_of_ble_eq_true rfl)
    have N132 := Fr.snoc X132 N130 gb120
    have Lq133 := Lv.of6 V132
    have O134 : Old Z n0 h132 := (((((((O0.ext E120).wr W122 gb120).wr W124 gb120).wr W126 gb120).wr W128 gb120).wr W130 gb120).wr W132 gb120)
    obtain ⟨_, _, ⟨T135, L135, k135, n135⟩, -, X135, ⟨Lc135, hQ135, l135, y135, z135⟩, st135⟩ := Jvm.LawKit.callS X132 hx (y := (⟨"com/example/keyfold/keyfold/SortedRows", "sort", "([JI)[J"⟩ : MethodName)) hown (mvT hZ (hw _ (List.mem_of_getElem? (i := 1) rfl))) (mvT hZ (hw _ (List.mem_of_getElem? (i := 2) rfl))) (mvT hZ (hw _ (List.mem_of_getElem? (i := 3) rfl))) (mvT hZ (hw _ (List.mem_of_getElem? (i := 4) rfl))) (by decide) (backOf (W := 0) (rmS1 l Z a0 hw [] b120 (own_f6 i0 (i0 ^^^ i3) i1 (i1 ^^^ i3) i2 (i2 ^^^ i3)) i0 i1 i2 i3 h132 n0 O134 Lq133 gb120 rfl rfl rfl rfl rfl rfl) hZ (hw _ (List.mem_of_getElem? (i := 4) rfl)) (hw _ (List.mem_of_getElem? (i := 3) rfl)) (by decide) (by decide)) (g := (mkF m 57 #[.val (.long i0), .second, .val (.long i1), .second, .val (.long i2), .second, .val (.long i3), .second, .val (.int i4), .val (.int (1 : Int32)), .val (.ref b120), .unset, .unset, .unset, .unset, .unset, .unset, .unset] [(.int (1 : Int32)), (.ref b120)])) rfl (by rw [hml]; rfl) (argsL := [(.ref b120), (.int (1 : Int32))]) (rest := []) (lenOf pd_0 rfl) rfl (by show 2 * 0 + _ ≤ _; exact Nat.le_of_eq rfl) (hb hby at_57) (fun _ _ => ⟨rfl, e132, (by decide : 1 + 2 ≤ _), (by decide : 6 + 8 ≤ _)⟩)
    dsimp only [Pt.U, Pt.locs, Pt.cells, Pt.slots] at X135 l135 y135 z135 st135 hQ135
    subst l135 y135 z135
    obtain ⟨A135, f135, rfl, N135q, O135, La135, ph135⟩ := hQ135
    have N135 := Fr.app N132 N135q
    obtain ⟨cl136, Ar136, S136, -⟩ := id La135
    obtain ⟨_, _, ⟨T137, L137, k137, n137⟩, -, X137, ⟨Lc137, hQ137, l137, y137, z137⟩, st137⟩ := Jvm.LawKit.callS X135 hx (y := (⟨"com/example/keyfold/keyfold/SortedRowsSortPinLaw", "pairOk", "([JIJJ)Z"⟩ : MethodName)) hown (mvT hZ (hw _ (List.mem_of_getElem? (i := 17) rfl))) (mvT hZ (hw _ (List.mem_of_getElem? (i := 18) rfl))) (mvT hZ (hw _ (List.mem_of_getElem? (i := 19) rfl))) (mvT hZ (hw _ (List.mem_of_getElem? (i := 20) rfl))) (by decide) (backOf (W := 0) (rmPk0 l Z a0 hw [] A135 f135 i0 i3 T135.heap n0 O135 La135 ph135.1 ph135.2) hZ (hw _ (List.mem_of_getElem? (i := 20) rfl)) (hw _ (List.mem_of_getElem? (i := 19) rfl)) (by decide) (by decide)) (g := (mkF m 96 #[.val (.long i0), .second, .val (.long i1), .second, .val (.long i2), .second, .val (.long i3), .second, .val (.int i4), .val (.int (1 : Int32)), .val (.ref b120), .val (.ref A135), .unset, .unset, .unset, .unset, .unset, .unset] [(.long i3), (.long i0), (.int (0 : Int32)), (.ref A135)])) rfl (by rw [hml]; rfl) (argsL := [(.ref A135), (.int (0 : Int32)), (.long i0), (.long i3)]) (rest := []) (lenOf pd_1 rfl) rfl (by show 2 * 0 + _ ≤ _; exact Nat.le_of_eq rfl) (hb hby at_96) (fun _ _ => ⟨rfl, rfl, (by decide : 3 + 0 ≤ _), (by decide : 14 + 0 ≤ _)⟩)
    dsimp only [Pt.U, Pt.locs, Pt.cells, Pt.slots] at X137 l137 y137 z137 st137 hQ137
    subst l137 y137 z137
    obtain ⟨rfl, N137q, hh137⟩ := hQ137
    have N137 := Fr.app N135 N137q
    obtain ⟨fs, hr, hrun, hended, hW, hsame⟩ := X137.leave (v := some (.int (1 : Int32))) (fun h => by rw [Bd.returns] at h; cases h)
    refine ⟨_, _, pre101 _ ?_, hrun, hended, _, _, rfl, ?_, ⟨_, rfl⟩, hW, hsame.mono (by decide) (by decide)⟩
    · skip
      show Steps p.tables e below (s₁.setTop (mkF m 4 #[.val (.long i0), .second, .val (.long i1), .second, .val (.long i2), .second, .val (.long i3), .second, .val (.int i4), .unset, .unset, .unset, .unset, .unset, .unset, .unset, .unset, .unset] [(.int (i4 &&& (3 : Int32)))])) _
      rw [hk102]
      refine XS.istore X0.here hx rfl (hb hby at_4) rfl (l' := #[.val (.long i0), .second, .val (.long i1), .second, .val (.long i2), .second, .val (.long i3), .second, .val (.int i4), .val (.int (1 : Int32)), .unset, .unset, .unset, .unset, .unset, .unset, .unset, .unset]) rfl ?_
      show Steps p.tables e below (s₁.setTop (mkF m 6 #[.val (.long i0), .second, .val (.long i1), .second, .val (.long i2), .second, .val (.long i3), .second, .val (.int i4), .val (.int (1 : Int32)), .unset, .unset, .unset, .unset, .unset, .unset, .unset, .unset] [])) _
      refine XS.bipush X0.here hx rfl (hb hby at_6) ?_
      refine st120 _ ?_
      refine XS.astore X120.here hx rfl (hb hby at_10) rfl rfl (l' := #[.val (.long i0), .second, .val (.long i1), .second, .val (.long i2), .second, .val (.long i3), .second, .val (.int i4), .val (.int (1 : Int32)), .val (.ref b120), .unset, .unset, .unset, .unset, .unset, .unset, .unset]) rfl ?_
      refine XS.aload X120.here hx rfl (hb hby at_12) rfl rfl ?_
      refine XS.iconst X120.here hx rfl (hb hby at_14) ?_
      show Steps p.tables e below (T120.setTop (mkF m 15 #[.val (.long i0), .second, .val (.long i1), .second, .val (.long i2), .second, .val (.long i3), .second, .val (.int i4), .val (.int (1 : Int32)), .val (.ref b120), .unset, .unset, .unset, .unset, .unset, .unset, .unset] [(.int (0 : Int32)), (.ref b120)])) _
      refine XS.lloadN X120.here hx rfl (hb hby at_15) rfl ?_
      refine st122 _ ?_
      refine XS.aload X122.here hx rfl (hb hby at_17) rfl rfl ?_
      refine XS.iconst X122.here hx rfl (hb hby at_19) ?_
      refine XS.lloadN X122.here hx rfl (hb hby at_20) rfl ?_
      show Steps p.tables e below (T122.setTop (mkF m 21 #[.val (.long i0), .second, .val (.long i1), .second, .val (.long i2), .second, .val (.long i3), .second, .val (.int i4), .val (.int (1 : Int32)), .val (.ref b120), .unset, .unset, .unset, .unset, .unset, .unset, .unset] [(.long i0), (.int (1 : Int32)), (.ref b120)])) _
      refine XS.lload X122.here hx rfl (hb hby at_21) rfl ?_
      refine XS.lxor X122.here hx rfl (hb hby at_23) rfl ?_
      refine st124 _ ?_
      refine XS.aload X124.here hx rfl (hb hby at_25) rfl rfl ?_
      refine XS.iconst X124.here hx rfl (hb hby at_27) ?_
      show Steps p.tables e below (T124.setTop (mkF m 28 #[.val (.long i0), .second, .val (.long i1), .second, .val (.long i2), .second, .val (.long i3), .second, .val (.int i4), .val (.int (1 : Int32)), .val (.ref b120), .unset, .unset, .unset, .unset, .unset, .unset, .unset] [(.int (2 : Int32)), (.ref b120)])) _
      refine XS.lloadN X124.here hx rfl (hb hby at_28) rfl ?_
      refine st126 _ ?_
      refine XS.aload X126.here hx rfl (hb hby at_30) rfl rfl ?_
      refine XS.iconst X126.here hx rfl (hb hby at_32) ?_
      refine XS.lloadN X126.here hx rfl (hb hby at_33) rfl ?_
      show Steps p.tables e below (T126.setTop (mkF m 34 #[.val (.long i0), .second, .val (.long i1), .second, .val (.long i2), .second, .val (.long i3), .second, .val (.int i4), .val (.int (1 : Int32)), .val (.ref b120), .unset, .unset, .unset, .unset, .unset, .unset, .unset] [(.long i1), (.int (3 : Int32)), (.ref b120)])) _
      refine XS.lload X126.here hx rfl (hb hby at_34) rfl ?_
      refine XS.lxor X126.here hx rfl (hb hby at_36) rfl ?_
      refine st128 _ ?_
      refine XS.aload X128.here hx rfl (hb hby at_38) rfl rfl ?_
      refine XS.iconst X128.here hx rfl (hb hby at_40) ?_
      show Steps p.tables e below (T128.setTop (mkF m 41 #[.val (.long i0), .second, .val (.long i1), .second, .val (.long i2), .second, .val (.long i3), .second, .val (.int i4), .val (.int (1 : Int32)), .val (.ref b120), .unset, .unset, .unset, .unset, .unset, .unset, .unset] [(.int (4 : Int32)), (.ref b120)])) _
      refine XS.lload X128.here hx rfl (hb hby at_41) rfl ?_
      refine st130 _ ?_
      refine XS.aload X130.here hx rfl (hb hby at_44) rfl rfl ?_
      refine XS.iconst X130.here hx rfl (hb hby at_46) ?_
      refine XS.lload X130.here hx rfl (hb hby at_47) rfl ?_
      show Steps p.tables e below (T130.setTop (mkF m 49 #[.val (.long i0), .second, .val (.long i1), .second, .val (.long i2), .second, .val (.long i3), .second, .val (.int i4), .val (.int (1 : Int32)), .val (.ref b120), .unset, .unset, .unset, .unset, .unset, .unset, .unset] [(.long i2), (.int (5 : Int32)), (.ref b120)])) _
      refine XS.lload X130.here hx rfl (hb hby at_49) rfl ?_
      refine XS.lxor X130.here hx rfl (hb hby at_51) rfl ?_
      refine st132 _ ?_
      refine XS.aload X132.here hx rfl (hb hby at_53) rfl rfl ?_
      refine XS.iload X132.here hx rfl (hb hby at_55) rfl ?_
      show Steps p.tables e below (T132.setTop (mkF m 57 #[.val (.long i0), .second, .val (.long i1), .second, .val (.long i2), .second, .val (.long i3), .second, .val (.int i4), .val (.int (1 : Int32)), .val (.ref b120), .unset, .unset, .unset, .unset, .unset, .unset, .unset] [(.int (1 : Int32)), (.ref b120)])) _
      refine st135 _ ?_
      refine XS.astore X135.here hx rfl (hb hby at_60) rfl rfl (l' := #[.val (.long i0), .second, .val (.long i1), .second, .val (.long i2), .second, .val (.long i3), .second, .val (.int i4), .val (.int (1 : Int32)), .val (.ref b120), .val (.ref A135), .unset, .unset, .unset, .unset, .unset, .unset]) rfl ?_
      refine XS.aload X135.here hx rfl (hb hby at_62) rfl rfl ?_
      refine XS.ifnullNo X135.here hx rfl (hb hby at_64) rfl ?_
      refine XS.aload X135.here hx rfl (hb hby at_67) rfl rfl ?_
      show Steps p.tables e below (T135.setTop (mkF m 69 #[.val (.long i0), .second, .val (.long i1), .second, .val (.long i2), .second, .val (.long i3), .second, .val (.int i4), .val (.int (1 : Int32)), .val (.ref b120), .val (.ref A135), .unset, .unset, .unset, .unset, .unset, .unset] [(.ref A135)])) _
      refine X135.arraylength hx Ar136.1 (State.isArrayOf_alike hZ.alike Ar136.2.1) (g := (mkF m 69 #[.val (.long i0), .second, .val (.long i1), .second, .val (.long i2), .second, .val (.long i3), .second, .val (.int i4), .val (.int (1 : Int32)), .val (.ref b120), .val (.ref A135), .unset, .unset, .unset, .unset, .unset, .unset] [(.ref A135)])) rfl rfl (hb hby at_69) _ ?_
      rw [show cl136.slots.size.toInt32 = (6 : Int32) from by rw [S136]; rfl]
      refine XS.bipush X135.here hx rfl (hb hby at_70) ?_
      show Steps p.tables e below (T135.setTop (mkF m 72 #[.val (.long i0), .second, .val (.long i1), .second, .val (.long i2), .second, .val (.long i3), .second, .val (.int i4), .val (.int (1 : Int32)), .val (.ref b120), .val (.ref A135), .unset, .unset, .unset, .unset, .unset, .unset] [(.int (6 : Int32)), (.int (6 : Int32))])) _
      refine XS.icmpYes X135.here hx rfl (pc0 := 72) (pc' := 77) rfl (hb hby at_72) rfl (by decide) (by decide) (by decide) ?_
      refine XS.iload X135.here hx rfl (hb hby at_77) rfl ?_
      show Steps p.tables e below (T135.setTop (mkF m 79 #[.val (.long i0), .second, .val (.long i1), .second, .val (.long i2), .second, .val (.long i3), .second, .val (.int i4), .val (.int (1 : Int32)), .val (.ref b120), .val (.ref A135), .unset, .unset, .unset, .unset, .unset, .unset] [(.int (1 : Int32))])) _
      refine XS.ifYes X135.here hx rfl (pc0 := 79) (pc' := 84) rfl (hb hby at_79) rfl (by decide) (by decide) (by decide) ?_
      show Steps p.tables e below (T135.setTop (mkF m 84 #[.val (.long i0), .second, .val (.long i1), .second, .val (.long i2), .second, .val (.long i3), .second, .val (.int i4), .val (.int (1 : Int32)), .val (.ref b120), .val (.ref A135), .unset, .unset, .unset, .unset, .unset, .unset] [])) _
      refine XS.iload X135.here hx rfl (hb hby at_84) rfl ?_
      refine XS.iconst X135.here hx rfl (hb hby at_86) ?_
      show Steps p.tables e below (T135.setTop (mkF m 87 #[.val (.long i0), .second, .val (.long i1), .second, .val (.long i2), .second, .val (.long i3), .second, .val (.int i4), .val (.int (1 : Int32)), .val (.ref b120), .val (.ref A135), .unset, .unset, .unset, .unset, .unset, .unset] [(.int (1 : Int32)), (.int (1 : Int32))])) _
      refine XS.icmpNo X135.here hx rfl (hb hby at_87) rfl (by decide) ?_
      refine XS.aload X135.here hx rfl (hb hby at_90) rfl rfl ?_
      refine XS.iconst X135.here hx rfl (hb hby at_92) ?_
      show Steps p.tables e below (T135.setTop (mkF m 93 #[.val (.long i0), .second, .val (.long i1), .second, .val (.long i2), .second, .val (.long i3), .second, .val (.int i4), .val (.int (1 : Int32)), .val (.ref b120), .val (.ref A135), .unset, .unset, .unset, .unset, .unset, .unset] [(.int (0 : Int32)), (.ref A135)])) _
      refine XS.lloadN X135.here hx rfl (hb hby at_93) rfl ?_
      refine XS.lload X135.here hx rfl (hb hby at_94) rfl ?_
      refine st137 _ ?_
      show Steps p.tables e below (T137.setTop (mkF m 99 #[.val (.long i0), .second, .val (.long i1), .second, .val (.long i2), .second, .val (.long i3), .second, .val (.int i4), .val (.int (1 : Int32)), .val (.ref b120), .val (.ref A135), .unset, .unset, .unset, .unset, .unset, .unset] [(.int (1 : Int32))])) _
      exact retN X137 hx (t := .boolean) Bd.returns (by simp) (hb hby at_99) hr
    · show QL n0 _ T137.heap _
      rw [hh137]
      exact ⟨rfl, N137⟩
  · skip
    obtain ⟨T138, h138, k138, X138, e138, E138, A138, st138⟩ := newP X0 hx hZ (hw _ (List.mem_of_getElem? (i := 0) rfl)) e0 (g := (mkF m 8 #[.val (.long i0), .second, .val (.long i1), .second, .val (.long i2), .second, .val (.long i3), .second, .val (.int i4), .val (.int (2 : Int32)), .unset, .unset, .unset, .unset, .unset, .unset, .unset, .unset] [(.int (6 : Int32))])) rfl (hb hby at_8) rfl (by decide) (cap := 6) (by decide) (by decide) (by decide) (by decide)
    obtain ⟨b138, g138⟩ : ∃ z, z = h0.size := ⟨_, rfl⟩
    rw [← g138] at A138 st138
    have gb138 : n0 ≤ b138 := by rw [g138, ← O0.1]; exact O0.2.1
    have V138 : Arv Z h138 b138 k138 .long (6 : Int32) [(.long (0 : Int64)), (.long (0 : Int64)), (.long (0 : Int64)), (.long (0 : Int64)), (.long (0 : Int64)), (.long (0 : Int64))] (.long (0 : Int64)) := (Arv.new A138 (by decide)).pad (pad_rep [] (.long (0 : Int64)) 6)
    obtain ⟨cl139, Ar139, q139, S139, N139_, H139, G139⟩ := id V138
    have hin139 : ¬ ((0 : Int32) < 0 ∨ cl139.slots.size ≤ ((0 : Int32)).toNatClampNeg) := inb_of S139 ⟨by decide, by decide⟩
    obtain ⟨T140, h140, X140, e140, W140, st140⟩ := stJ X138 hx hZ e138 Ar139 (j := (0 : Int32)) hin139 (g := (mkF m 16 #[.val (.long i0), .second, .val (.long i1), .second, .val (.long i2), .second, .val (.long i3), .second, .val (.int i4), .val (.int (2 : Int32)), .val (.ref b138), .unset, .unset, .unset, .unset, .unset, .unset, .unset] [(.long i0), (.int (0 : Int32)), (.ref b138)])) rfl rfl (hb hby at_16)
    have V140 : Arv Z h140 b138 k138 .long (6 : Int32) [(.long i0), (.long (0 : Int64)), (.long (0 : Int64)), (.long (0 : Int64)), (.long (0 : Int64)), (.long (0 : Int64))] (.long (0 : Int64)) := Arv.set Ar139 q139 S139 N139_ H139 G139 rfl W140 0 rfl (Nat.le_of_ble_eq_true rfl)
    have N140 := Fr.snoc X140 N0 gb138
    obtain ⟨cl141, Ar141, q141, S141, N141_, H141, G141⟩ := id V140
    have hin141 : ¬ ((1 : Int32) < 0 ∨ cl141.slots.size ≤ ((1 : Int32)).toNatClampNeg) := inb_of S141 ⟨by decide, by decide⟩
    obtain ⟨T142, h142, X142, e142, W142, st142⟩ := stJ X140 hx hZ e140 Ar141 (j := (1 : Int32)) hin141 (g := (mkF m 24 #[.val (.long i0), .second, .val (.long i1), .second, .val (.long i2), .second, .val (.long i3), .second, .val (.int i4), .val (.int (2 : Int32)), .val (.ref b138), .unset, .unset, .unset, .unset, .unset, .unset, .unset] [(.long (i0 ^^^ i3)), (.int (1 : Int32)), (.ref b138)])) rfl rfl (hb hby at_24)
    have V142 : Arv Z h142 b138 k138 .long (6 : Int32) [(.long i0), (.long (i0 ^^^ i3)), (.long (0 : Int64)), (.long (0 : Int64)), (.long (0 : Int64)), (.long (0 : Int64))] (.long (0 : Int64)) := Arv.set Ar141 q141 S141 N141_ H141 G141 rfl W142 1 rfl (Nat.le_of_ble_eq_true rfl)
    have N142 := Fr.snoc X142 N140 gb138
    obtain ⟨cl143, Ar143, q143, S143, N143_, H143, G143⟩ := id V142
    have hin143 : ¬ ((2 : Int32) < 0 ∨ cl143.slots.size ≤ ((2 : Int32)).toNatClampNeg) := inb_of S143 ⟨by decide, by decide⟩
    obtain ⟨T144, h144, X144, e144, W144, st144⟩ := stJ X142 hx hZ e142 Ar143 (j := (2 : Int32)) hin143 (g := (mkF m 29 #[.val (.long i0), .second, .val (.long i1), .second, .val (.long i2), .second, .val (.long i3), .second, .val (.int i4), .val (.int (2 : Int32)), .val (.ref b138), .unset, .unset, .unset, .unset, .unset, .unset, .unset] [(.long i1), (.int (2 : Int32)), (.ref b138)])) rfl rfl (hb hby at_29)
    have V144 : Arv Z h144 b138 k138 .long (6 : Int32) [(.long i0), (.long (i0 ^^^ i3)), (.long i1), (.long (0 : Int64)), (.long (0 : Int64)), (.long (0 : Int64))] (.long (0 : Int64)) := Arv.set Ar143 q143 S143 N143_ H143 G143 rfl W144 2 rfl (Nat.le_of_ble_eq_true rfl)
    have N144 := Fr.snoc X144 N142 gb138
    obtain ⟨cl145, Ar145, q145, S145, N145_, H145, G145⟩ := id V144
    have hin145 : ¬ ((3 : Int32) < 0 ∨ cl145.slots.size ≤ ((3 : Int32)).toNatClampNeg) := inb_of S145 ⟨by decide, by decide⟩
    obtain ⟨T146, h146, X146, e146, W146, st146⟩ := stJ X144 hx hZ e144 Ar145 (j := (3 : Int32)) hin145 (g := (mkF m 37 #[.val (.long i0), .second, .val (.long i1), .second, .val (.long i2), .second, .val (.long i3), .second, .val (.int i4), .val (.int (2 : Int32)), .val (.ref b138), .unset, .unset, .unset, .unset, .unset, .unset, .unset] [(.long (i1 ^^^ i3)), (.int (3 : Int32)), (.ref b138)])) rfl rfl (hb hby at_37)
    have V146 : Arv Z h146 b138 k138 .long (6 : Int32) [(.long i0), (.long (i0 ^^^ i3)), (.long i1), (.long (i1 ^^^ i3)), (.long (0 : Int64)), (.long (0 : Int64))] (.long (0 : Int64)) := Arv.set Ar145 q145 S145 N145_ H145 G145 rfl W146 3 rfl (Nat.le_of_ble_eq_true rfl)
    have N146 := Fr.snoc X146 N144 gb138
    obtain ⟨cl147, Ar147, q147, S147, N147_, H147, G147⟩ := id V146
    have hin147 : ¬ ((4 : Int32) < 0 ∨ cl147.slots.size ≤ ((4 : Int32)).toNatClampNeg) := inb_of S147 ⟨by decide, by decide⟩
    obtain ⟨T148, h148, X148, e148, W148, st148⟩ := stJ X146 hx hZ e146 Ar147 (j := (4 : Int32)) hin147 (g := (mkF m 43 #[.val (.long i0), .second, .val (.long i1), .second, .val (.long i2), .second, .val (.long i3), .second, .val (.int i4), .val (.int (2 : Int32)), .val (.ref b138), .unset, .unset, .unset, .unset, .unset, .unset, .unset] [(.long i2), (.int (4 : Int32)), (.ref b138)])) rfl rfl (hb hby at_43)
    have V148 : Arv Z h148 b138 k138 .long (6 : Int32) [(.long i0), (.long (i0 ^^^ i3)), (.long i1), (.long (i1 ^^^ i3)), (.long i2), (.long (0 : Int64))] (.long (0 : Int64)) := Arv.set Ar147 q147 S147 N147_ H147 G147 rfl W148 4 rfl (Nat.le_of_ble_eq_true rfl)
    have N148 := Fr.snoc X148 N146 gb138
    obtain ⟨cl149, Ar149, q149, S149, N149_, H149, G149⟩ := id V148
    have hin149 : ¬ ((5 : Int32) < 0 ∨ cl149.slots.size ≤ ((5 : Int32)).toNatClampNeg) := inb_of S149 ⟨by decide, by decide⟩
    obtain ⟨T150, h150, X150, e150, W150, st150⟩ := stJ X148 hx hZ e148 Ar149 (j := (5 : Int32)) hin149 (g := (mkF m 52 #[.val (.long i0), .second, .val (.long i1), .second, .val (.long i2), .second, .val (.long i3), .second, .val (.int i4), .val (.int (2 : Int32)), .val (.ref b138), .unset, .unset, .unset, .unset, .unset, .unset, .unset] [(.long (i2 ^^^ i3)), (.int (5 : Int32)), (.ref b138)])) rfl rfl (hb hby at_52)
    have V150 : Arv Z h150 b138 k138 .long (6 : Int32) [(.long i0), (.long (i0 ^^^ i3)), (.long i1), (.long (i1 ^^^ i3)), (.long i2), (.long (i2 ^^^ i3))] (.long (0 : Int64)) := Arv.set Ar149 q149 S149 N149_ H149 G149 rfl W150 5 rfl (Nat.le_of_ble_eq_true rfl)
    have N150 := Fr.snoc X150 N148 gb138
    have Lq151 := Lv.of6 V150
    have O152 : Old Z n0 h150 := (((((((O0.ext E138).wr W140 gb138).wr W142 gb138).wr W144 gb138).wr W146 gb138).wr W148 gb138).wr W150 gb138)
    obtain ⟨_, _, ⟨T153, L153, k153, n153⟩, -, X153, ⟨Lc153, hQ153, l153, y153, z153⟩, st153⟩ := Jvm.LawKit.callS X150 hx (y := (⟨"com/example/keyfold/keyfold/SortedRows", "sort", "([JI)[J"⟩ : MethodName)) hown (mvT hZ (hw _ (List.mem_of_getElem? (i := 1) rfl))) (mvT hZ (hw _ (List.mem_of_getElem? (i := 2) rfl))) (mvT hZ (hw _ (List.mem_of_getElem? (i := 3) rfl))) (mvT hZ (hw _ (List.mem_of_getElem? (i := 4) rfl))) (by decide) (backOf (W := 0) (rmS2 l Z a0 hw [] b138 (own_f6 i0 (i0 ^^^ i3) i1 (i1 ^^^ i3) i2 (i2 ^^^ i3)) i0 i1 i2 i3 h150 n0 O152 Lq151 gb138 rfl rfl rfl rfl rfl rfl) hZ (hw _ (List.mem_of_getElem? (i := 4) rfl)) (hw _ (List.mem_of_getElem? (i := 3) rfl)) (by decide) (by decide)) (g := (mkF m 57 #[.val (.long i0), .second, .val (.long i1), .second, .val (.long i2), .second, .val (.long i3), .second, .val (.int i4), .val (.int (2 : Int32)), .val (.ref b138), .unset, .unset, .unset, .unset, .unset, .unset, .unset] [(.int (2 : Int32)), (.ref b138)])) rfl (by rw [hml]; rfl) (argsL := [(.ref b138), (.int (2 : Int32))]) (rest := []) (lenOf pd_0 rfl) rfl (by show 2 * 0 + _ ≤ _; exact Nat.le_of_eq rfl) (hb hby at_57) (fun _ _ => ⟨rfl, e150, (by decide : 1 + 11 ≤ _), (by decide : 6 + 2070 ≤ _)⟩)
    dsimp only [Pt.U, Pt.locs, Pt.cells, Pt.slots] at X153 l153 y153 z153 st153 hQ153
    subst l153 y153 z153
    obtain ⟨A153, f153, rfl, N153q, O153, La153, ph153⟩ := hQ153
    have N153 := Fr.app N150 N153q
    obtain ⟨cl154, Ar154, S154, -⟩ := id La153
    obtain ⟨_, _, ⟨T155, L155, k155, n155⟩, -, X155, ⟨Lc155, hQ155, l155, y155, z155⟩, st155⟩ := Jvm.LawKit.callS X153 hx (y := (⟨"java/lang/Math", "min", "(JJ)J"⟩ : MethodName)) hown (mvT hZ (hw _ (List.mem_of_getElem? (i := 10) rfl))) (mvT hZ (hw _ (List.mem_of_getElem? (i := 11) rfl))) (mvT hZ (hw _ (List.mem_of_getElem? (i := 12) rfl))) (mvT hZ (hw _ (List.mem_of_getElem? (i := 13) rfl))) (by decide) (backOf (W := 0) (rmMn l Z a0 hw [] i0 i1 T153.heap n0 O153) hZ (hw _ (List.mem_of_getElem? (i := 13) rfl)) (hw _ (List.mem_of_getElem? (i := 12) rfl)) (by decide) (by decide)) (g := (mkF m 108 #[.val (.long i0), .second, .val (.long i1), .second, .val (.long i2), .second, .val (.long i3), .second, .val (.int i4), .val (.int (2 : Int32)), .val (.ref b138), .val (.ref A153), .unset, .unset, .unset, .unset, .unset, .unset] [(.long i1), (.long i0)])) rfl (by rw [hml]; rfl) (argsL := [(.long i0), (.long i1)]) (rest := []) (lenOf pd_2 rfl) rfl (by show 2 * 0 + _ ≤ _; exact Nat.le_of_eq rfl) (hb hby at_108) (fun _ _ => ⟨rfl, rfl, (by decide : 12 + 0 ≤ _), (by decide : 2076 + 0 ≤ _)⟩)
    dsimp only [Pt.U, Pt.locs, Pt.cells, Pt.slots] at X155 l155 y155 z155 st155 hQ155
    subst l155 y155 z155
    obtain ⟨rfl, N155q, hh155⟩ := hQ155
    have N155 := Fr.app N153 N155q
    obtain ⟨_, _, ⟨T156, L156, k156, n156⟩, -, X156, ⟨Lc156, hQ156, l156, y156, z156⟩, st156⟩ := Jvm.LawKit.callS X155 hx (y := (⟨"java/lang/Math", "max", "(JJ)J"⟩ : MethodName)) hown (mvT hZ (hw _ (List.mem_of_getElem? (i := 14) rfl))) (mvT hZ (hw _ (List.mem_of_getElem? (i := 15) rfl))) (mvT hZ (hw _ (List.mem_of_getElem? (i := 12) rfl))) (mvT hZ (hw _ (List.mem_of_getElem? (i := 16) rfl))) (by decide) (backOf (W := 0) (rmMx l Z a0 hw [] i0 i1 T153.heap n0 O153) hZ (hw _ (List.mem_of_getElem? (i := 16) rfl)) (hw _ (List.mem_of_getElem? (i := 12) rfl)) (by decide) (by decide)) (g := (mkF m 115 #[.val (.long i0), .second, .val (.long i1), .second, .val (.long i2), .second, .val (.long i3), .second, .val (.int i4), .val (.int (2 : Int32)), .val (.ref b138), .val (.ref A153), .val (.long (own_mn i0 i1)), .second, .unset, .unset, .unset, .unset] [(.long i1), (.long i0)])) rfl (by rw [hml]; rfl) (argsL := [(.long i0), (.long i1)]) (rest := []) (lenOf pd_2 rfl) rfl (by show 2 * 0 + _ ≤ _; exact Nat.le_of_eq rfl) (hb hby at_115) (fun _ _ => ⟨rfl, hh155, (by decide : 12 + 0 ≤ _), (by decide : 2076 + 0 ≤ _)⟩)
    dsimp only [Pt.U, Pt.locs, Pt.cells, Pt.slots] at X156 l156 y156 z156 st156 hQ156
    subst l156 y156 z156
    obtain ⟨rfl, N156q, hh156⟩ := hQ156
    have N156 := Fr.app N155 N156q
    obtain ⟨_, _, ⟨T157, L157, k157, n157⟩, -, X157, ⟨Lc157, hQ157, l157, y157, z157⟩, st157⟩ := Jvm.LawKit.callS X156 hx (y := (⟨"com/example/keyfold/keyfold/SortedRowsSortPinLaw", "pairOk", "([JIJJ)Z"⟩ : MethodName)) hown (mvT hZ (hw _ (List.mem_of_getElem? (i := 17) rfl))) (mvT hZ (hw _ (List.mem_of_getElem? (i := 18) rfl))) (mvT hZ (hw _ (List.mem_of_getElem? (i := 19) rfl))) (mvT hZ (hw _ (List.mem_of_getElem? (i := 20) rfl))) (by decide) (backOf (W := 0) (rmPk0 l Z a0 hw [] A153 f153 (own_mn i0 i1) i3 T153.heap n0 O153 La153 (Ok2.done ph153).1 (Ok2.done ph153).2.1) hZ (hw _ (List.mem_of_getElem? (i := 20) rfl)) (hw _ (List.mem_of_getElem? (i := 19) rfl)) (by decide) (by decide)) (g := (mkF m 127 #[.val (.long i0), .second, .val (.long i1), .second, .val (.long i2), .second, .val (.long i3), .second, .val (.int i4), .val (.int (2 : Int32)), .val (.ref b138), .val (.ref A153), .val (.long (own_mn i0 i1)), .second, .val (.long (own_mx i0 i1)), .second, .unset, .unset] [(.long i3), (.long (own_mn i0 i1)), (.int (0 : Int32)), (.ref A153)])) rfl (by rw [hml]; rfl) (argsL := [(.ref A153), (.int (0 : Int32)), (.long (own_mn i0 i1)), (.long i3)]) (rest := []) (lenOf pd_1 rfl) rfl (by show 2 * 0 + _ ≤ _; exact Nat.le_of_eq rfl) (hb hby at_127) (fun _ _ => ⟨rfl, hh156, (by decide : 12 + 0 ≤ _), (by decide : 2076 + 0 ≤ _)⟩)
    dsimp only [Pt.U, Pt.locs, Pt.cells, Pt.slots] at X157 l157 y157 z157 st157 hQ157
    subst l157 y157 z157
    obtain ⟨rfl, N157q, hh157⟩ := hQ157
    have N157 := Fr.app N156 N157q
    obtain ⟨_, _, ⟨T158, L158, k158, n158⟩, -, X158, ⟨Lc158, hQ158, l158, y158, z158⟩, st158⟩ := Jvm.LawKit.callS X157 hx (y := (⟨"com/example/keyfold/keyfold/SortedRowsSortPinLaw", "pairOk", "([JIJJ)Z"⟩ : MethodName)) hown (mvT hZ (hw _ (List.mem_of_getElem? (i := 17) rfl))) (mvT hZ (hw _ (List.mem_of_getElem? (i := 18) rfl))) (mvT hZ (hw _ (List.mem_of_getElem? (i := 19) rfl))) (mvT hZ (hw _ (List.mem_of_getElem? (i := 20) rfl))) (by decide) (backOf (W := 0) (rmPk1 l Z a0 hw [] A153 f153 (own_mx i0 i1) i3 T153.heap n0 O153 La153 (Ok2.done ph153).2.2.1 (Ok2.done ph153).2.2.2) hZ (hw _ (List.mem_of_getElem? (i := 20) rfl)) (hw _ (List.mem_of_getElem? (i := 19) rfl)) (by decide) (by decide)) (g := (mkF m 140 #[.val (.long i0), .second, .val (.long i1), .second, .val (.long i2), .second, .val (.long i3), .second, .val (.int i4), .val (.int (2 : Int32)), .val (.ref b138), .val (.ref A153), .val (.long (own_mn i0 i1)), .second, .val (.long (own_mx i0 i1)), .second, .unset, .unset] [(.long i3), (.long (own_mx i0 i1)), (.int (1 : Int32)), (.ref A153)])) rfl (by rw [hml]; rfl) (argsL := [(.ref A153), (.int (1 : Int32)), (.long (own_mx i0 i1)), (.long i3)]) (rest := []) (lenOf pd_1 rfl) rfl (by show 2 * 0 + _ ≤ _; exact Nat.le_of_eq rfl) (hb hby at_140) (fun _ _ => ⟨rfl, hh157, (by decide : 12 + 0 ≤ _), (by decide : 2076 + 0 ≤ _)⟩)
    dsimp only [Pt.U, Pt.locs, Pt.cells, Pt.slots] at X158 l158 y158 z158 st158 hQ158
    subst l158 y158 z158
    obtain ⟨rfl, N158q, hh158⟩ := hQ158
    have N158 := Fr.app N157 N158q
    obtain ⟨fs, hr, hrun, hended, hW, hsame⟩ := X158.leave (v := some (.int (1 : Int32))) (fun h => by rw [Bd.returns] at h; cases h)
    refine ⟨_, _, pre101 _ ?_, hrun, hended, _, _, rfl, ?_, ⟨_, rfl⟩, hW, hsame.mono (by decide) (by decide)⟩
    · skip
      show Steps p.tables e below (s₁.setTop (mkF m 4 #[.val (.long i0), .second, .val (.long i1), .second, .val (.long i2), .second, .val (.long i3), .second, .val (.int i4), .unset, .unset, .unset, .unset, .unset, .unset, .unset, .unset, .unset] [(.int (i4 &&& (3 : Int32)))])) _
      rw [hk102]
      show Steps p.tables e below (s₁.setTop (mkF m 4 #[.val (.long i0), .second, .val (.long i1), .second, .val (.long i2), .second, .val (.long i3), .second, .val (.int i4), .unset, .unset, .unset, .unset, .unset, .unset, .unset, .unset, .unset] [(.int (2 : Int32))])) _
      refine XS.istore X0.here hx rfl (hb hby at_4) rfl (l' := #[.val (.long i0), .second, .val (.long i1), .second, .val (.long i2), .second, .val (.long i3), .second, .val (.int i4), .val (.int (2 : Int32)), .unset, .unset, .unset, .unset, .unset, .unset, .unset, .unset]) rfl ?_
      refine XS.bipush X0.here hx rfl (hb hby at_6) ?_
      refine st138 _ ?_
      refine XS.astore X138.here hx rfl (hb hby at_10) rfl rfl (l' := #[.val (.long i0), .second, .val (.long i1), .second, .val (.long i2), .second, .val (.long i3), .second, .val (.int i4), .val (.int (2 : Int32)), .val (.ref b138), .unset, .unset, .unset, .unset, .unset, .unset, .unset]) rfl ?_
      refine XS.aload X138.here hx rfl (hb hby at_12) rfl rfl ?_
      show Steps p.tables e below (T138.setTop (mkF m 14 #[.val (.long i0), .second, .val (.long i1), .second, .val (.long i2), .second, .val (.long i3), .second, .val (.int i4), .val (.int (2 : Int32)), .val (.ref b138), .unset, .unset, .unset, .unset, .unset, .unset, .unset] [(.ref b138)])) _
      refine XS.iconst X138.here hx rfl (hb hby at_14) ?_
      refine XS.lloadN X138.here hx rfl (hb hby at_15) rfl ?_
      refine st140 _ ?_
      refine XS.aload X140.here hx rfl (hb hby at_17) rfl rfl ?_
      refine XS.iconst X140.here hx rfl (hb hby at_19) ?_
      show Steps p.tables e below (T140.setTop (mkF m 20 #[.val (.long i0), .second, .val (.long i1), .second, .val (.long i2), .second, .val (.long i3), .second, .val (.int i4), .val (.int (2 : Int32)), .val (.ref b138), .unset, .unset, .unset, .unset, .unset, .unset, .unset] [(.int (1 : Int32)), (.ref b138)])) _
      refine XS.lloadN X140.here hx rfl (hb hby at_20) rfl ?_
      refine XS.lload X140.here hx rfl (hb hby at_21) rfl ?_
      refine XS.lxor X140.here hx rfl (hb hby at_23) rfl ?_
      refine st142 _ ?_
      refine XS.aload X142.here hx rfl (hb hby at_25) rfl rfl ?_
      show Steps p.tables e below (T142.setTop (mkF m 27 #[.val (.long i0), .second, .val (.long i1), .second, .val (.long i2), .second, .val (.long i3), .second, .val (.int i4), .val (.int (2 : Int32)), .val (.ref b138), .unset, .unset, .unset, .unset, .unset, .unset, .unset] [(.ref b138)])) _
      refine XS.iconst X142.here hx rfl (hb hby at_27) ?_
      refine XS.lloadN X142.here hx rfl (hb hby at_28) rfl ?_
      refine st144 _ ?_
      refine XS.aload X144.here hx rfl (hb hby at_30) rfl rfl ?_
      refine XS.iconst X144.here hx rfl (hb hby at_32) ?_
      show Steps p.tables e below (T144.setTop (mkF m 33 #[.val (.long i0), .second, .val (.long i1), .second, .val (.long i2), .second, .val (.long i3), .second, .val (.int i4), .val (.int (2 : Int32)), .val (.ref b138), .unset, .unset, .unset, .unset, .unset, .unset, .unset] [(.int (3 : Int32)), (.ref b138)])) _
      refine XS.lloadN X144.here hx rfl (hb hby at_33) rfl ?_
      refine XS.lload X144.here hx rfl (hb hby at_34) rfl ?_
      refine XS.lxor X144.here hx rfl (hb hby at_36) rfl ?_
      refine st146 _ ?_
      refine XS.aload X146.here hx rfl (hb hby at_38) rfl rfl ?_
      show Steps p.tables e below (T146.setTop (mkF m 40 #[.val (.long i0), .second, .val (.long i1), .second, .val (.long i2), .second, .val (.long i3), .second, .val (.int i4), .val (.int (2 : Int32)), .val (.ref b138), .unset, .unset, .unset, .unset, .unset, .unset, .unset] [(.ref b138)])) _
      refine XS.iconst X146.here hx rfl (hb hby at_40) ?_
      refine XS.lload X146.here hx rfl (hb hby at_41) rfl ?_
      refine st148 _ ?_
      refine XS.aload X148.here hx rfl (hb hby at_44) rfl rfl ?_
      refine XS.iconst X148.here hx rfl (hb hby at_46) ?_
      show Steps p.tables e below (T148.setTop (mkF m 47 #[.val (.long i0), .second, .val (.long i1), .second, .val (.long i2), .second, .val (.long i3), .second, .val (.int i4), .val (.int (2 : Int32)), .val (.ref b138), .unset, .unset, .unset, .unset, .unset, .unset, .unset] [(.int (5 : Int32)), (.ref b138)])) _
      refine XS.lload X148.here hx rfl (hb hby at_47) rfl ?_
      refine XS.lload X148.here hx rfl (hb hby at_49) rfl ?_
      refine XS.lxor X148.here hx rfl (hb hby at_51) rfl ?_
      refine st150 _ ?_
      refine XS.aload X150.here hx rfl (hb hby at_53) rfl rfl ?_
      show Steps p.tables e below (T150.setTop (mkF m 55 #[.val (.long i0), .second, .val (.long i1), .second, .val (.long i2), .second, .val (.long i3), .second, .val (.int i4), .val (.int (2 : Int32)), .val (.ref b138), .unset, .unset, .unset, .unset, .unset, .unset, .unset] [(.ref b138)])) _
      refine XS.iload X150.here hx rfl (hb hby at_55) rfl ?_
      refine st153 _ ?_
      refine XS.astore X153.here hx rfl (hb hby at_60) rfl rfl (l' := #[.val (.long i0), .second, .val (.long i1), .second, .val (.long i2), .second, .val (.long i3), .second, .val (.int i4), .val (.int (2 : Int32)), .val (.ref b138), .val (.ref A153), .unset, .unset, .unset, .unset, .unset, .unset]) rfl ?_
      refine XS.aload X153.here hx rfl (hb hby at_62) rfl rfl ?_
      refine XS.ifnullNo X153.here hx rfl (hb hby at_64) rfl ?_
      show Steps p.tables e below (T153.setTop (mkF m 67 #[.val (.long i0), .second, .val (.long i1), .second, .val (.long i2), .second, .val (.long i3), .second, .val (.int i4), .val (.int (2 : Int32)), .val (.ref b138), .val (.ref A153), .unset, .unset, .unset, .unset, .unset, .unset] [])) _
      refine XS.aload X153.here hx rfl (hb hby at_67) rfl rfl ?_
      refine X153.arraylength hx Ar154.1 (State.isArrayOf_alike hZ.alike Ar154.2.1) (g := (mkF m 69 #[.val (.long i0), .second, .val (.long i1), .second, .val (.long i2), .second, .val (.long i3), .second, .val (.int i4), .val (.int (2 : Int32)), .val (.ref b138), .val (.ref A153), .unset, .unset, .unset, .unset, .unset, .unset] [(.ref A153)])) rfl rfl (hb hby at_69) _ ?_
      rw [show cl154.slots.size.toInt32 = (6 : Int32) from by rw [S154]; rfl]
      refine XS.bipush X153.here hx rfl (hb hby at_70) ?_
      show Steps p.tables e below (T153.setTop (mkF m 72 #[.val (.long i0), .second, .val (.long i1), .second, .val (.long i2), .second, .val (.long i3), .second, .val (.int i4), .val (.int (2 : Int32)), .val (.ref b138), .val (.ref A153), .unset, .unset, .unset, .unset, .unset, .unset] [(.int (6 : Int32)), (.int (6 : Int32))])) _
      refine XS.icmpYes X153.here hx rfl (pc0 := 72) (pc' := 77) rfl (hb hby at_72) rfl (by decide) (by decide) (by decide) ?_
      refine XS.iload X153.here hx rfl (hb hby at_77) rfl ?_
      show Steps p.tables e below (T153.setTop (mkF m 79 #[.val (.long i0), .second, .val (.long i1), .second, .val (.long i2), .second, .val (.long i3), .second, .val (.int i4), .val (.int (2 : Int32)), .val (.ref b138), .val (.ref A153), .unset, .unset, .unset, .unset, .unset, .unset] [(.int (2 : Int32))])) _
      refine XS.ifYes X153.here hx rfl (pc0 := 79) (pc' := 84) rfl (hb hby at_79) rfl (by decide) (by decide) (by decide) ?_
      refine XS.iload X153.here hx rfl (hb hby at_84) rfl ?_
      refine XS.iconst X153.here hx rfl (hb hby at_86) ?_
      show Steps p.tables e below (T153.setTop (mkF m 87 #[.val (.long i0), .second, .val (.long i1), .second, .val (.long i2), .second, .val (.long i3), .second, .val (.int i4), .val (.int (2 : Int32)), .val (.ref b138), .val (.ref A153), .unset, .unset, .unset, .unset, .unset, .unset] [(.int (1 : Int32)), (.int (2 : Int32))])) _
      refine XS.icmpYes X153.here hx rfl (pc0 := 87) (pc' := 100) rfl (hb hby at_87) rfl (by decide) (by decide) (by decide) ?_
      refine XS.iload X153.here hx rfl (hb hby at_100) rfl ?_
      show Steps p.tables e below (T153.setTop (mkF m 102 #[.val (.long i0), .second, .val (.long i1), .second, .val (.long i2), .second, .val (.long i3), .second, .val (.int i4), .val (.int (2 : Int32)), .val (.ref b138), .val (.ref A153), .unset, .unset, .unset, .unset, .unset, .unset] [(.int (2 : Int32))])) _
      refine XS.iconst X153.here hx rfl (hb hby at_102) ?_
      show Steps p.tables e below (T153.setTop (mkF m 103 #[.val (.long i0), .second, .val (.long i1), .second, .val (.long i2), .second, .val (.long i3), .second, .val (.int i4), .val (.int (2 : Int32)), .val (.ref b138), .val (.ref A153), .unset, .unset, .unset, .unset, .unset, .unset] [(.int (2 : Int32)), (.int (2 : Int32))])) _
      refine XS.icmpNo X153.here hx rfl (hb hby at_103) rfl (by decide) ?_
      refine XS.lloadN X153.here hx rfl (hb hby at_106) rfl ?_
      refine XS.lloadN X153.here hx rfl (hb hby at_107) rfl ?_
      refine st155 _ ?_
      show Steps p.tables e below (T155.setTop (mkF m 111 #[.val (.long i0), .second, .val (.long i1), .second, .val (.long i2), .second, .val (.long i3), .second, .val (.int i4), .val (.int (2 : Int32)), .val (.ref b138), .val (.ref A153), .unset, .unset, .unset, .unset, .unset, .unset] [(.long (own_mn i0 i1))])) _
      refine XS.lstore X155.here hx rfl (hb hby at_111) rfl (l' := #[.val (.long i0), .second, .val (.long i1), .second, .val (.long i2), .second, .val (.long i3), .second, .val (.int i4), .val (.int (2 : Int32)), .val (.ref b138), .val (.ref A153), .val (.long (own_mn i0 i1)), .second, .unset, .unset, .unset, .unset]) rfl ?_
      refine XS.lloadN X155.here hx rfl (hb hby at_113) rfl ?_
      refine XS.lloadN X155.here hx rfl (hb hby at_114) rfl ?_
      refine st156 _ ?_
      refine XS.lstore X156.here hx rfl (hb hby at_118) rfl (l' := #[.val (.long i0), .second, .val (.long i1), .second, .val (.long i2), .second, .val (.long i3), .second, .val (.int i4), .val (.int (2 : Int32)), .val (.ref b138), .val (.ref A153), .val (.long (own_mn i0 i1)), .second, .val (.long (own_mx i0 i1)), .second, .unset, .unset]) rfl ?_
      show Steps p.tables e below (T156.setTop (mkF m 120 #[.val (.long i0), .second, .val (.long i1), .second, .val (.long i2), .second, .val (.long i3), .second, .val (.int i4), .val (.int (2 : Int32)), .val (.ref b138), .val (.ref A153), .val (.long (own_mn i0 i1)), .second, .val (.long (own_mx i0 i1)), .second, .unset, .unset] [])) _
      refine XS.aload X156.here hx rfl (hb hby at_120) rfl rfl ?_
      refine XS.iconst X156.here hx rfl (hb hby at_122) ?_
      refine XS.lload X156.here hx rfl (hb hby at_123) rfl ?_
      refine XS.lload X156.here hx rfl (hb hby at_125) rfl ?_
      refine st157 _ ?_
      show Steps p.tables e below (T157.setTop (mkF m 130 #[.val (.long i0), .second, .val (.long i1), .second, .val (.long i2), .second, .val (.long i3), .second, .val (.int i4), .val (.int (2 : Int32)), .val (.ref b138), .val (.ref A153), .val (.long (own_mn i0 i1)), .second, .val (.long (own_mx i0 i1)), .second, .unset, .unset] [(.int (1 : Int32))])) _
      refine XS.ifNo X157.here hx rfl (hb hby at_130) rfl (by decide) ?_
      refine XS.aload X157.here hx rfl (hb hby at_133) rfl rfl ?_
      refine XS.iconst X157.here hx rfl (hb hby at_135) ?_
      refine XS.lload X157.here hx rfl (hb hby at_136) rfl ?_
      refine XS.lload X157.here hx rfl (hb hby at_138) rfl ?_
      show Steps p.tables e below (T157.setTop (mkF m 140 #[.val (.long i0), .second, .val (.long i1), .second, .val (.long i2), .second, .val (.long i3), .second, .val (.int i4), .val (.int (2 : Int32)), .val (.ref b138), .val (.ref A153), .val (.long (own_mn i0 i1)), .second, .val (.long (own_mx i0 i1)), .second, .unset, .unset] [(.long i3), (.long (own_mx i0 i1)), (.int (1 : Int32)), (.ref A153)])) _
      refine st158 _ ?_
      show Steps p.tables e below (T158.setTop (mkF m 143 #[.val (.long i0), .second, .val (.long i1), .second, .val (.long i2), .second, .val (.long i3), .second, .val (.int i4), .val (.int (2 : Int32)), .val (.ref b138), .val (.ref A153), .val (.long (own_mn i0 i1)), .second, .val (.long (own_mx i0 i1)), .second, .unset, .unset] [(.int (1 : Int32))])) _
      refine XS.ifNo X158.here hx rfl (hb hby at_143) rfl (by decide) ?_
      refine XS.iconst X158.here hx rfl (hb hby at_146) ?_
      refine XS.goto X158.here hx rfl (pc0 := 147) (pc' := 151) rfl (hb hby at_147) (by decide) (by decide) ?_
      show Steps p.tables e below (T158.setTop (mkF m 151 #[.val (.long i0), .second, .val (.long i1), .second, .val (.long i2), .second, .val (.long i3), .second, .val (.int i4), .val (.int (2 : Int32)), .val (.ref b138), .val (.ref A153), .val (.long (own_mn i0 i1)), .second, .val (.long (own_mx i0 i1)), .second, .unset, .unset] [(.int (1 : Int32))])) _
      exact retN X158 hx (t := .boolean) Bd.returns (by simp) (hb hby at_151) hr
    · show QL n0 _ T158.heap _
      rw [hh158]
      exact ⟨rfl, N158⟩
  · skip
    obtain ⟨T159, h159, k159, X159, e159, E159, A159, st159⟩ := newP X0 hx hZ (hw _ (List.mem_of_getElem? (i := 0) rfl)) e0 (g := (mkF m 8 #[.val (.long i0), .second, .val (.long i1), .second, .val (.long i2), .second, .val (.long i3), .second, .val (.int i4), .val (.int (3 : Int32)), .unset, .unset, .unset, .unset, .unset, .unset, .unset, .unset] [(.int (6 : Int32))])) rfl (hb hby at_8) rfl (by decide) (cap := 6) (by decide) (by decide) (by decide) (by decide)
    obtain ⟨b159, g159⟩ : ∃ z, z = h0.size := ⟨_, rfl⟩
    rw [← g159] at A159 st159
    have gb159 : n0 ≤ b159 := by rw [g159, ← O0.1]; exact O0.2.1
    have V159 : Arv Z h159 b159 k159 .long (6 : Int32) [(.long (0 : Int64)), (.long (0 : Int64)), (.long (0 : Int64)), (.long (0 : Int64)), (.long (0 : Int64)), (.long (0 : Int64))] (.long (0 : Int64)) := (Arv.new A159 (by decide)).pad (pad_rep [] (.long (0 : Int64)) 6)
    obtain ⟨cl160, Ar160, q160, S160, N160_, H160, G160⟩ := id V159
    have hin160 : ¬ ((0 : Int32) < 0 ∨ cl160.slots.size ≤ ((0 : Int32)).toNatClampNeg) := inb_of S160 ⟨by decide, by decide⟩
    obtain ⟨T161, h161, X161, e161, W161, st161⟩ := stJ X159 hx hZ e159 Ar160 (j := (0 : Int32)) hin160 (g := (mkF m 16 #[.val (.long i0), .second, .val (.long i1), .second, .val (.long i2), .second, .val (.long i3), .second, .val (.int i4), .val (.int (3 : Int32)), .val (.ref b159), .unset, .unset, .unset, .unset, .unset, .unset, .unset] [(.long i0), (.int (0 : Int32)), (.ref b159)])) rfl rfl (hb hby at_16)
    have V161 : Arv Z h161 b159 k159 .long (6 : Int32) [(.long i0), (.long (0 : Int64)), (.long (0 : Int64)), (.long (0 : Int64)), (.long (0 : Int64)), (.long (0 : Int64))] (.long (0 : Int64)) := Arv.set Ar160 q160 S160 N160_ H160 G160 rfl W161 0 rfl (Nat.le_of_ble_eq_true rfl)
    have N161 := Fr.snoc X161 N0 gb159
    obtain ⟨cl162, Ar162, q162, S162, N162_, H162, G162⟩ := id V161
    have hin162 : ¬ ((1 : Int32) < 0 ∨ cl162.slots.size ≤ ((1 : Int32)).toNatClampNeg) := inb_of S162 ⟨by decide, by decide⟩
    obtain ⟨T163, h163, X163, e163, W163, st163⟩ := stJ X161 hx hZ e161 Ar162 (j := (1 : Int32)) hin162 (g := (mkF m 24 #[.val (.long i0), .second, .val (.long i1), .second, .val (.long i2), .second, .val (.long i3), .second, .val (.int i4), .val (.int (3 : Int32)), .val (.ref b159), .unset, .unset, .unset, .unset, .unset, .unset, .unset] [(.long (i0 ^^^ i3)), (.int (1 : Int32)), (.ref b159)])) rfl rfl (hb hby at_24)
    have V163 : Arv Z h163 b159 k159 .long (6 : Int32) [(.long i0), (.long (i0 ^^^ i3)), (.long (0 : Int64)), (.long (0 : Int64)), (.long (0 : Int64)), (.long (0 : Int64))] (.long (0 : Int64)) := Arv.set Ar162 q162 S162 N162_ H162 G162 rfl W163 1 rfl (Nat.le_of_ble_eq_true rfl)
    have N163 := Fr.snoc X163 N161 gb159
    obtain ⟨cl164, Ar164, q164, S164, N164_, H164, G164⟩ := id V163
    have hin164 : ¬ ((2 : Int32) < 0 ∨ cl164.slots.size ≤ ((2 : Int32)).toNatClampNeg) := inb_of S164 ⟨by decide, by decide⟩
    obtain ⟨T165, h165, X165, e165, W165, st165⟩ := stJ X163 hx hZ e163 Ar164 (j := (2 : Int32)) hin164 (g := (mkF m 29 #[.val (.long i0), .second, .val (.long i1), .second, .val (.long i2), .second, .val (.long i3), .second, .val (.int i4), .val (.int (3 : Int32)), .val (.ref b159), .unset, .unset, .unset, .unset, .unset, .unset, .unset] [(.long i1), (.int (2 : Int32)), (.ref b159)])) rfl rfl (hb hby at_29)
    have V165 : Arv Z h165 b159 k159 .long (6 : Int32) [(.long i0), (.long (i0 ^^^ i3)), (.long i1), (.long (0 : Int64)), (.long (0 : Int64)), (.long (0 : Int64))] (.long (0 : Int64)) := Arv.set Ar164 q164 S164 N164_ H164 G164 rfl W165 2 rfl (Nat.le_of_ble_eq_true rfl)
    have N165 := Fr.snoc X165 N163 gb159
    obtain ⟨cl166, Ar166, q166, S166, N166_, H166, G166⟩ := id V165
    have hin166 : ¬ ((3 : Int32) < 0 ∨ cl166.slots.size ≤ ((3 : Int32)).toNatClampNeg) := inb_of S166 ⟨by decide, by decide⟩
    obtain ⟨T167, h167, X167, e167, W167, st167⟩ := stJ X165 hx hZ e165 Ar166 (j := (3 : Int32)) hin166 (g := (mkF m 37 #[.val (.long i0), .second, .val (.long i1), .second, .val (.long i2), .second, .val (.long i3), .second, .val (.int i4), .val (.int (3 : Int32)), .val (.ref b159), .unset, .unset, .unset, .unset, .unset, .unset, .unset] [(.long (i1 ^^^ i3)), (.int (3 : Int32)), (.ref b159)])) rfl rfl (hb hby at_37)
    have V167 : Arv Z h167 b159 k159 .long (6 : Int32) [(.long i0), (.long (i0 ^^^ i3)), (.long i1), (.long (i1 ^^^ i3)), (.long (0 : Int64)), (.long (0 : Int64))] (.long (0 : Int64)) := Arv.set Ar166 q166 S166 N166_ H166 G166 rfl W167 3 rfl (Nat.le_of_ble_eq_true rfl)
    have N167 := Fr.snoc X167 N165 gb159
    obtain ⟨cl168, Ar168, q168, S168, N168_, H168, G168⟩ := id V167
    have hin168 : ¬ ((4 : Int32) < 0 ∨ cl168.slots.size ≤ ((4 : Int32)).toNatClampNeg) := inb_of S168 ⟨by decide, by decide⟩
    obtain ⟨T169, h169, X169, e169, W169, st169⟩ := stJ X167 hx hZ e167 Ar168 (j := (4 : Int32)) hin168 (g := (mkF m 43 #[.val (.long i0), .second, .val (.long i1), .second, .val (.long i2), .second, .val (.long i3), .second, .val (.int i4), .val (.int (3 : Int32)), .val (.ref b159), .unset, .unset, .unset, .unset, .unset, .unset, .unset] [(.long i2), (.int (4 : Int32)), (.ref b159)])) rfl rfl (hb hby at_43)
    have V169 : Arv Z h169 b159 k159 .long (6 : Int32) [(.long i0), (.long (i0 ^^^ i3)), (.long i1), (.long (i1 ^^^ i3)), (.long i2), (.long (0 : Int64))] (.long (0 : Int64)) := Arv.set Ar168 q168 S168 N168_ H168 G168 rfl W169 4 rfl (Nat.le_of_ble_eq_true rfl)
    have N169 := Fr.snoc X169 N167 gb159
    obtain ⟨cl170, Ar170, q170, S170, N170_, H170, G170⟩ := id V169
    have hin170 : ¬ ((5 : Int32) < 0 ∨ cl170.slots.size ≤ ((5 : Int32)).toNatClampNeg) := inb_of S170 ⟨by decide, by decide⟩
    obtain ⟨T171, h171, X171, e171, W171, st171⟩ := stJ X169 hx hZ e169 Ar170 (j := (5 : Int32)) hin170 (g := (mkF m 52 #[.val (.long i0), .second, .val (.long i1), .second, .val (.long i2), .second, .val (.long i3), .second, .val (.int i4), .val (.int (3 : Int32)), .val (.ref b159), .unset, .unset, .unset, .unset, .unset, .unset, .unset] [(.long (i2 ^^^ i3)), (.int (5 : Int32)), (.ref b159)])) rfl rfl (hb hby at_52)
    have V171 : Arv Z h171 b159 k159 .long (6 : Int32) [(.long i0), (.long (i0 ^^^ i3)), (.long i1), (.long (i1 ^^^ i3)), (.long i2), (.long (i2 ^^^ i3))] (.long (0 : Int64)) := Arv.set Ar170 q170 S170 N170_ H170 G170 rfl W171 5 rfl (Nat.le_of_ble_eq_true rfl)
    have N171 := Fr.snoc X171 N169 gb159
    have Lq172 := Lv.of6 V171
    have O173 : Old Z n0 h171 := (((((((O0.ext E159).wr W161 gb159).wr W163 gb159).wr W165 gb159).wr W167 gb159).wr W169 gb159).wr W171 gb159)
    obtain ⟨_, _, ⟨T174, L174, k174, n174⟩, -, X174, ⟨Lc174, hQ174, l174, y174, z174⟩, st174⟩ := Jvm.LawKit.callS X171 hx (y := (⟨"com/example/keyfold/keyfold/SortedRows", "sort", "([JI)[J"⟩ : MethodName)) hown (mvT hZ (hw _ (List.mem_of_getElem? (i := 1) rfl))) (mvT hZ (hw _ (List.mem_of_getElem? (i := 2) rfl))) (mvT hZ (hw _ (List.mem_of_getElem? (i := 3) rfl))) (mvT hZ (hw _ (List.mem_of_getElem? (i := 4) rfl))) (by decide) (backOf (W := 0) (rmS3 l Z a0 hw [] b159 (own_f6 i0 (i0 ^^^ i3) i1 (i1 ^^^ i3) i2 (i2 ^^^ i3)) i0 i1 i2 i3 h171 n0 O173 Lq172 gb159 rfl rfl rfl rfl rfl rfl) hZ (hw _ (List.mem_of_getElem? (i := 4) rfl)) (hw _ (List.mem_of_getElem? (i := 3) rfl)) (by decide) (by decide)) (g := (mkF m 57 #[.val (.long i0), .second, .val (.long i1), .second, .val (.long i2), .second, .val (.long i3), .second, .val (.int i4), .val (.int (3 : Int32)), .val (.ref b159), .unset, .unset, .unset, .unset, .unset, .unset, .unset] [(.int (3 : Int32)), (.ref b159)])) rfl (by rw [hml]; rfl) (argsL := [(.ref b159), (.int (3 : Int32))]) (rest := []) (lenOf pd_0 rfl) rfl (by show 2 * 0 + _ ≤ _; exact Nat.le_of_eq rfl) (hb hby at_57) (fun _ _ => ⟨rfl, e171, (by decide : 1 + 11 ≤ _), (by decide : 6 + 2070 ≤ _)⟩)
    dsimp only [Pt.U, Pt.locs, Pt.cells, Pt.slots] at X174 l174 y174 z174 st174 hQ174
    subst l174 y174 z174
    obtain ⟨A174, f174, rfl, N174q, O174, La174, ph174⟩ := hQ174
    have N174 := Fr.app N171 N174q
    obtain ⟨cl175, Ar175, S175, -⟩ := id La174
    obtain ⟨_, _, ⟨T176, L176, k176, n176⟩, -, X176, ⟨Lc176, hQ176, l176, y176, z176⟩, st176⟩ := Jvm.LawKit.callS X174 hx (y := (⟨"java/lang/Math", "min", "(JJ)J"⟩ : MethodName)) hown (mvT hZ (hw _ (List.mem_of_getElem? (i := 10) rfl))) (mvT hZ (hw _ (List.mem_of_getElem? (i := 11) rfl))) (mvT hZ (hw _ (List.mem_of_getElem? (i := 12) rfl))) (mvT hZ (hw _ (List.mem_of_getElem? (i := 13) rfl))) (by decide) (backOf (W := 0) (rmMn l Z a0 hw [] i0 i1 T174.heap n0 O174) hZ (hw _ (List.mem_of_getElem? (i := 13) rfl)) (hw _ (List.mem_of_getElem? (i := 12) rfl)) (by decide) (by decide)) (g := (mkF m 154 #[.val (.long i0), .second, .val (.long i1), .second, .val (.long i2), .second, .val (.long i3), .second, .val (.int i4), .val (.int (3 : Int32)), .val (.ref b159), .val (.ref A174), .unset, .unset, .unset, .unset, .unset, .unset] [(.long i1), (.long i0)])) rfl (by rw [hml]; rfl) (argsL := [(.long i0), (.long i1)]) (rest := []) (lenOf pd_2 rfl) rfl (by show 2 * 0 + _ ≤ _; exact Nat.le_of_eq rfl) (hb hby at_154) (fun _ _ => ⟨rfl, rfl, (by decide : 12 + 0 ≤ _), (by decide : 2076 + 0 ≤ _)⟩)
    dsimp only [Pt.U, Pt.locs, Pt.cells, Pt.slots] at X176 l176 y176 z176 st176 hQ176
    subst l176 y176 z176
    obtain ⟨rfl, N176q, hh176⟩ := hQ176
    have N176 := Fr.app N174 N176q
    obtain ⟨_, _, ⟨T177, L177, k177, n177⟩, -, X177, ⟨Lc177, hQ177, l177, y177, z177⟩, st177⟩ := Jvm.LawKit.callS X176 hx (y := (⟨"java/lang/Math", "min", "(JJ)J"⟩ : MethodName)) hown (mvT hZ (hw _ (List.mem_of_getElem? (i := 10) rfl))) (mvT hZ (hw _ (List.mem_of_getElem? (i := 11) rfl))) (mvT hZ (hw _ (List.mem_of_getElem? (i := 12) rfl))) (mvT hZ (hw _ (List.mem_of_getElem? (i := 13) rfl))) (by decide) (backOf (W := 0) (rmMn l Z a0 hw [] (own_mn i0 i1) i2 T174.heap n0 O174) hZ (hw _ (List.mem_of_getElem? (i := 13) rfl)) (hw _ (List.mem_of_getElem? (i := 12) rfl)) (by decide) (by decide)) (g := (mkF m 159 #[.val (.long i0), .second, .val (.long i1), .second, .val (.long i2), .second, .val (.long i3), .second, .val (.int i4), .val (.int (3 : Int32)), .val (.ref b159), .val (.ref A174), .unset, .unset, .unset, .unset, .unset, .unset] [(.long i2), (.long (own_mn i0 i1))])) rfl (by rw [hml]; rfl) (argsL := [(.long (own_mn i0 i1)), (.long i2)]) (rest := []) (lenOf pd_2 rfl) rfl (by show 2 * 0 + _ ≤ _; exact Nat.le_of_eq rfl) (hb hby at_159) (fun _ _ => ⟨rfl, hh176, (by decide : 12 + 0 ≤ _), (by decide : 2076 + 0 ≤ _)⟩)
    dsimp only [Pt.U, Pt.locs, Pt.cells, Pt.slots] at X177 l177 y177 z177 st177 hQ177
    subst l177 y177 z177
    obtain ⟨rfl, N177q, hh177⟩ := hQ177
    have N177 := Fr.app N176 N177q
    obtain ⟨_, _, ⟨T178, L178, k178, n178⟩, -, X178, ⟨Lc178, hQ178, l178, y178, z178⟩, st178⟩ := Jvm.LawKit.callS X177 hx (y := (⟨"java/lang/Math", "max", "(JJ)J"⟩ : MethodName)) hown (mvT hZ (hw _ (List.mem_of_getElem? (i := 14) rfl))) (mvT hZ (hw _ (List.mem_of_getElem? (i := 15) rfl))) (mvT hZ (hw _ (List.mem_of_getElem? (i := 12) rfl))) (mvT hZ (hw _ (List.mem_of_getElem? (i := 16) rfl))) (by decide) (backOf (W := 0) (rmMx l Z a0 hw [] i0 i1 T174.heap n0 O174) hZ (hw _ (List.mem_of_getElem? (i := 16) rfl)) (hw _ (List.mem_of_getElem? (i := 12) rfl)) (by decide) (by decide)) (g := (mkF m 166 #[.val (.long i0), .second, .val (.long i1), .second, .val (.long i2), .second, .val (.long i3), .second, .val (.int i4), .val (.int (3 : Int32)), .val (.ref b159), .val (.ref A174), .val (.long (own_mn (own_mn i0 i1) i2)), .second, .unset, .unset, .unset, .unset] [(.long i1), (.long i0)])) rfl (by rw [hml]; rfl) (argsL := [(.long i0), (.long i1)]) (rest := []) (lenOf pd_2 rfl) rfl (by show 2 * 0 + _ ≤ _; exact Nat.le_of_eq rfl) (hb hby at_166) (fun _ _ => ⟨rfl, hh177, (by decide : 12 + 0 ≤ _), (by decide : 2076 + 0 ≤ _)⟩)
    dsimp only [Pt.U, Pt.locs, Pt.cells, Pt.slots] at X178 l178 y178 z178 st178 hQ178
    subst l178 y178 z178
    obtain ⟨rfl, N178q, hh178⟩ := hQ178
    have N178 := Fr.app N177 N178q
    obtain ⟨_, _, ⟨T179, L179, k179, n179⟩, -, X179, ⟨Lc179, hQ179, l179, y179, z179⟩, st179⟩ := Jvm.LawKit.callS X178 hx (y := (⟨"java/lang/Math", "max", "(JJ)J"⟩ : MethodName)) hown (mvT hZ (hw _ (List.mem_of_getElem? (i := 14) rfl))) (mvT hZ (hw _ (List.mem_of_getElem? (i := 15) rfl))) (mvT hZ (hw _ (List.mem_of_getElem? (i := 12) rfl))) (mvT hZ (hw _ (List.mem_of_getElem? (i := 16) rfl))) (by decide) (backOf (W := 0) (rmMx l Z a0 hw [] (own_mx i0 i1) i2 T174.heap n0 O174) hZ (hw _ (List.mem_of_getElem? (i := 16) rfl)) (hw _ (List.mem_of_getElem? (i := 12) rfl)) (by decide) (by decide)) (g := (mkF m 171 #[.val (.long i0), .second, .val (.long i1), .second, .val (.long i2), .second, .val (.long i3), .second, .val (.int i4), .val (.int (3 : Int32)), .val (.ref b159), .val (.ref A174), .val (.long (own_mn (own_mn i0 i1) i2)), .second, .unset, .unset, .unset, .unset] [(.long i2), (.long (own_mx i0 i1))])) rfl (by rw [hml]; rfl) (argsL := [(.long (own_mx i0 i1)), (.long i2)]) (rest := []) (lenOf pd_2 rfl) rfl (by show 2 * 0 + _ ≤ _; exact Nat.le_of_eq rfl) (hb hby at_171) (fun _ _ => ⟨rfl, hh178, (by decide : 12 + 0 ≤ _), (by decide : 2076 + 0 ≤ _)⟩)
    dsimp only [Pt.U, Pt.locs, Pt.cells, Pt.slots] at X179 l179 y179 z179 st179 hQ179
    subst l179 y179 z179
    obtain ⟨rfl, N179q, hh179⟩ := hQ179
    have N179 := Fr.app N178 N179q
    obtain ⟨_, _, ⟨T180, L180, k180, n180⟩, -, X180, ⟨Lc180, hQ180, l180, y180, z180⟩, st180⟩ := Jvm.LawKit.callS X179 hx (y := (⟨"java/lang/Math", "min", "(JJ)J"⟩ : MethodName)) hown (mvT hZ (hw _ (List.mem_of_getElem? (i := 10) rfl))) (mvT hZ (hw _ (List.mem_of_getElem? (i := 11) rfl))) (mvT hZ (hw _ (List.mem_of_getElem? (i := 12) rfl))) (mvT hZ (hw _ (List.mem_of_getElem? (i := 13) rfl))) (by decide) (backOf (W := 0) (rmMn l Z a0 hw [] i0 i1 T174.heap n0 O174) hZ (hw _ (List.mem_of_getElem? (i := 13) rfl)) (hw _ (List.mem_of_getElem? (i := 12) rfl)) (by decide) (by decide)) (g := (mkF m 178 #[.val (.long i0), .second, .val (.long i1), .second, .val (.long i2), .second, .val (.long i3), .second, .val (.int i4), .val (.int (3 : Int32)), .val (.ref b159), .val (.ref A174), .val (.long (own_mn (own_mn i0 i1) i2)), .second, .val (.long (own_mx (own_mx i0 i1) i2)), .second, .unset, .unset] [(.long i1), (.long i0)])) rfl (by rw [hml]; rfl) (argsL := [(.long i0), (.long i1)]) (rest := []) (lenOf pd_2 rfl) rfl (by show 2 * 0 + _ ≤ _; exact Nat.le_of_eq rfl) (hb hby at_178) (fun _ _ => ⟨rfl, hh179, (by decide : 12 + 0 ≤ _), (by decide : 2076 + 0 ≤ _)⟩)
    dsimp only [Pt.U, Pt.locs, Pt.cells, Pt.slots] at X180 l180 y180 z180 st180 hQ180
    subst l180 y180 z180
    obtain ⟨rfl, N180q, hh180⟩ := hQ180
    have N180 := Fr.app N179 N180q
    obtain ⟨_, _, ⟨T181, L181, k181, n181⟩, -, X181, ⟨Lc181, hQ181, l181, y181, z181⟩, st181⟩ := Jvm.LawKit.callS X180 hx (y := (⟨"java/lang/Math", "max", "(JJ)J"⟩ : MethodName)) hown (mvT hZ (hw _ (List.mem_of_getElem? (i := 14) rfl))) (mvT hZ (hw _ (List.mem_of_getElem? (i := 15) rfl))) (mvT hZ (hw _ (List.mem_of_getElem? (i := 12) rfl))) (mvT hZ (hw _ (List.mem_of_getElem? (i := 16) rfl))) (by decide) (backOf (W := 2) (rmMx l Z a0 hw [] i0 i1 T174.heap n0 O174) hZ (hw _ (List.mem_of_getElem? (i := 16) rfl)) (hw _ (List.mem_of_getElem? (i := 12) rfl)) (by decide) (by decide)) (g := (mkF m 183 #[.val (.long i0), .second, .val (.long i1), .second, .val (.long i2), .second, .val (.long i3), .second, .val (.int i4), .val (.int (3 : Int32)), .val (.ref b159), .val (.ref A174), .val (.long (own_mn (own_mn i0 i1) i2)), .second, .val (.long (own_mx (own_mx i0 i1) i2)), .second, .unset, .unset] [(.long i1), (.long i0), (.long (own_mn i0 i1))])) rfl (by rw [hml]; rfl) (argsL := [(.long i0), (.long i1)]) (rest := [(.long (own_mn i0 i1))]) (lenOf pd_2 rfl) rfl (by show 2 * 0 + _ ≤ _; exact Nat.le_of_eq rfl) (hb hby at_183) (fun _ _ => ⟨rfl, hh180, (by decide : 12 + 0 ≤ _), (by decide : 2076 + 0 ≤ _)⟩)
    dsimp only [Pt.U, Pt.locs, Pt.cells, Pt.slots] at X181 l181 y181 z181 st181 hQ181
    subst l181 y181 z181
    obtain ⟨rfl, N181q, hh181⟩ := hQ181
    have N181 := Fr.app N180 N181q
    obtain ⟨_, _, ⟨T182, L182, k182, n182⟩, -, X182, ⟨Lc182, hQ182, l182, y182, z182⟩, st182⟩ := Jvm.LawKit.callS X181 hx (y := (⟨"java/lang/Math", "min", "(JJ)J"⟩ : MethodName)) hown (mvT hZ (hw _ (List.mem_of_getElem? (i := 10) rfl))) (mvT hZ (hw _ (List.mem_of_getElem? (i := 11) rfl))) (mvT hZ (hw _ (List.mem_of_getElem? (i := 12) rfl))) (mvT hZ (hw _ (List.mem_of_getElem? (i := 13) rfl))) (by decide) (backOf (W := 2) (rmMn l Z a0 hw [] (own_mx i0 i1) i2 T174.heap n0 O174) hZ (hw _ (List.mem_of_getElem? (i := 13) rfl)) (hw _ (List.mem_of_getElem? (i := 12) rfl)) (by decide) (by decide)) (g := (mkF m 188 #[.val (.long i0), .second, .val (.long i1), .second, .val (.long i2), .second, .val (.long i3), .second, .val (.int i4), .val (.int (3 : Int32)), .val (.ref b159), .val (.ref A174), .val (.long (own_mn (own_mn i0 i1) i2)), .second, .val (.long (own_mx (own_mx i0 i1) i2)), .second, .unset, .unset] [(.long i2), (.long (own_mx i0 i1)), (.long (own_mn i0 i1))])) rfl (by rw [hml]; rfl) (argsL := [(.long (own_mx i0 i1)), (.long i2)]) (rest := [(.long (own_mn i0 i1))]) (lenOf pd_2 rfl) rfl (by show 2 * 0 + _ ≤ _; exact Nat.le_of_eq rfl) (hb hby at_188) (fun _ _ => ⟨rfl, hh181, (by decide : 12 + 0 ≤ _), (by decide : 2076 + 0 ≤ _)⟩)
    dsimp only [Pt.U, Pt.locs, Pt.cells, Pt.slots] at X182 l182 y182 z182 st182 hQ182
    subst l182 y182 z182
    obtain ⟨rfl, N182q, hh182⟩ := hQ182
    have N182 := Fr.app N181 N182q
    obtain ⟨_, _, ⟨T183, L183, k183, n183⟩, -, X183, ⟨Lc183, hQ183, l183, y183, z183⟩, st183⟩ := Jvm.LawKit.callS X182 hx (y := (⟨"java/lang/Math", "max", "(JJ)J"⟩ : MethodName)) hown (mvT hZ (hw _ (List.mem_of_getElem? (i := 14) rfl))) (mvT hZ (hw _ (List.mem_of_getElem? (i := 15) rfl))) (mvT hZ (hw _ (List.mem_of_getElem? (i := 12) rfl))) (mvT hZ (hw _ (List.mem_of_getElem? (i := 16) rfl))) (by decide) (backOf (W := 0) (rmMx l Z a0 hw [] (own_mn i0 i1) (own_mn (own_mx i0 i1) i2) T174.heap n0 O174) hZ (hw _ (List.mem_of_getElem? (i := 16) rfl)) (hw _ (List.mem_of_getElem? (i := 12) rfl)) (by decide) (by decide)) (g := (mkF m 191 #[.val (.long i0), .second, .val (.long i1), .second, .val (.long i2), .second, .val (.long i3), .second, .val (.int i4), .val (.int (3 : Int32)), .val (.ref b159), .val (.ref A174), .val (.long (own_mn (own_mn i0 i1) i2)), .second, .val (.long (own_mx (own_mx i0 i1) i2)), .second, .unset, .unset] [(.long (own_mn (own_mx i0 i1) i2)), (.long (own_mn i0 i1))])) rfl (by rw [hml]; rfl) (argsL := [(.long (own_mn i0 i1)), (.long (own_mn (own_mx i0 i1) i2))]) (rest := []) (lenOf pd_2 rfl) rfl (by show 2 * 0 + _ ≤ _; exact Nat.le_of_eq rfl) (hb hby at_191) (fun _ _ => ⟨rfl, hh182, (by decide : 12 + 0 ≤ _), (by decide : 2076 + 0 ≤ _)⟩)
    dsimp only [Pt.U, Pt.locs, Pt.cells, Pt.slots] at X183 l183 y183 z183 st183 hQ183
    subst l183 y183 z183
    obtain ⟨rfl, N183q, hh183⟩ := hQ183
    have N183 := Fr.app N182 N183q
    obtain ⟨_, _, ⟨T184, L184, k184, n184⟩, -, X184, ⟨Lc184, hQ184, l184, y184, z184⟩, st184⟩ := Jvm.LawKit.callS X183 hx (y := (⟨"com/example/keyfold/keyfold/SortedRowsSortPinLaw", "pairOk", "([JIJJ)Z"⟩ : MethodName)) hown (mvT hZ (hw _ (List.mem_of_getElem? (i := 17) rfl))) (mvT hZ (hw _ (List.mem_of_getElem? (i := 18) rfl))) (mvT hZ (hw _ (List.mem_of_getElem? (i := 19) rfl))) (mvT hZ (hw _ (List.mem_of_getElem? (i := 20) rfl))) (by decide) (backOf (W := 0) (rmPk0 l Z a0 hw [] A174 f174 (own_mn (own_mn i0 i1) i2) i3 T174.heap n0 O174 La174 (Ok3.done ph174).1 (Ok3.done ph174).2.1) hZ (hw _ (List.mem_of_getElem? (i := 20) rfl)) (hw _ (List.mem_of_getElem? (i := 19) rfl)) (by decide) (by decide)) (g := (mkF m 203 #[.val (.long i0), .second, .val (.long i1), .second, .val (.long i2), .second, .val (.long i3), .second, .val (.int i4), .val (.int (3 : Int32)), .val (.ref b159), .val (.ref A174), .val (.long (own_mn (own_mn i0 i1) i2)), .second, .val (.long (own_mx (own_mx i0 i1) i2)), .second, .val (.long (own_mx (own_mn i0 i1) (own_mn (own_mx i0 i1) i2))), .second] [(.long i3), (.long (own_mn (own_mn i0 i1) i2)), (.int (0 : Int32)), (.ref A174)])) rfl (by rw [hml]; rfl) (argsL := [(.ref A174), (.int (0 : Int32)), (.long (own_mn (own_mn i0 i1) i2)), (.long i3)]) (rest := []) (lenOf pd_1 rfl) rfl (by show 2 * 0 + _ ≤ _; exact Nat.le_of_eq rfl) (hb hby at_203) (fun _ _ => ⟨rfl, hh183, (by decide : 12 + 0 ≤ _), (by decide : 2076 + 0 ≤ _)⟩)
    dsimp only [Pt.U, Pt.locs, Pt.cells, Pt.slots] at X184 l184 y184 z184 st184 hQ184
    subst l184 y184 z184
    obtain ⟨rfl, N184q, hh184⟩ := hQ184
    have N184 := Fr.app N183 N184q
    obtain ⟨_, _, ⟨T185, L185, k185, n185⟩, -, X185, ⟨Lc185, hQ185, l185, y185, z185⟩, st185⟩ := Jvm.LawKit.callS X184 hx (y := (⟨"com/example/keyfold/keyfold/SortedRowsSortPinLaw", "pairOk", "([JIJJ)Z"⟩ : MethodName)) hown (mvT hZ (hw _ (List.mem_of_getElem? (i := 17) rfl))) (mvT hZ (hw _ (List.mem_of_getElem? (i := 18) rfl))) (mvT hZ (hw _ (List.mem_of_getElem? (i := 19) rfl))) (mvT hZ (hw _ (List.mem_of_getElem? (i := 20) rfl))) (by decide) (backOf (W := 0) (rmPk1 l Z a0 hw [] A174 f174 (own_mx (own_mn i0 i1) (own_mn (own_mx i0 i1) i2)) i3 T174.heap n0 O174 La174 (Ok3.done ph174).2.2.1 (Ok3.done ph174).2.2.2.1) hZ (hw _ (List.mem_of_getElem? (i := 20) rfl)) (hw _ (List.mem_of_getElem? (i := 19) rfl)) (by decide) (by decide)) (g := (mkF m 216 #[.val (.long i0), .second, .val (.long i1), .second, .val (.long i2), .second, .val (.long i3), .second, .val (.int i4), .val (.int (3 : Int32)), .val (.ref b159), .val (.ref A174), .val (.long (own_mn (own_mn i0 i1) i2)), .second, .val (.long (own_mx (own_mx i0 i1) i2)), .second, .val (.long (own_mx (own_mn i0 i1) (own_mn (own_mx i0 i1) i2))), .second] [(.long i3), (.long (own_mx (own_mn i0 i1) (own_mn (own_mx i0 i1) i2))), (.int (1 : Int32)), (.ref A174)])) rfl (by rw [hml]; rfl) (argsL := [(.ref A174), (.int (1 : Int32)), (.long (own_mx (own_mn i0 i1) (own_mn (own_mx i0 i1) i2))), (.long i3)]) (rest := []) (lenOf pd_1 rfl) rfl (by show 2 * 0 + _ ≤ _; exact Nat.le_of_eq rfl) (hb hby at_216) (fun _ _ => ⟨rfl, hh184, (by decide : 12 + 0 ≤ _), (by decide : 2076 + 0 ≤ _)⟩)
    dsimp only [Pt.U, Pt.locs, Pt.cells, Pt.slots] at X185 l185 y185 z185 st185 hQ185
    subst l185 y185 z185
    obtain ⟨rfl, N185q, hh185⟩ := hQ185
    have N185 := Fr.app N184 N185q
    obtain ⟨_, _, ⟨T186, L186, k186, n186⟩, -, X186, ⟨Lc186, hQ186, l186, y186, z186⟩, st186⟩ := Jvm.LawKit.callS X185 hx (y := (⟨"com/example/keyfold/keyfold/SortedRowsSortPinLaw", "pairOk", "([JIJJ)Z"⟩ : MethodName)) hown (mvT hZ (hw _ (List.mem_of_getElem? (i := 17) rfl))) (mvT hZ (hw _ (List.mem_of_getElem? (i := 18) rfl))) (mvT hZ (hw _ (List.mem_of_getElem? (i := 19) rfl))) (mvT hZ (hw _ (List.mem_of_getElem? (i := 20) rfl))) (by decide) (backOf (W := 0) (rmPk2 l Z a0 hw [] A174 f174 (own_mx (own_mx i0 i1) i2) i3 T174.heap n0 O174 La174 (Ok3.done ph174).2.2.2.2.1 (Ok3.done ph174).2.2.2.2.2) hZ (hw _ (List.mem_of_getElem? (i := 20) rfl)) (hw _ (List.mem_of_getElem? (i := 19) rfl)) (by decide) (by decide)) (g := (mkF m 229 #[.val (.long i0), .second, .val (.long i1), .second, .val (.long i2), .second, .val (.long i3), .second, .val (.int i4), .val (.int (3 : Int32)), .val (.ref b159), .val (.ref A174), .val (.long (own_mn (own_mn i0 i1) i2)), .second, .val (.long (own_mx (own_mx i0 i1) i2)), .second, .val (.long (own_mx (own_mn i0 i1) (own_mn (own_mx i0 i1) i2))), .second] [(.long i3), (.long (own_mx (own_mx i0 i1) i2)), (.int (2 : Int32)), (.ref A174)])) rfl (by rw [hml]; rfl) (argsL := [(.ref A174), (.int (2 : Int32)), (.long (own_mx (own_mx i0 i1) i2)), (.long i3)]) (rest := []) (lenOf pd_1 rfl) rfl (by show 2 * 0 + _ ≤ _; exact Nat.le_of_eq rfl) (hb hby at_229) (fun _ _ => ⟨rfl, hh185, (by decide : 12 + 0 ≤ _), (by decide : 2076 + 0 ≤ _)⟩)
    dsimp only [Pt.U, Pt.locs, Pt.cells, Pt.slots] at X186 l186 y186 z186 st186 hQ186
    subst l186 y186 z186
    obtain ⟨rfl, N186q, hh186⟩ := hQ186
    have N186 := Fr.app N185 N186q
    obtain ⟨fs, hr, hrun, hended, hW, hsame⟩ := X186.leave (v := some (.int (1 : Int32))) (fun h => by rw [Bd.returns] at h; cases h)
    refine ⟨_, _, pre101 _ ?_, hrun, hended, _, _, rfl, ?_, ⟨_, rfl⟩, hW, hsame.mono (by decide) (by decide)⟩
    · skip
      show Steps p.tables e below (s₁.setTop (mkF m 4 #[.val (.long i0), .second, .val (.long i1), .second, .val (.long i2), .second, .val (.long i3), .second, .val (.int i4), .unset, .unset, .unset, .unset, .unset, .unset, .unset, .unset, .unset] [(.int (i4 &&& (3 : Int32)))])) _
      rw [hk102]
      refine XS.istore X0.here hx rfl (hb hby at_4) rfl (l' := #[.val (.long i0), .second, .val (.long i1), .second, .val (.long i2), .second, .val (.long i3), .second, .val (.int i4), .val (.int (3 : Int32)), .unset, .unset, .unset, .unset, .unset, .unset, .unset, .unset]) rfl ?_
      refine XS.bipush X0.here hx rfl (hb hby at_6) ?_
      refine st159 _ ?_
      refine XS.astore X159.here hx rfl (hb hby at_10) rfl rfl (l' := #[.val (.long i0), .second, .val (.long i1), .second, .val (.long i2), .second, .val (.long i3), .second, .val (.int i4), .val (.int (3 : Int32)), .val (.ref b159), .unset, .unset, .unset, .unset, .unset, .unset, .unset]) rfl ?_
      show Steps p.tables e below (T159.setTop (mkF m 12 #[.val (.long i0), .second, .val (.long i1), .second, .val (.long i2), .second, .val (.long i3), .second, .val (.int i4), .val (.int (3 : Int32)), .val (.ref b159), .unset, .unset, .unset, .unset, .unset, .unset, .unset] [])) _
      refine XS.aload X159.here hx rfl (hb hby at_12) rfl rfl ?_
      refine XS.iconst X159.here hx rfl (hb hby at_14) ?_
      refine XS.lloadN X159.here hx rfl (hb hby at_15) rfl ?_
      refine st161 _ ?_
      refine XS.aload X161.here hx rfl (hb hby at_17) rfl rfl ?_
      show Steps p.tables e below (T161.setTop (mkF m 19 #[.val (.long i0), .second, .val (.long i1), .second, .val (.long i2), .second, .val (.long i3), .second, .val (.int i4), .val (.int (3 : Int32)), .val (.ref b159), .unset, .unset, .unset, .unset, .unset, .unset, .unset] [(.ref b159)])) _
      refine XS.iconst X161.here hx rfl (hb hby at_19) ?_
      refine XS.lloadN X161.here hx rfl (hb hby at_20) rfl ?_
      refine XS.lload X161.here hx rfl (hb hby at_21) rfl ?_
      refine XS.lxor X161.here hx rfl (hb hby at_23) rfl ?_
      refine st163 _ ?_
      show Steps p.tables e below (T163.setTop (mkF m 25 #[.val (.long i0), .second, .val (.long i1), .second, .val (.long i2), .second, .val (.long i3), .second, .val (.int i4), .val (.int (3 : Int32)), .val (.ref b159), .unset, .unset, .unset, .unset, .unset, .unset, .unset] [])) _
      refine XS.aload X163.here hx rfl (hb hby at_25) rfl rfl ?_
      refine XS.iconst X163.here hx rfl (hb hby at_27) ?_
      refine XS.lloadN X163.here hx rfl (hb hby at_28) rfl ?_
      refine st165 _ ?_
      refine XS.aload X165.here hx rfl (hb hby at_30) rfl rfl ?_
      show Steps p.tables e below (T165.setTop (mkF m 32 #[.val (.long i0), .second, .val (.long i1), .second, .val (.long i2), .second, .val (.long i3), .second, .val (.int i4), .val (.int (3 : Int32)), .val (.ref b159), .unset, .unset, .unset, .unset, .unset, .unset, .unset] [(.ref b159)])) _
      refine XS.iconst X165.here hx rfl (hb hby at_32) ?_
      refine XS.lloadN X165.here hx rfl (hb hby at_33) rfl ?_
      refine XS.lload X165.here hx rfl (hb hby at_34) rfl ?_
      refine XS.lxor X165.here hx rfl (hb hby at_36) rfl ?_
      refine st167 _ ?_
      show Steps p.tables e below (T167.setTop (mkF m 38 #[.val (.long i0), .second, .val (.long i1), .second, .val (.long i2), .second, .val (.long i3), .second, .val (.int i4), .val (.int (3 : Int32)), .val (.ref b159), .unset, .unset, .unset, .unset, .unset, .unset, .unset] [])) _
      refine XS.aload X167.here hx rfl (hb hby at_38) rfl rfl ?_
      refine XS.iconst X167.here hx rfl (hb hby at_40) ?_
      refine XS.lload X167.here hx rfl (hb hby at_41) rfl ?_
      refine st169 _ ?_
      refine XS.aload X169.here hx rfl (hb hby at_44) rfl rfl ?_
      show Steps p.tables e below (T169.setTop (mkF m 46 #[.val (.long i0), .second, .val (.long i1), .second, .val (.long i2), .second, .val (.long i3), .second, .val (.int i4), .val (.int (3 : Int32)), .val (.ref b159), .unset, .unset, .unset, .unset, .unset, .unset, .unset] [(.ref b159)])) _
      refine XS.iconst X169.here hx rfl (hb hby at_46) ?_
      refine XS.lload X169.here hx rfl (hb hby at_47) rfl ?_
      refine XS.lload X169.here hx rfl (hb hby at_49) rfl ?_
      refine XS.lxor X169.here hx rfl (hb hby at_51) rfl ?_
      refine st171 _ ?_
      show Steps p.tables e below (T171.setTop (mkF m 53 #[.val (.long i0), .second, .val (.long i1), .second, .val (.long i2), .second, .val (.long i3), .second, .val (.int i4), .val (.int (3 : Int32)), .val (.ref b159), .unset, .unset, .unset, .unset, .unset, .unset, .unset] [])) _
      refine XS.aload X171.here hx rfl (hb hby at_53) rfl rfl ?_
      refine XS.iload X171.here hx rfl (hb hby at_55) rfl ?_
      refine st174 _ ?_
      refine XS.astore X174.here hx rfl (hb hby at_60) rfl rfl (l' := #[.val (.long i0), .second, .val (.long i1), .second, .val (.long i2), .second, .val (.long i3), .second, .val (.int i4), .val (.int (3 : Int32)), .val (.ref b159), .val (.ref A174), .unset, .unset, .unset, .unset, .unset, .unset]) rfl ?_
      refine XS.aload X174.here hx rfl (hb hby at_62) rfl rfl ?_
      show Steps p.tables e below (T174.setTop (mkF m 64 #[.val (.long i0), .second, .val (.long i1), .second, .val (.long i2), .second, .val (.long i3), .second, .val (.int i4), .val (.int (3 : Int32)), .val (.ref b159), .val (.ref A174), .unset, .unset, .unset, .unset, .unset, .unset] [(.ref A174)])) _
      refine XS.ifnullNo X174.here hx rfl (hb hby at_64) rfl ?_
      refine XS.aload X174.here hx rfl (hb hby at_67) rfl rfl ?_
      refine X174.arraylength hx Ar175.1 (State.isArrayOf_alike hZ.alike Ar175.2.1) (g := (mkF m 69 #[.val (.long i0), .second, .val (.long i1), .second, .val (.long i2), .second, .val (.long i3), .second, .val (.int i4), .val (.int (3 : Int32)), .val (.ref b159), .val (.ref A174), .unset, .unset, .unset, .unset, .unset, .unset] [(.ref A174)])) rfl rfl (hb hby at_69) _ ?_
      rw [show cl175.slots.size.toInt32 = (6 : Int32) from by rw [S175]; rfl]
      refine XS.bipush X174.here hx rfl (hb hby at_70) ?_
      show Steps p.tables e below (T174.setTop (mkF m 72 #[.val (.long i0), .second, .val (.long i1), .second, .val (.long i2), .second, .val (.long i3), .second, .val (.int i4), .val (.int (3 : Int32)), .val (.ref b159), .val (.ref A174), .unset, .unset, .unset, .unset, .unset, .unset] [(.int (6 : Int32)), (.int (6 : Int32))])) _
      refine XS.icmpYes X174.here hx rfl (pc0 := 72) (pc' := 77) rfl (hb hby at_72) rfl (by decide) (by decide) (by decide) ?_
      show Steps p.tables e below (T174.setTop (mkF m 77 #[.val (.long i0), .second, .val (.long i1), .second, .val (.long i2), .second, .val (.long i3), .second, .val (.int i4), .val (.int (3 : Int32)), .val (.ref b159), .val (.ref A174), .unset, .unset, .unset, .unset, .unset, .unset] [])) _
      refine XS.iload X174.here hx rfl (hb hby at_77) rfl ?_
      show Steps p.tables e below (T174.setTop (mkF m 79 #[.val (.long i0), .second, .val (.long i1), .second, .val (.long i2), .second, .val (.long i3), .second, .val (.int i4), .val (.int (3 : Int32)), .val (.ref b159), .val (.ref A174), .unset, .unset, .unset, .unset, .unset, .unset] [(.int (3 : Int32))])) _
      refine XS.ifYes X174.here hx rfl (pc0 := 79) (pc' := 84) rfl (hb hby at_79) rfl (by decide) (by decide) (by decide) ?_
      refine XS.iload X174.here hx rfl (hb hby at_84) rfl ?_
      refine XS.iconst X174.here hx rfl (hb hby at_86) ?_
      show Steps p.tables e below (T174.setTop (mkF m 87 #[.val (.long i0), .second, .val (.long i1), .second, .val (.long i2), .second, .val (.long i3), .second, .val (.int i4), .val (.int (3 : Int32)), .val (.ref b159), .val (.ref A174), .unset, .unset, .unset, .unset, .unset, .unset] [(.int (1 : Int32)), (.int (3 : Int32))])) _
      refine XS.icmpYes X174.here hx rfl (pc0 := 87) (pc' := 100) rfl (hb hby at_87) rfl (by decide) (by decide) (by decide) ?_
      show Steps p.tables e below (T174.setTop (mkF m 100 #[.val (.long i0), .second, .val (.long i1), .second, .val (.long i2), .second, .val (.long i3), .second, .val (.int i4), .val (.int (3 : Int32)), .val (.ref b159), .val (.ref A174), .unset, .unset, .unset, .unset, .unset, .unset] [])) _
      refine XS.iload X174.here hx rfl (hb hby at_100) rfl ?_
      refine XS.iconst X174.here hx rfl (hb hby at_102) ?_
      show Steps p.tables e below (T174.setTop (mkF m 103 #[.val (.long i0), .second, .val (.long i1), .second, .val (.long i2), .second, .val (.long i3), .second, .val (.int i4), .val (.int (3 : Int32)), .val (.ref b159), .val (.ref A174), .unset, .unset, .unset, .unset, .unset, .unset] [(.int (2 : Int32)), (.int (3 : Int32))])) _
      refine XS.icmpYes X174.here hx rfl (pc0 := 103) (pc' := 152) rfl (hb hby at_103) rfl (by decide) (by decide) (by decide) ?_
      refine XS.lloadN X174.here hx rfl (hb hby at_152) rfl ?_
      refine XS.lloadN X174.here hx rfl (hb hby at_153) rfl ?_
      show Steps p.tables e below (T174.setTop (mkF m 154 #[.val (.long i0), .second, .val (.long i1), .second, .val (.long i2), .second, .val (.long i3), .second, .val (.int i4), .val (.int (3 : Int32)), .val (.ref b159), .val (.ref A174), .unset, .unset, .unset, .unset, .unset, .unset] [(.long i1), (.long i0)])) _
      refine st176 _ ?_
      refine XS.lload X176.here hx rfl (hb hby at_157) rfl ?_
      refine st177 _ ?_
      refine XS.lstore X177.here hx rfl (hb hby at_162) rfl (l' := #[.val (.long i0), .second, .val (.long i1), .second, .val (.long i2), .second, .val (.long i3), .second, .val (.int i4), .val (.int (3 : Int32)), .val (.ref b159), .val (.ref A174), .val (.long (own_mn (own_mn i0 i1) i2)), .second, .unset, .unset, .unset, .unset]) rfl ?_
      refine XS.lloadN X177.here hx rfl (hb hby at_164) rfl ?_
      show Steps p.tables e below (T177.setTop (mkF m 165 #[.val (.long i0), .second, .val (.long i1), .second, .val (.long i2), .second, .val (.long i3), .second, .val (.int i4), .val (.int (3 : Int32)), .val (.ref b159), .val (.ref A174), .val (.long (own_mn (own_mn i0 i1) i2)), .second, .unset, .unset, .unset, .unset] [(.long i0)])) _
      refine XS.lloadN X177.here hx rfl (hb hby at_165) rfl ?_
      refine st178 _ ?_
      refine XS.lload X178.here hx rfl (hb hby at_169) rfl ?_
      refine st179 _ ?_
      refine XS.lstore X179.here hx rfl (hb hby at_174) rfl (l' := #[.val (.long i0), .second, .val (.long i1), .second, .val (.long i2), .second, .val (.long i3), .second, .val (.int i4), .val (.int (3 : Int32)), .val (.ref b159), .val (.ref A174), .val (.long (own_mn (own_mn i0 i1) i2)), .second, .val (.long (own_mx (own_mx i0 i1) i2)), .second, .unset, .unset]) rfl ?_
      show Steps p.tables e below (T179.setTop (mkF m 176 #[.val (.long i0), .second, .val (.long i1), .second, .val (.long i2), .second, .val (.long i3), .second, .val (.int i4), .val (.int (3 : Int32)), .val (.ref b159), .val (.ref A174), .val (.long (own_mn (own_mn i0 i1) i2)), .second, .val (.long (own_mx (own_mx i0 i1) i2)), .second, .unset, .unset] [])) _
      refine XS.lloadN X179.here hx rfl (hb hby at_176) rfl ?_
      refine XS.lloadN X179.here hx rfl (hb hby at_177) rfl ?_
      refine st180 _ ?_
      refine XS.lloadN X180.here hx rfl (hb hby at_181) rfl ?_
      refine XS.lloadN X180.here hx rfl (hb hby at_182) rfl ?_
      show Steps p.tables e below (T180.setTop (mkF m 183 #[.val (.long i0), .second, .val (.long i1), .second, .val (.long i2), .second, .val (.long i3), .second, .val (.int i4), .val (.int (3 : Int32)), .val (.ref b159), .val (.ref A174), .val (.long (own_mn (own_mn i0 i1) i2)), .second, .val (.long (own_mx (own_mx i0 i1) i2)), .second, .unset, .unset] [(.long i1), (.long i0), (.long (own_mn i0 i1))])) _
      refine st181 _ ?_
      refine XS.lload X181.here hx rfl (hb hby at_186) rfl ?_
      refine st182 _ ?_
      refine st183 _ ?_
      refine XS.lstore X183.here hx rfl (hb hby at_194) rfl (l' := #[.val (.long i0), .second, .val (.long i1), .second, .val (.long i2), .second, .val (.long i3), .second, .val (.int i4), .val (.int (3 : Int32)), .val (.ref b159), .val (.ref A174), .val (.long (own_mn (own_mn i0 i1) i2)), .second, .val (.long (own_mx (own_mx i0 i1) i2)), .second, .val (.long (own_mx (own_mn i0 i1) (own_mn (own_mx i0 i1) i2))), .second]) rfl ?_
      show Steps p.tables e below (T183.setTop (mkF m 196 #[.val (.long i0), .second, .val (.long i1), .second, .val (.long i2), .second, .val (.long i3), .second, .val (.int i4), .val (.int (3 : Int32)), .val (.ref b159), .val (.ref A174), .val (.long (own_mn (own_mn i0 i1) i2)), .second, .val (.long (own_mx (own_mx i0 i1) i2)), .second, .val (.long (own_mx (own_mn i0 i1) (own_mn (own_mx i0 i1) i2))), .second] [])) _
      refine XS.aload X183.here hx rfl (hb hby at_196) rfl rfl ?_
      refine XS.iconst X183.here hx rfl (hb hby at_198) ?_
      refine XS.lload X183.here hx rfl (hb hby at_199) rfl ?_
      refine XS.lload X183.here hx rfl (hb hby at_201) rfl ?_
      refine st184 _ ?_
      show Steps p.tables e below (T184.setTop (mkF m 206 #[.val (.long i0), .second, .val (.long i1), .second, .val (.long i2), .second, .val (.long i3), .second, .val (.int i4), .val (.int (3 : Int32)), .val (.ref b159), .val (.ref A174), .val (.long (own_mn (own_mn i0 i1) i2)), .second, .val (.long (own_mx (own_mx i0 i1) i2)), .second, .val (.long (own_mx (own_mn i0 i1) (own_mn (own_mx i0 i1) i2))), .second] [(.int (1 : Int32))])) _
      refine XS.ifNo X184.here hx rfl (hb hby at_206) rfl (by decide) ?_
      refine XS.aload X184.here hx rfl (hb hby at_209) rfl rfl ?_
      refine XS.iconst X184.here hx rfl (hb hby at_211) ?_
      refine XS.lload X184.here hx rfl (hb hby at_212) rfl ?_
      refine XS.lload X184.here hx rfl (hb hby at_214) rfl ?_
      show Steps p.tables e below (T184.setTop (mkF m 216 #[.val (.long i0), .second, .val (.long i1), .second, .val (.long i2), .second, .val (.long i3), .second, .val (.int i4), .val (.int (3 : Int32)), .val (.ref b159), .val (.ref A174), .val (.long (own_mn (own_mn i0 i1) i2)), .second, .val (.long (own_mx (own_mx i0 i1) i2)), .second, .val (.long (own_mx (own_mn i0 i1) (own_mn (own_mx i0 i1) i2))), .second] [(.long i3), (.long (own_mx (own_mn i0 i1) (own_mn (own_mx i0 i1) i2))), (.int (1 : Int32)), (.ref A174)])) _
      refine st185 _ ?_
      show Steps p.tables e below (T185.setTop (mkF m 219 #[.val (.long i0), .second, .val (.long i1), .second, .val (.long i2), .second, .val (.long i3), .second, .val (.int i4), .val (.int (3 : Int32)), .val (.ref b159), .val (.ref A174), .val (.long (own_mn (own_mn i0 i1) i2)), .second, .val (.long (own_mx (own_mx i0 i1) i2)), .second, .val (.long (own_mx (own_mn i0 i1) (own_mn (own_mx i0 i1) i2))), .second] [(.int (1 : Int32))])) _
      refine XS.ifNo X185.here hx rfl (hb hby at_219) rfl (by decide) ?_
      refine XS.aload X185.here hx rfl (hb hby at_222) rfl rfl ?_
      refine XS.iconst X185.here hx rfl (hb hby at_224) ?_
      refine XS.lload X185.here hx rfl (hb hby at_225) rfl ?_
      show Steps p.tables e below (T185.setTop (mkF m 227 #[.val (.long i0), .second, .val (.long i1), .second, .val (.long i2), .second, .val (.long i3), .second, .val (.int i4), .val (.int (3 : Int32)), .val (.ref b159), .val (.ref A174), .val (.long (own_mn (own_mn i0 i1) i2)), .second, .val (.long (own_mx (own_mx i0 i1) i2)), .second, .val (.long (own_mx (own_mn i0 i1) (own_mn (own_mx i0 i1) i2))), .second] [(.long (own_mx (own_mx i0 i1) i2)), (.int (2 : Int32)), (.ref A174)])) _
      refine XS.lload X185.here hx rfl (hb hby at_227) rfl ?_
      refine st186 _ ?_
      show Steps p.tables e below (T186.setTop (mkF m 232 #[.val (.long i0), .second, .val (.long i1), .second, .val (.long i2), .second, .val (.long i3), .second, .val (.int i4), .val (.int (3 : Int32)), .val (.ref b159), .val (.ref A174), .val (.long (own_mn (own_mn i0 i1) i2)), .second, .val (.long (own_mx (own_mx i0 i1) i2)), .second, .val (.long (own_mx (own_mn i0 i1) (own_mn (own_mx i0 i1) i2))), .second] [(.int (1 : Int32))])) _
      refine XS.ifNo X186.here hx rfl (hb hby at_232) rfl (by decide) ?_
      refine XS.iconst X186.here hx rfl (hb hby at_235) ?_
      refine XS.goto X186.here hx rfl (pc0 := 236) (pc' := 240) rfl (hb hby at_236) (by decide) (by decide) ?_
      show Steps p.tables e below (T186.setTop (mkF m 240 #[.val (.long i0), .second, .val (.long i1), .second, .val (.long i2), .second, .val (.long i3), .second, .val (.int i4), .val (.int (3 : Int32)), .val (.ref b159), .val (.ref A174), .val (.long (own_mn (own_mn i0 i1) i2)), .second, .val (.long (own_mx (own_mx i0 i1) i2)), .second, .val (.long (own_mx (own_mn i0 i1) (own_mn (own_mx i0 i1) i2))), .second] [(.int (1 : Int32))])) _
      exact retN X186 hx (t := .boolean) Bd.returns (by simp) (hb hby at_240) hr
    · show QL n0 _ T186.heap _
      rw [hh186]
      exact ⟨rfl, N186⟩
set_option maxRecDepth 65536 in
set_option maxHeartbeats 40000000 in
theorem comes_1 {Post : Tables → Env → Array Value → State → Outcome → State → Prop} (hpost : ∀ tb e args s v u, (limb_1_1.after args s (.returned v) u = true ∧ limb_1_2.after args s (.returned v) u = true ∧ True) → FrameEnd s (.returned v) u (Jvm.fieldLocs frame_1_writes args s ++ Jvm.arrayLocs frame_1_arrays args s ++ Jvm.staticLocs frame_1_statics s) 32 4224 → Post tb e args s (.returned v) u) :
    ArmFor flags0 classFile x code maxLocals ret World_1 tables_1 room_1 Calls_1 rest_1 Pre_1 Post := by
  intro l hfl _ _ p e ha hc hk s m args below hf hA hF happ hP
  obtain ⟨hcalls, hrest, hpre⟩ := hP
  obtain ⟨-, -, -, hnamed, -, -, -, hat⟩ := (Spec.applies_iff hf).mp happ
  obtain ⟨hg, hn⟩ := and_e (Cond.before_iff.mp (show (Jvm.Cond.and given_1 narrow_1).before args s = true from hpre))
  obtain ⟨g0, r0⟩ := and_e hg
  obtain ⟨g1, r1⟩ := and_e r0
  obtain ⟨g2, r2⟩ := and_e r1
  obtain ⟨g3, r3⟩ := and_e r2
  obtain ⟨g4, r4⟩ := and_e r3
  obtain ⟨w0, w1, w2, w3, w4, rfl⟩ : ∃ w0 w1 w2 w3 w4 : Value, args = #[w0, w1, w2, w3, w4] := by
    have hs : args.size = 5 := by simpa [Cond.value, given_1] using g0
    obtain ⟨L⟩ := args
    match L, hs with
    | [w0, w1, w2, w3, w4], _ => exact ⟨w0, w1, w2, w3, w4, rfl⟩
  have hw := fun d (hd : d ∈ tables_1) => atoms_spec (ws := Jvm.Cond.code x code maxLocals ret :: tables_1) hat d (List.mem_cons_of_mem _ hd)
  have hfit : Fit s := fun {y c} hc i hi => by
    obtain ⟨ha, rfl⟩ := Array.getElem?_eq_some_iff.mp hc
    have q := List.all_eq_true.mp ((Array.all_eq_true_iff_forall_mem.mp hF) _ (Array.getElem_mem ha)) i (List.mem_range.mpr hi)
    simpa [Array.getElem?_eq_getElem hi] using q
  obtain ⟨i0, ei0⟩ := isL_v g1
  obtain rfl : w0 = (.long i0) := Option.some.inj ei0
  obtain ⟨i1, ei1⟩ := isL_v g2
  obtain rfl : w1 = (.long i1) := Option.some.inj ei1
  obtain ⟨i2, ei2⟩ := isL_v g3
  obtain rfl : w2 = (.long i2) := Option.some.inj ei2
  obtain ⟨i3, ei3⟩ := isL_v g4
  obtain rfl : w3 = (.long i3) := Option.some.inj ei3
  obtain ⟨i4, ei4⟩ := is_v r4
  obtain rfl : w4 = (.int i4) := Option.some.inj ei4
  obtain ⟨n, o, h1, h2, h3, _, L, rfl, ⟨rfl, N⟩, hq⟩ := rm0 l s _ hw tables_1 i0 i1 i2 i3 i4 s.heap s.heap.size (Old.start s) p e ha hc hk s m _ below hf ((Spec.applies_iff_loose hf).mp happ).1 ⟨rfl, State.Warmed39.refl s, rfl⟩ trivial
  refine ⟨n, _, h1, h2, h3, hpost _ _ _ _ _ _ ⟨Cond.after_iff.mpr rfl, Cond.after_iff.mpr (eq_i res_at (Term.int_eval (1)) rfl), trivial⟩ ⟨hq.1, hq.2.1, (hq.2.2.sift fun y hy => Or.inr (N y hy)).mono (by decide) (by decide)⟩⟩
theorem main_1_1 : Claimed_1_1 := comes_1 fun _ _ _ _ _ _ h hF => ⟨h.1, hF⟩
theorem main_1_2 : Claimed_1_2 := comes_1 fun _ _ _ _ _ _ h hF => ⟨h.2.1, hF⟩
end Jvm.Pilot.@@N@@
namespace Jvm.Pilot.@@N@@
open Jvm Jvm.ClassFile Sem Op Lib Jvm.Free Jvm.Stand Jvm.Pilot.@@N@@.Jvm.D
/-! MADE BY PROGRAM (witnessworld.py) out of the Statement's table words and the real class files: 12 classes; the members and pool entries that the words name. The judged class is class 1, her method 1. -/
namespace start1
open Jvm.ClassFile
def u (s : String) : CpInfo := .utf8 (stringToUtf16 s)
/-- a pool by its gaps: so many unusable entries, then the entry; so many at the end -/
def gap : Nat → List CpInfo → List CpInfo
  | 0, r => r
  | n + 1, r => .unusable :: gap n r
def poolList (es : List (Nat × CpInfo)) (last : Nat) : List CpInfo := es.foldr (fun e r => gap e.1 (e.2 :: r)) (gap last [])
def pool (es : List (Nat × CpInfo)) (last : Nat) : Array CpInfo := ⟨poolList es last⟩
def fileOf (pool : Array CpInfo) (this : Nat) (attrs : Array Attribute := #[]) (ms : Array MethodInfo := #[]) (fl : Nat := 33) (sup : Nat := 0) (ifs : Array Nat := #[]) (fds : Array FieldInfo := #[]) : ClassFile where
  minorVersion := 0
  majorVersion := 65
  constantPool := pool
  accessFlags := fl
  thisClass := this
  superClass := sup
  interfaces := ifs
  fields := fds
  methods := ms
  attributes := attrs
def plain (name : String) (sup : Option ClassId) : Class where
  name := name
  kind := .ordinary
  loader := none
  accessFlags := 33
  super := sup
  interfaces := #[]
  cf := none
  fields := #[]
  methods := #[]
  instanceTypes := #[]
  staticTypes := #[]
  resolved := #[]
  callSites := []
  init := .initialized
  statics := none
  mirror := none

def pool0 : Array CpInfo := pool [(5, u "<init>"), (0, u "()V"), (1, .class_ 10), (1, u "java/lang/Object")] 113

def k0m0 : Method := { name := "<init>", desc := "()V", sig := { parameters := [], returnType := none }, accessFlags := 1, code := none }
/-- java/lang/Object -/
def k0 : Class := { plain "java/lang/Object" none with
  accessFlags := 33
  interfaces := #[]
  cf := some (fileOf pool0 8 #[] #[{ accessFlags := 1, nameIndex := 5, descriptorIndex := 6, attributes := #[] }] 33 0 #[] #[])
  fields := #[]
  methods := #[k0m0]
  instanceTypes := #[]
  staticTypes := #[]
  resolved := Array.replicate 124 none
  statics := none }

def pool1 : Array CpInfo := pool [(2, .class_ 4), (1, u "java/lang/Object"), (0, u "<init>"), (0, u "()V"), (0, .methodref 8 9), (0, .class_ 10), (0, .nameAndType 11 12), (0, u "com/example/keyfold/keyfold/SortedRows"), (0, u "sort"), (0, u "([JI)[J"), (0, .methodref 14 15), (0, .class_ 16), (0, .nameAndType 17 18), (0, u "com/example/keyfold/keyfold/SortedRowsSortPinLaw"), (0, u "pairOk"), (0, u "([JIJJ)Z"), (0, .methodref 20 21), (0, .class_ 22), (0, .nameAndType 23 24), (0, u "java/lang/Math"), (0, u "min"), (0, u "(JJ)J"), (0, .methodref 20 26), (0, .nameAndType 27 24), (0, u "max"), (2, u "law"), (0, u "(JJJJI)Z")] 5

def k1m0 : Method := { name := "<init>", desc := "()V", sig := { parameters := [], returnType := none }, accessFlags := 1, code := none }
def k1c1 : Code := { maxStack := 6, maxLocals := 18, code := code, exceptionTable := #[], attributes := #[] }
def k1m1 : Method := { name := "law", desc := "(JJJJI)Z", sig := { parameters := [.long, .long, .long, .long, .int], returnType := some .boolean }, accessFlags := 9, code := some k1c1 }
def k1c2 : Code := { maxStack := 6, maxLocals := 6, code := method_3_code, exceptionTable := #[], attributes := #[] }
def k1m2 : Method := { name := "pairOk", desc := "([JIJJ)Z", sig := { parameters := [(.array .long), .int, .long, .long], returnType := some .boolean }, accessFlags := 10, code := some k1c2 }
/-- com/example/keyfold/keyfold/SortedRowsSortPinLaw -/
def k1 : Class := { plain "com/example/keyfold/keyfold/SortedRowsSortPinLaw" (some 0) with
  accessFlags := 49
  interfaces := #[]
  cf := some (fileOf pool1 14 #[] #[{ accessFlags := 1, nameIndex := 5, descriptorIndex := 6, attributes := #[] }, { accessFlags := 9, nameIndex := 30, descriptorIndex := 31, attributes := #[] }, { accessFlags := 10, nameIndex := 17, descriptorIndex := 18, attributes := #[] }] 49 2 #[] #[])
  fields := #[]
  methods := #[k1m0, k1m1, k1m2]
  instanceTypes := #[]
  staticTypes := #[]
  resolved := Array.replicate 37 none
  statics := none }

def pool2 : Array CpInfo := pool [(4, .class_ 6), (1, u "java/lang/Object"), (3, .class_ 12), (1, u "com/example/keyfold/keyfold/SortedRows"), (0, u "arenas"), (0, u "[Lcom/example/keyfold/keyfold/RowArena;"), (1, u "[J"), (6, .class_ 25), (1, u "com/example/keyfold/keyfold/SortedRows$Source"), (36, u "sort"), (7, u "integers"), (2, u "integerEnd"), (0, u "I"), (2, u "others"), (0, u "Ljava/util/List;"), (6, u "otherEnd"), (2, u "nextInteger"), (2, u "nextOther"), (25, .class_ 118), (0, u "com/example/keyfold/keyfold/SortedRows$Other"), (13, u "integersAhead"), (2, u "othersAhead"), (2, u "readAhead"), (5, u "atInteger"), (0, u "Z"), (2, u "entry"), (0, u "J"), (51, u "([JI)[J"), (2, .long 255), (1, .class_ 207), (0, u "[[I"), (0, .long 9223372036854775808), (14, u "PLACE_MASK"), (1, u "PREFETCHED"), (1, u "SHORT_ROW")] 70

def k2c0 : Code := { maxStack := 6, maxLocals := 17, code := prog_98_method_19_code, exceptionTable := #[], attributes := #[] }
def k2m0 : Method := { name := "sort", desc := "([JI)[J", sig := { parameters := [(.array .long), .int], returnType := some (.array .long) }, accessFlags := 8, code := some k2c0 }
/-- com/example/keyfold/keyfold/SortedRows -/
def k2 : Class := { plain "com/example/keyfold/keyfold/SortedRows" (some 0) with
  accessFlags := 48
  interfaces := #[]
  cf := some (fileOf pool2 10 #[.nestMembers #[117, 23]] #[{ accessFlags := 8, nameIndex := 62, descriptorIndex := 201, attributes := #[] }] 48 4 #[] #[{ accessFlags := 26, nameIndex := 223, descriptorIndex := 149, attributes := #[] }, { accessFlags := 26, nameIndex := 225, descriptorIndex := 74, attributes := #[] }, { accessFlags := 26, nameIndex := 227, descriptorIndex := 74, attributes := #[] }, { accessFlags := 18, nameIndex := 13, descriptorIndex := 14, attributes := #[] }, { accessFlags := 18, nameIndex := 70, descriptorIndex := 16, attributes := #[] }, { accessFlags := 18, nameIndex := 77, descriptorIndex := 78, attributes := #[] }, { accessFlags := 2, nameIndex := 88, descriptorIndex := 74, attributes := #[] }, { accessFlags := 2, nameIndex := 73, descriptorIndex := 74, attributes := #[] }, { accessFlags := 2, nameIndex := 91, descriptorIndex := 74, attributes := #[] }, { accessFlags := 2, nameIndex := 85, descriptorIndex := 74, attributes := #[] }, { accessFlags := 2, nameIndex := 132, descriptorIndex := 74, attributes := #[] }, { accessFlags := 2, nameIndex := 135, descriptorIndex := 74, attributes := #[] }, { accessFlags := 2, nameIndex := 138, descriptorIndex := 149, attributes := #[] }, { accessFlags := 2, nameIndex := 144, descriptorIndex := 145, attributes := #[] }, { accessFlags := 2, nameIndex := 148, descriptorIndex := 149, attributes := #[] }])
  fields := #[{ name := "PLACE_MASK", type := .long, accessFlags := 26, slot := 0, constantValue := 0 }, { name := "PREFETCHED", type := .int, accessFlags := 26, slot := 1, constantValue := 0 }, { name := "SHORT_ROW", type := .int, accessFlags := 26, slot := 2, constantValue := 0 }, { name := "arenas", type := (.array (.object "com/example/keyfold/keyfold/RowArena")), accessFlags := 18, slot := 0, constantValue := 0 }, { name := "integers", type := (.array .long), accessFlags := 18, slot := 1, constantValue := 0 }, { name := "others", type := (.object "java/util/List"), accessFlags := 18, slot := 2, constantValue := 0 }, { name := "nextInteger", type := .int, accessFlags := 2, slot := 3, constantValue := 0 }, { name := "integerEnd", type := .int, accessFlags := 2, slot := 4, constantValue := 0 }, { name := "nextOther", type := .int, accessFlags := 2, slot := 5, constantValue := 0 }, { name := "otherEnd", type := .int, accessFlags := 2, slot := 6, constantValue := 0 }, { name := "integersAhead", type := .int, accessFlags := 2, slot := 7, constantValue := 0 }, { name := "othersAhead", type := .int, accessFlags := 2, slot := 8, constantValue := 0 }, { name := "readAhead", type := .long, accessFlags := 2, slot := 9, constantValue := 0 }, { name := "atInteger", type := .boolean, accessFlags := 2, slot := 10, constantValue := 0 }, { name := "entry", type := .long, accessFlags := 2, slot := 11, constantValue := 0 }]
  methods := #[k2m0]
  instanceTypes := #[(.array (.object "com/example/keyfold/keyfold/RowArena")), (.array .long), (.object "java/util/List"), .int, .int, .int, .int, .int, .int, .long, .boolean, .long]
  staticTypes := #[.long, .int, .int]
  resolved := Array.replicate 298 none
  statics := none }

def pool3 : Array CpInfo := pool [(1, .class_ 2), (0, u "java/lang/Math"), (1, .class_ 6), (1, u "java/lang/Object"), (0, u "<init>"), (0, u "()V"), (89, .class_ 100), (1, u "java/lang/Math$RandomNumberGeneratorHolder"), (20, u "(JJ)J"), (50, u "negativeZeroFloatBits"), (0, u "J"), (2, u "negativeZeroDoubleBits"), (21, u "max"), (2, u "min"), (43, u "$assertionsDisabled"), (0, u "Z"), (91, u "twoToTheDoubleScaleDown"), (0, u "D"), (4, u "twoToTheDoubleScaleUp"), (9, u "E"), (3, u "PI"), (2, u "TAU"), (2, u "DEGREES_TO_RADIANS"), (0, u "RADIANS_TO_DEGREES")] 94

def k3m0 : Method := { name := "<init>", desc := "()V", sig := { parameters := [], returnType := none }, accessFlags := 2, code := none }
def k3c1 : Code := { maxStack := 4, maxLocals := 4, code := jdk_29_method_66_code, exceptionTable := #[], attributes := #[] }
def k3m1 : Method := { name := "max", desc := "(JJ)J", sig := { parameters := [.long, .long], returnType := some .long }, accessFlags := 9, code := some k3c1 }
def k3c2 : Code := { maxStack := 4, maxLocals := 4, code := jdk_29_method_70_code, exceptionTable := #[], attributes := #[] }
def k3m2 : Method := { name := "min", desc := "(JJ)J", sig := { parameters := [.long, .long], returnType := some .long }, accessFlags := 9, code := some k3c2 }
/-- java/lang/Math -/
def k3 : Class := { plain "java/lang/Math" (some 0) with
  accessFlags := 49
  interfaces := #[]
  cf := some (fileOf pool3 1 #[.nestMembers #[98]] #[{ accessFlags := 2, nameIndex := 7, descriptorIndex := 8, attributes := #[] }, { accessFlags := 9, nameIndex := 198, descriptorIndex := 121, attributes := #[] }, { accessFlags := 9, nameIndex := 201, descriptorIndex := 121, attributes := #[] }] 49 4 #[] #[{ accessFlags := 25, nameIndex := 354, descriptorIndex := 339, attributes := #[] }, { accessFlags := 25, nameIndex := 358, descriptorIndex := 339, attributes := #[] }, { accessFlags := 25, nameIndex := 361, descriptorIndex := 339, attributes := #[] }, { accessFlags := 26, nameIndex := 364, descriptorIndex := 339, attributes := #[] }, { accessFlags := 26, nameIndex := 365, descriptorIndex := 339, attributes := #[] }, { accessFlags := 26, nameIndex := 172, descriptorIndex := 173, attributes := #[] }, { accessFlags := 26, nameIndex := 176, descriptorIndex := 173, attributes := #[] }, { accessFlags := 8, nameIndex := 344, descriptorIndex := 339, attributes := #[] }, { accessFlags := 8, nameIndex := 338, descriptorIndex := 339, attributes := #[] }, { accessFlags := 4120, nameIndex := 245, descriptorIndex := 246, attributes := #[] }])
  fields := #[{ name := "E", type := .double, accessFlags := 25, slot := 0, constantValue := 0 }, { name := "PI", type := .double, accessFlags := 25, slot := 1, constantValue := 0 }, { name := "TAU", type := .double, accessFlags := 25, slot := 2, constantValue := 0 }, { name := "DEGREES_TO_RADIANS", type := .double, accessFlags := 26, slot := 3, constantValue := 0 }, { name := "RADIANS_TO_DEGREES", type := .double, accessFlags := 26, slot := 4, constantValue := 0 }, { name := "negativeZeroFloatBits", type := .long, accessFlags := 26, slot := 5, constantValue := 0 }, { name := "negativeZeroDoubleBits", type := .long, accessFlags := 26, slot := 6, constantValue := 0 }, { name := "twoToTheDoubleScaleUp", type := .double, accessFlags := 8, slot := 7, constantValue := 0 }, { name := "twoToTheDoubleScaleDown", type := .double, accessFlags := 8, slot := 8, constantValue := 0 }, { name := "$assertionsDisabled", type := .boolean, accessFlags := 4120, slot := 9, constantValue := 0 }]
  methods := #[k3m0, k3m1, k3m2]
  instanceTypes := #[]
  staticTypes := #[.double, .double, .double, .double, .double, .long, .long, .double, .double, .boolean]
  resolved := Array.replicate 460 none
  statics := none }

def pool4 : Array CpInfo := pool [(1, u "java/lang/Cloneable"), (0, .class_ 1), (0, u "java/lang/Object"), (0, .class_ 3)] 3

/-- java/lang/Cloneable -/
def k4 : Class := { plain "java/lang/Cloneable" (some 0) with
  accessFlags := 1537
  interfaces := #[]
  cf := some (fileOf pool4 2 #[] #[] 1537 4 #[] #[])
  fields := #[]
  methods := #[]
  instanceTypes := #[]
  staticTypes := #[]
  resolved := Array.replicate 8 none
  statics := none }

def pool5 : Array CpInfo := pool [(1, u "java/io/Serializable"), (0, .class_ 1), (0, u "java/lang/Object"), (0, .class_ 3)] 3

/-- java/io/Serializable -/
def k5 : Class := { plain "java/io/Serializable" (some 0) with
  accessFlags := 1537
  interfaces := #[]
  cf := some (fileOf pool5 2 #[] #[] 1537 4 #[] #[])
  fields := #[]
  methods := #[]
  instanceTypes := #[]
  staticTypes := #[]
  resolved := Array.replicate 8 none
  statics := none }

/-- the primitive byte -/
def k6 : Class := { plain "byte" none with kind := .primitive 'B', accessFlags := 0x411 }
/-- [B -/
def k7 : Class := { plain "[B" (some 0) with kind := .array 6 .byte, interfaces := #[4, 5], accessFlags := 1041 }

/-- the primitive int -/
def k8 : Class := { plain "int" none with kind := .primitive 'I', accessFlags := 0x411 }
/-- [I -/
def k9 : Class := { plain "[I" (some 0) with kind := .array 8 .int, interfaces := #[4, 5], accessFlags := 1041 }

/-- the primitive long -/
def k10 : Class := { plain "long" none with kind := .primitive 'J', accessFlags := 0x411 }
/-- [J -/
def k11 : Class := { plain "[J" (some 0) with kind := .array 10 .long, interfaces := #[4, 5], accessFlags := 1041 }

def heap : Heap := #[]
def k12 : Class := { plain "[[I" (some 0) with kind := .array 9 (.array .int), interfaces := #[4, 5], accessFlags := 1041 }
def classes : Array Class := #[k0, k1, k2, k3, k4, k5, k6, k7, k8, k9, k10, k11, k12]
def interned : List (Array UInt16 × Addr) := []
def slotsUsed : Nat := 0
def theMethod : MethodId := ⟨1, 1⟩
def args0 : Array Value := #[.long 5, .long 3, .long 9, .long 8, .int 3]
def aboutOver (below : List Frame) : State where
  vm := { classes := classes, interned := interned.toArray }
  heap := heap
  slotsUsed := slotsUsed
  threads := #[{ frames := .invoking theMethod args0 :: below }]
def below0 : List Frame := [.native { method := ⟨0, 0⟩, args := #[] }]
def about1 : State := aboutOver below0
def p0 : Program := .bare "" "" ""
def e0 : Env := launch0.env 0 0 0
theorem w_frames : about1.frames = Frame.invoking theMethod args0 :: below0 := rfl
set_option maxRecDepth 65536 in
theorem w_args : argsFit about1.vm theMethod args0 = true := by decide +kernel
set_option maxRecDepth 65536 in
theorem w_heap : heapFits about1 = true := by decide +kernel
set_option maxRecDepth 65536 in
theorem w_runnable : about1.curStatus? = some .runnable := by decide +kernel
set_option maxRecDepth 65536 in
theorem w_alone : about1.alone = true := by decide +kernel
set_option maxRecDepth 65536 in
theorem w_named : about1.methodNamed? x = some theMethod := by decide +kernel
set_option maxRecDepth 65536 in
theorem w_hears : about1.hears theMethod below0 = true := by decide +kernel
set_option maxRecDepth 65536 in
theorem w_ripe : about1.ripe theMethod args0 below0 = true := by decide +kernel
theorem w_running : about1.status = .running := rfl
set_option maxRecDepth 65536 in
theorem w_room : about1.hasRoom e0.platform room_1 = true :=
  launch0.hasRoom_least _ room_1 (by decide +kernel) (by decide +kernel) (by decide +kernel) (by decide +kernel) (by decide +kernel) (by decide +kernel)
theorem allAtoms_all (ts : List Jvm.Cond) (a : Array Jvm.Value) (st : Jvm.State) : (allAtoms ts).before a st = ts.all (fun c => c.before a st) := by
  induction ts with
  | nil => rfl
  | cons c t ih =>
    show (Jvm.Cond.and c (allAtoms t)).before a st = _
    rw [Jvm.Cond.before_and, ih, List.all_cons]
def words1 : List Jvm.Cond := Jvm.Cond.code x code maxLocals ret :: tables_1
/-- a 'code' word, met by the world's own term for the bytes: nothing is compared byte by byte -/
theorem code_word {y : MethodName} {bytes : ByteArray} {mx : Nat} {rt : Option FieldType} {a : Array Value} {s : State} {m : MethodId} {meth : Method} {c : Code} (h1 : s.methodNamed? y = some m) (h2 : s.vm.method? m = some meth) (h3 : meth.code = some c) (h4 : c.code = bytes)
    (h5 : (c.maxLocals == mx && c.exceptionTable.isEmpty && decide (c.maxStack ≤ mostOperands) && decide (meth.sig.returnType = rt) && !meth.locks && decide (parseMethodDescriptor y.desc = some meth.sig)) = true) : (Jvm.Cond.code y bytes mx rt).before a s = true := by
  simp only [Bool.and_eq_true, beq_iff_eq, Bool.not_eq_true', decide_eq_true_eq] at h5
  obtain ⟨⟨⟨⟨⟨g1, g2⟩, g3⟩, g4⟩, g5⟩, g6⟩ := h5
  simp [Cond.before, Cond.holds, Cond.value, h1, h2, h3, h4, g1, g2, g3, g4, g5, g6]
def isCode : Jvm.Cond → Bool
  | .code _ _ _ _ => true
  | _ => false
theorem all_split {L : List Jvm.Cond} {P : Jvm.Cond → Bool} (h1 : L.all (fun c => isCode c || P c) = true) (h2 : ∀ c ∈ L.filter isCode, P c = true) : L.all P = true := by
  refine List.all_eq_true.mpr fun c hc => ?_
  have h := List.all_eq_true.mp h1 c hc
  rcases Bool.eq_false_or_eq_true (isCode c) with hi | hi
  · exact h2 c (List.mem_filter.mpr ⟨hc, hi⟩)
  · simpa [hi] using h
set_option maxRecDepth 65536 in
theorem w_c0 : (Jvm.Cond.code x code maxLocals ret).before args0 about1 = true := code_word (m := ⟨1, 1⟩) (meth := k1m1) (c := k1c1) (by decide +kernel) rfl rfl rfl (by decide +kernel)
set_option maxRecDepth 65536 in
theorem w_c1 : (Jvm.Cond.code ({ cls := "com/example/keyfold/keyfold/SortedRows", name := "sort", desc := "([JI)[J" } : Jvm.MethodName) prog_98_method_19_code (17 : Nat) (Option.some (Jvm.ClassFile.FieldType.array Jvm.ClassFile.FieldType.long))).before args0 about1 = true := code_word (m := ⟨2, 0⟩) (meth := k2m0) (c := k2c0) (by decide +kernel) rfl rfl rfl (by decide +kernel)
set_option maxRecDepth 65536 in
theorem w_c2 : (Jvm.Cond.code ({ cls := "java/lang/Math", name := "min", desc := "(JJ)J" } : Jvm.MethodName) jdk_29_method_70_code (4 : Nat) (Option.some Jvm.ClassFile.FieldType.long)).before args0 about1 = true := code_word (m := ⟨3, 2⟩) (meth := k3m2) (c := k3c2) (by decide +kernel) rfl rfl rfl (by decide +kernel)
set_option maxRecDepth 65536 in
theorem w_c3 : (Jvm.Cond.code ({ cls := "java/lang/Math", name := "max", desc := "(JJ)J" } : Jvm.MethodName) jdk_29_method_66_code (4 : Nat) (Option.some Jvm.ClassFile.FieldType.long)).before args0 about1 = true := code_word (m := ⟨3, 1⟩) (meth := k3m1) (c := k3c1) (by decide +kernel) rfl rfl rfl (by decide +kernel)
set_option maxRecDepth 65536 in
theorem w_c4 : (Jvm.Cond.code ({ cls := "com/example/keyfold/keyfold/SortedRowsSortPinLaw", name := "pairOk", desc := "([JIJJ)Z" } : Jvm.MethodName) method_3_code (6 : Nat) (Option.some Jvm.ClassFile.FieldType.boolean)).before args0 about1 = true := code_word (m := ⟨1, 2⟩) (meth := k1m2) (c := k1c2) (by decide +kernel) rfl rfl rfl (by decide +kernel)
def codes1 : List Jvm.Cond := [Jvm.Cond.code x code maxLocals ret, Jvm.Cond.code ({ cls := "com/example/keyfold/keyfold/SortedRows", name := "sort", desc := "([JI)[J" } : Jvm.MethodName) prog_98_method_19_code (17 : Nat) (Option.some (Jvm.ClassFile.FieldType.array Jvm.ClassFile.FieldType.long)), Jvm.Cond.code ({ cls := "java/lang/Math", name := "min", desc := "(JJ)J" } : Jvm.MethodName) jdk_29_method_70_code (4 : Nat) (Option.some Jvm.ClassFile.FieldType.long), Jvm.Cond.code ({ cls := "java/lang/Math", name := "max", desc := "(JJ)J" } : Jvm.MethodName) jdk_29_method_66_code (4 : Nat) (Option.some Jvm.ClassFile.FieldType.long), Jvm.Cond.code ({ cls := "com/example/keyfold/keyfold/SortedRowsSortPinLaw", name := "pairOk", desc := "([JIJJ)Z" } : Jvm.MethodName) method_3_code (6 : Nat) (Option.some Jvm.ClassFile.FieldType.boolean)]
set_option maxRecDepth 65536 in
theorem codes_eq : words1.filter isCode = codes1 := rfl
theorem w_codes : ∀ c ∈ words1.filter isCode, c.before args0 about1 = true := by
  rw [codes_eq]
  intro c hc
  simp only [codes1, List.mem_cons, List.not_mem_nil, or_false] at hc
  rcases hc with rfl | rfl | rfl | rfl | rfl
  · exact w_c0
  · exact w_c1
  · exact w_c2
  · exact w_c3
  · exact w_c4
set_option maxRecDepth 65536 in
theorem w_t1 : words1.all (fun c => isCode c || c.before args0 about1) = true := by decide +kernel
theorem w_tables : (allAtoms (Jvm.Cond.code x code maxLocals ret :: tables_1)).before args0 about1 = true := by
  rw [allAtoms_all]
  show words1.all (fun c => c.before args0 about1) = true
  refine all_split ?_ w_codes
  rw [w_t1]
set_option maxRecDepth 65536 in
theorem w_case : (Jvm.Cond.and given_1 narrow_1).before args0 about1 = true := by decide +kernel
theorem w_applies : (headSpec (Jvm.Cond.code x code maxLocals ret :: tables_1) room_1).applies x e0.platform about1 = true :=
  (Spec.applies_iff w_frames).mpr ⟨w_running, w_runnable, w_alone, w_named, w_hears, w_ripe, w_room, w_tables⟩
theorem atStart : AtStart classFile x code maxLocals ret World_1 tables_1 room_1 Calls_1 rest_1 Pre_1 launch0 p0 e0 about1 theMethod args0 below0 :=
  ⟨lists_1, trivial, launch0.admits_env _ _ _, launch0.least_env, fairChoices_fair.cas, fairChoices_fair.clock, w_frames, w_args, w_heap, w_applies, trivial, trivial, w_case⟩
end start1
theorem witness_1 : WitnessClaimed_1 := ⟨start1.p0, start1.e0, start1.about1, start1.theMethod, start1.args0, start1.below0, start1.atStart⟩
end Jvm.Pilot.@@N@@
