import JvmDerived
import JvmDerived.Pilot.@@N@@Statement
import JvmDerived.Pilot.@@N@@Code
set_option linter.unusedVariables false
set_option linter.unusedSimpArgs false
namespace Jvm.RoadKit
open Sem ClassFile Op Lib Jvm.Stand Jvm.Free Jvm.LawKit
section New
variable {p : Program} {l : Launch} {e : Env} {R : Room} {s : State} {m : MethodId} {args : Array Value} {below : List Frame} {meth : Method} {c : Code} {T : State} {locs : List Loc} {cells slots : Nat}
theorem retI (X : Stand p l e R s m args below meth c T locs cells slots) (hx : p.tables.exec = Jvm.exec) {pc : Nat} {Ls : Array Slot} {z : Int32} {rest : List Value} (hret : meth.sig.returnType = some .int) (hd : decode c.code pc = .ok (.ireturn, 1)) {fs : List Frame}
    (hl : ∀ (f : JFrame) (acts : List Action), f.method = m → f.locked = none → f.entered = [] → (doReturn e (T.setTop f) acts (some (.int z))).1 = T.setFrames fs) : Steps p.tables e below (T.setTop (mkF m pc Ls (.int z :: rest))) (T.setFrames fs) := by
  have hm' : T.vm.method? m = some meth := X.method'
  have hn : narrow .int (.int z) = .int z := rfl
  show Steps p.tables e below (T.setTop { method := m, pc := pc, locals := Ls, stack := _ :: rest, locked := none }) _
  jvm_step X.here [X.here.top, hx, hd, hm', hret, hn]
  first | (intro acts; rw [hl _ acts rfl rfl rfl]) | rw [hl _ _ rfl rfl rfl]
  exact Steps.refl _
end New
end Jvm.RoadKit
namespace Jvm.Pilot.@@N@@
open Jvm Jvm.ClassFile Sem Op Lib Jvm.Free Jvm.Stand Jvm.LawKit Jvm.RoadKit Bundle Jvm.Pilot.@@N@@.Jvm.D

/-! byte arrays by a function of the place -/
def own_upd (f : Nat → Int32) (k : Nat) (v : Int32) : Nat → Int32 := fun j => if j = k then v else f j
def BA (Z : State) (h : Heap) (a : Addr) (n : Nat) (f : Nat → Int32) : Prop := ∃ c : Cell, Arr Z h a c .byte ∧ c.slots.size = n ∧ n < 2147483648 ∧ (∀ j, j < n → c.slots[j]? = some (.int (f j))) ∧ ∀ j, j < n → fits .byte (.int (f j)) = true
theorem BA.ext {Z : State} {h h' : Heap} {a : Addr} {n : Nat} {f : Nat → Int32} (B : BA Z h a n f) (E : Ext h h') : BA Z h' a n f := by obtain ⟨c, A, r⟩ := B; exact ⟨c, A.ext E, r⟩
theorem BA.other {Z : State} {h h' : Heap} {a b : Addr} {n sl : Nat} {v : Value} {f : Nat → Int32} (B : BA Z h b n f) (W : Wr h h' a sl v) (q : b ≠ a) : BA Z h' b n f := by obtain ⟨c, A, r⟩ := B; exact ⟨c, A.other W q, r⟩
theorem BA.keep {Z : State} {h h' : Heap} {a : Addr} {n : Nat} {ws : List Addr} {f : Nat → Int32} (B : BA Z h a n f) (K : Keep h h' ws) (q : a ∉ ws) : BA Z h' a n f := by obtain ⟨c, A, r⟩ := B; exact ⟨c, ⟨K.2.1 a c A.1 q, A.2⟩, r⟩
theorem BA.lt {Z : State} {h : Heap} {a : Addr} {n : Nat} {f : Nat → Int32} (B : BA Z h a n f) : a < h.size := by obtain ⟨c, A, r⟩ := B; exact A.lt
theorem BA.congr {Z : State} {h : Heap} {a : Addr} {n : Nat} {f g : Nat → Int32} (B : BA Z h a n f) (q : ∀ j, j < n → f j = g j) : BA Z h a n g := by
  obtain ⟨c, A, S, M, H, G⟩ := B
  exact ⟨c, A, S, M, fun j hj => by rw [← q j hj]; exact H j hj, fun j hj => by rw [← q j hj]; exact G j hj⟩
theorem BA.fits {Z : State} {h : Heap} {a : Addr} {n : Nat} {f : Nat → Int32} (B : BA Z h a n f) {j : Nat} (hj : j < n) : fits .byte (.int (f j)) = true := by
  obtain ⟨c, A, S, M, H, G⟩ := B
  exact G j hj
theorem BA.new {Z : State} {h : Heap} {a : Addr} {k : ClassId} {z : Int32} {n : Nat} (A : Arr Z h a (newA k .byte z) .byte) (hz : z.toInt = (n : Int)) : BA Z h a n (fun _ => 0) := by
  have e : z.toNatClampNeg = n := by show z.toInt.toNat = n; omega
  have hr := rng32 z
  refine ⟨_, A, by rw [sz_new, e], by omega, fun j hj => ?_, fun j hj => (by decide : Jvm.fits .byte (.int (0 : Int32)) = true)⟩
  show (Array.replicate z.toNatClampNeg (defaultValue .byte))[j]? = _
  rw [e, Array.getElem?_replicate, if_pos hj]; rfl
theorem own_in {z : Int32} {k n sz : Nat} (hj : z.toInt = (k : Int)) (hk : k < n) (S : sz = n) : z.toNatClampNeg = k ∧ ¬ (z < 0 ∨ sz ≤ z.toNatClampNeg) := by
  have e1 : z.toNatClampNeg = k := by show z.toInt.toNat = k; omega
  refine ⟨e1, ?_⟩
  rw [e1, S, Int32.lt_iff_toInt_lt]
  have e0 : (0 : Int32).toInt = 0 := by decide
  omega
section Own
variable {p : Program} {l : Launch} {e : Env} {R : Room} {s : State} {m : MethodId} {args : Array Value} {below : List Frame} {meth : Method} {c : Code} {T : State} {locs : List Loc} {cells slots : Nat} {Z : State} {h : Heap} {a : Addr} {n : Nat} {f : Nat → Int32}
theorem own_bload (X : Stand p l e R s m args below meth c T locs cells slots) (hx : p.tables.exec = Jvm.exec) (hZ : Z.Warmed39 s.vm) (eT : T.heap = h) (B : BA Z h a n f) {j : Int32} {k : Nat} (hj : j.toInt = (k : Int)) (hk : k < n) {g : JFrame} (hg : g.method = m) {rest : List Value} (hs : g.stack = .int j :: .ref a :: rest) (hd : decode c.code g.pc = .ok (.baload, 1)) (target : State)
    (hrest : Steps p.tables e below (T.setTop { g with pc := g.pc + 1, stack := .int (f k) :: rest }) target) : Steps p.tables e below (T.setTop g) target := by
  obtain ⟨cl, A, S, -, H, -⟩ := B
  obtain ⟨e1, e2⟩ := own_in hj hk S
  exact X.baloadBytes hx (j := j) (v := .int (f k)) (by rw [eT]; exact A.1) (State.isArrayOf_alike hZ.alike A.2.1) A.2.2 e2 (by rw [e1]; exact H k hk) hg hs hd target hrest
theorem own_blen (X : Stand p l e R s m args below meth c T locs cells slots) (hx : p.tables.exec = Jvm.exec) (hZ : Z.Warmed39 s.vm) (eT : T.heap = h) (B : BA Z h a n f) {g : JFrame} (hg : g.method = m) {rest : List Value} (hs : g.stack = .ref a :: rest) (hd : decode c.code g.pc = .ok (.arraylength, 1)) (target : State)
    (hrest : Steps p.tables e below (T.setTop { g with pc := g.pc + 1, stack := .int (Int32.ofNat n) :: rest }) target) : Steps p.tables e below (T.setTop g) target := by
  obtain ⟨cl, A, S, -, H, -⟩ := B
  refine X.arraylength hx (by rw [eT]; exact A.1) (State.isArrayOf_alike hZ.alike A.2.1) hg hs hd target ?_
  rw [S]; exact hrest
theorem own_bstore (X : Stand p l e R s m args below meth c T locs cells slots) (hx : p.tables.exec = Jvm.exec) (hZ : Z.Warmed39 s.vm) (eT : T.heap = h) (B : BA Z h a n f) {j x v : Int32} {k : Nat} (hj : j.toInt = (k : Int)) (hk : k < n) (hv : x.toInt8.toInt32 = v) {g : JFrame} (hg : g.method = m) {rest : List Value} (hs : g.stack = .int x :: .int j :: .ref a :: rest) (hd : decode c.code g.pc = .ok (.bastore, 1)) :
    ∃ T' h', Stand p l e R s m args below meth c T' (locs ++ [⟨a, k⟩]) cells slots ∧ T'.heap = h' ∧ BA Z h' a n (own_upd f k v) ∧ Wr h h' a k (.int v) ∧ ∀ target, Steps p.tables e below (T'.setTop { g with pc := g.pc + 1, stack := rest }) target → Steps p.tables e below (T.setTop g) target := by
  obtain ⟨cl, A, S, M, H, G⟩ := B
  obtain ⟨e1, e2⟩ := own_in hj hk S
  obtain ⟨T', h', X', e', W, st⟩ := stB X hx hZ eT A (j := j) e2 hg hs hd
  have hn : nar .byte x = v := hv
  rw [e1] at X'
  rw [e1, hn] at W
  refine ⟨T', h', X', e', ⟨_, A.same W, by rw [sz_set, S], M, fun i hi => ?_, fun i hi => ?_⟩, W, st⟩
  · show (cl.slots.setIfInBounds k (.int v))[i]? = _
    rw [Array.getElem?_setIfInBounds]
    unfold own_upd
    by_cases q : k = i
    · subst q; rw [if_pos rfl, if_pos (by rw [S]; exact hk), if_pos rfl]
    · rw [if_neg q, if_neg (fun z => q z.symm)]; exact H i hi
  · unfold own_upd
    by_cases q : i = k
    · rw [if_pos q, ← hv]; exact fits_nar_byte x
    · rw [if_neg q]; exact G i hi
theorem own_bnew (X : Stand p l e R s m args below meth c T locs cells slots) (hx : p.tables.exec = Jvm.exec) (hZ : Z.Warmed39 s.vm) {a0 : Array Value} (w : (Cond.arrayClass .byte).before a0 Z = true) (eT : T.heap = h) {g : JFrame} (hg : g.method = m) (hd : decode c.code g.pc = .ok (.newarray .byte, 2)) {z : Int32} {rest : List Value} (hs : g.stack = .int z :: rest)
    (hz : z.toInt = (n : Int)) (hb : n * 8 ≤ 536870912) (hc : cells + 1 ≤ R.cells) (hl : slots + n ≤ R.slots) :
    ∃ T' h', Stand p l e R s m args below meth c T' locs (cells + 1) (slots + n) ∧ T'.heap = h' ∧ Ext h h' ∧ BA Z h' h.size n (fun _ => 0) ∧ Exa Z h' h.size "[B" ∧
      ∀ target, Steps p.tables e below (T'.setTop { g with pc := g.pc + 2, stack := .ref h.size :: rest }) target → Steps p.tables e below (T.setTop g) target := by
  have e1 : z.toNatClampNeg = n := by show z.toInt.toNat = n; omega
  have e0 : (0 : Int32).toInt = 0 := by decide
  obtain ⟨T', h', cA, X', e', E, A, Ex, st⟩ := newPE X hx hZ (aty := .byte) w eT hg hd hs (by rw [Int32.lt_iff_toInt_lt]; omega) (cap := n) (by omega) hb hc hl (ad := "[B") (by decide)
  exact ⟨T', h', X', e', E, BA.new A hz, Ex, st⟩
end Own
theorem own_b8 (x : Int32) : x.toInt8.toInt32.toInt8.toInt32 = x.toInt8.toInt32 := by simp

theorem own_at (f : Nat → Int32) (k : Nat) (v : Int32) : own_upd f k v k = v := if_pos rfl
theorem own_ne {f : Nat → Int32} {j k : Nat} {v : Int32} (h : j ≠ k) : own_upd f k v j = f j := if_neg h
def own_by (q : Int64) (k : Int32) : Int32 := (((q.toUInt64 >>> (k &&& 0x3f).toInt64.toUInt64).toInt64).toInt32).toInt8.toInt32
def own_put (q : Int64) (f : Nat → Int32) (o : Nat) : Nat → Int32 := (own_upd (own_upd (own_upd (own_upd (own_upd (own_upd (own_upd (own_upd f o (own_by q (56 : Int32))) (o + 1) (own_by q (48 : Int32))) (o + 2) (own_by q (40 : Int32))) (o + 3) (own_by q (32 : Int32))) (o + 4) (own_by q (24 : Int32))) (o + 5) (own_by q (16 : Int32))) (o + 6) (own_by q (8 : Int32))) (o + 7) (q.toInt32.toInt8.toInt32))
def own_get (f : Nat → Int32) (o : Nat) : Int64 := (((((((((((f o) &&& (255 : Int32)).toInt64) <<< ((56 : Int32) &&& 0x3f).toInt64) ||| ((((f (o + 1)) &&& (255 : Int32)).toInt64) <<< ((48 : Int32) &&& 0x3f).toInt64)) ||| ((((f (o + 2)) &&& (255 : Int32)).toInt64) <<< ((40 : Int32) &&& 0x3f).toInt64)) ||| ((((f (o + 3)) &&& (255 : Int32)).toInt64) <<< ((32 : Int32) &&& 0x3f).toInt64)) ||| ((((f (o + 4)) &&& (255 : Int32)).toInt64) <<< ((24 : Int32) &&& 0x3f).toInt64)) ||| ((((f (o + 5)) &&& (255 : Int32)).toInt64) <<< ((16 : Int32) &&& 0x3f).toInt64)) ||| ((((f (o + 6)) &&& (255 : Int32)).toInt64) <<< ((8 : Int32) &&& 0x3f).toInt64)) ||| (((f (o + 7)) &&& (255 : Int32)).toInt64))
def own_lm (x : Int32) : Int64 := if x < 8 then (((1 : Int64) <<< (((8 : Int32) * x) &&& 0x3f).toInt64) - (1 : Int64)) else (-1 : Int64)
/-! digits -/
def own_ub (x : Int32) : Int := x.toInt % 256
def own_L (b : Nat) (f : Nat → Int32) : Nat → Int
  | 0 => 0
  | k + 1 => own_L b f k + own_ub (f (b - k)) * 256 ^ k
theorem own_ub_rng (x : Int32) : 0 ≤ own_ub x ∧ own_ub x < 256 := by unfold own_ub; omega
theorem own_ub_and (x : Int32) : (x &&& (255 : Int32)).toInt = own_ub x := c_mask x 255 8 (by decide) (by decide)
theorem own_pow (k : Nat) : (256 : Int) ^ (k + 1) = 256 * 256 ^ k := by rw [Int.pow_succ, Int.mul_comm]
theorem own_pow_pos (k : Nat) : (0 : Int) < 256 ^ k := by
  induction k with
  | zero => decide
  | succ k ih => rw [own_pow]; omega
theorem own_L_rng (b : Nat) (f : Nat → Int32) (k : Nat) : 0 ≤ own_L b f k ∧ own_L b f k < 256 ^ k := by
  induction k with
  | zero => exact ⟨Int.le_refl _, (by decide : (0 : Int) < 256 ^ 0)⟩
  | succ k ih =>
    have h := own_ub_rng (f (b - k))
    have hp := own_pow_pos k
    have h1 : 0 ≤ own_ub (f (b - k)) * 256 ^ k := Int.mul_nonneg h.1 (by omega)
    have h2 : own_ub (f (b - k)) * 256 ^ k ≤ 255 * 256 ^ k := Int.mul_le_mul_of_nonneg_right (by omega) (by omega)
    show 0 ≤ own_L b f k + own_ub (f (b - k)) * 256 ^ k ∧ own_L b f k + own_ub (f (b - k)) * 256 ^ k < 256 ^ (k + 1)
    rw [own_pow]
    omega
theorem own_L_congr (b : Nat) {f g : Nat → Int32} (k : Nat) (h : ∀ j, j < k → f (b - j) = g (b - j)) : own_L b f k = own_L b g k := by
  induction k with
  | zero => rfl
  | succ k ih =>
    show own_L b f k + own_ub (f (b - k)) * 256 ^ k = own_L b g k + own_ub (g (b - k)) * 256 ^ k
    rw [ih (fun j hj => h j (by omega)), h k (by omega)]
theorem own_split (f g : Nat → Int32) (b n : Nat) : ∀ r, n + r ≤ b + 1 → (∀ j, j < b + 1 - n → g j = f j) → ∃ U : Int, own_L b f (n + r) = own_L b f n + 256 ^ n * U ∧ own_L b g (n + r) = own_L b g n + 256 ^ n * U := by
  intro r
  induction r with
  | zero => intro _ _; exact ⟨0, by rw [Int.mul_zero, Int.add_zero, Nat.add_zero], by rw [Int.mul_zero, Int.add_zero, Nat.add_zero]⟩
  | succ r ih =>
    intro hr hj
    obtain ⟨U, h1, h2⟩ := ih (by omega) hj
    refine ⟨U + own_ub (f (b - (n + r))) * 256 ^ r, ?_, ?_⟩
    · show own_L b f (n + r) + own_ub (f (b - (n + r))) * 256 ^ (n + r) = _
      rw [h1, Int.mul_add, Int.pow_add, Int.mul_left_comm, Int.add_assoc]
    · show own_L b g (n + r) + own_ub (g (b - (n + r))) * 256 ^ (n + r) = _
      rw [h2, hj (b - (n + r)) (by omega), Int.mul_add, Int.pow_add, Int.mul_left_comm, Int.add_assoc]
theorem own_hi (f : Nat → Int32) : ∀ k, k ≤ 8 → own_L 15 f (8 + k) = own_L 15 f 8 + 256 ^ 8 * own_L 7 f k := by
  intro k
  induction k with
  | zero => intro _; rw [show own_L 7 f 0 = 0 from rfl, Int.mul_zero, Int.add_zero, Nat.add_zero]
  | succ k ih =>
    intro hk
    show own_L 15 f (8 + k) + own_ub (f (15 - (8 + k))) * 256 ^ (8 + k) = own_L 15 f 8 + 256 ^ 8 * (own_L 7 f k + own_ub (f (7 - k)) * 256 ^ k)
    rw [ih (by omega), show 15 - (8 + k) = 7 - k from by omega, Int.mul_add, Int.pow_add, Int.mul_left_comm, Int.add_assoc]
/-- what increment leaves -/
def own_P (k : Nat) (f g : Nat → Int32) (c : Int) : Prop := (∀ j, j < 16 - k → g j = f j) ∧ (c = 0 ∨ c = 1) ∧ own_L 15 g k + c * 256 ^ k = own_L 15 f k + 1
theorem own_P0 (f : Nat → Int32) : own_P 0 f f 1 := ⟨fun _ _ => rfl, Or.inr rfl, by show (0 : Int) + 1 * 256 ^ 0 = 0 + 1; decide⟩
def own_sm (c : Int32) (g : Nat → Int32) (j : Nat) : Int32 := (c + ((g j) &&& (255 : Int32)))
theorem own_turn {k : Nat} {f g : Nat → Int32} {c : Int32} (hk : k < 16) (h : own_P k f g c.toInt) :
    own_P (k + 1) f (own_upd g (15 - k) (own_sm c g (15 - k)).toInt8.toInt32) ((own_sm c g (15 - k)).toUInt32 >>> ((8 : Int32) &&& 31).toUInt32).toInt32.toInt := by
  obtain ⟨h1, h2, h3⟩ := h
  have hu := own_ub_and (g (15 - k))
  have hr := own_ub_rng (g (15 - k))
  have ha := c_iadd c (g (15 - k) &&& 255)
  have hr2 := rng32 (own_sm c g (15 - k))
  have hs : (own_sm c g (15 - k)).toInt = c.toInt + own_ub (g (15 - k)) := by unfold own_sm at hr2 ⊢; omega
  have hb := c_i2b (own_sm c g (15 - k))
  have hc := c_iushr (own_sm c g (15 - k)) 8 8 (by decide) (by decide)
  have hb' : own_ub (own_sm c g (15 - k)).toInt8.toInt32 = (c.toInt + own_ub (g (15 - k))) % 256 := by unfold own_ub at hs ⊢; omega
  have hc' : ((own_sm c g (15 - k)).toUInt32 >>> ((8 : Int32) &&& 31).toUInt32).toInt32.toInt = (c.toInt + own_ub (g (15 - k))) / 256 := by rw [hc]; omega
  have hL : own_L 15 (own_upd g (15 - k) (own_sm c g (15 - k)).toInt8.toInt32) k = own_L 15 g k := own_L_congr 15 k fun j hj => own_ne (by omega)
  have hg : g (15 - k) = f (15 - k) := h1 _ (by omega)
  refine ⟨fun j hj => ?_, ?_, ?_⟩
  · rw [own_ne (by omega)]; exact h1 j (by omega)
  · rw [hc']; omega
  · show own_L 15 (own_upd g (15 - k) (own_sm c g (15 - k)).toInt8.toInt32) k + own_ub (own_upd g (15 - k) (own_sm c g (15 - k)).toInt8.toInt32 (15 - k)) * 256 ^ k + _ * 256 ^ (k + 1) = own_L 15 f k + own_ub (f (15 - k)) * 256 ^ k + 1
    rw [hL, own_at, hb', hc', own_pow, ← hg]
    have e : ((c.toInt + own_ub (g (15 - k))) % 256) + 256 * ((c.toInt + own_ub (g (15 - k))) / 256) = c.toInt + own_ub (g (15 - k)) := Int.emod_add_mul_ediv _ _
    have e2 : ((c.toInt + own_ub (g (15 - k))) / 256) * (256 * 256 ^ k) = (256 * ((c.toInt + own_ub (g (15 - k))) / 256)) * 256 ^ k := by rw [Int.mul_left_comm, Int.mul_assoc]
    rw [e2, Int.add_assoc, ← Int.add_mul, e, Int.add_mul]
    omega
/-! the two halves -/
theorem own_by_at (q : Int64) (k : Int32) (n : Nat) (hk : k.toBitVec.toNat % 64 = n) (h0 : 0 < n) (h1 : n ≤ 56) : own_ub (own_by q k) = ((q.toInt % 18446744073709551616) / (2 ^ n : Nat)) % 256 := by
  have e2 := c_i2b (((q.toUInt64 >>> (k &&& 0x3f).toInt64.toUInt64).toInt64).toInt32)
  have e3 := c_l2i ((q.toUInt64 >>> (k &&& 0x3f).toInt64.toUInt64).toInt64)
  have e4 := c_lushr q k n hk h0
  unfold own_by own_ub
  rw [e4] at e3
  omega
theorem own_by_0 (q : Int64) : own_ub q.toInt32.toInt8.toInt32 = q.toInt % 256 := by
  have e2 := c_i2b q.toInt32
  have e3 := c_l2i q
  unfold own_ub
  omega
theorem own_put0 (q : Int64) (f : Nat → Int32) (o : Nat) : own_put q f o (o) = (own_by q (56 : Int32)) := by
  unfold own_put
  rw [own_ne (by omega), own_ne (by omega), own_ne (by omega), own_ne (by omega), own_ne (by omega), own_ne (by omega), own_ne (by omega), own_at]
theorem own_put1 (q : Int64) (f : Nat → Int32) (o : Nat) : own_put q f o (o + 1) = (own_by q (48 : Int32)) := by
  unfold own_put
  rw [own_ne (by omega), own_ne (by omega), own_ne (by omega), own_ne (by omega), own_ne (by omega), own_ne (by omega), own_at]
theorem own_put2 (q : Int64) (f : Nat → Int32) (o : Nat) : own_put q f o (o + 2) = (own_by q (40 : Int32)) := by
  unfold own_put
  rw [own_ne (by omega), own_ne (by omega), own_ne (by omega), own_ne (by omega), own_ne (by omega), own_at]
theorem own_put3 (q : Int64) (f : Nat → Int32) (o : Nat) : own_put q f o (o + 3) = (own_by q (32 : Int32)) := by
  unfold own_put
  rw [own_ne (by omega), own_ne (by omega), own_ne (by omega), own_ne (by omega), own_at]
theorem own_put4 (q : Int64) (f : Nat → Int32) (o : Nat) : own_put q f o (o + 4) = (own_by q (24 : Int32)) := by
  unfold own_put
  rw [own_ne (by omega), own_ne (by omega), own_ne (by omega), own_at]
theorem own_put5 (q : Int64) (f : Nat → Int32) (o : Nat) : own_put q f o (o + 5) = (own_by q (16 : Int32)) := by
  unfold own_put
  rw [own_ne (by omega), own_ne (by omega), own_at]
theorem own_put6 (q : Int64) (f : Nat → Int32) (o : Nat) : own_put q f o (o + 6) = (own_by q (8 : Int32)) := by
  unfold own_put
  rw [own_ne (by omega), own_at]
theorem own_put7 (q : Int64) (f : Nat → Int32) (o : Nat) : own_put q f o (o + 7) = (q.toInt32.toInt8.toInt32) := by
  unfold own_put
  rw [own_at]
theorem own_putu (q : Int64) (f : Nat → Int32) (o j : Nat) (h : ¬ (o ≤ j ∧ j < o + 8)) : own_put q f o j = f j := by
  unfold own_put
  rw [own_ne (by omega), own_ne (by omega), own_ne (by omega), own_ne (by omega), own_ne (by omega), own_ne (by omega), own_ne (by omega), own_ne (by omega)]
/-- the eight bytes at o, as a number -/
theorem own_num (q : Int64) (g : Nat → Int32) (o : Nat) (h0 : g (o) = (own_by q (56 : Int32))) (h1 : g (o + 1) = (own_by q (48 : Int32))) (h2 : g (o + 2) = (own_by q (40 : Int32))) (h3 : g (o + 3) = (own_by q (32 : Int32))) (h4 : g (o + 4) = (own_by q (24 : Int32))) (h5 : g (o + 5) = (own_by q (16 : Int32))) (h6 : g (o + 6) = (own_by q (8 : Int32))) (h7 : g (o + 7) = (q.toInt32.toInt8.toInt32)) : own_L (o + 7) g 8 = q.toInt % 18446744073709551616 := by
  show 0 + own_ub (g (o + 7 - 0)) * 256 ^ 0 + own_ub (g (o + 7 - 1)) * 256 ^ 1 + own_ub (g (o + 7 - 2)) * 256 ^ 2 + own_ub (g (o + 7 - 3)) * 256 ^ 3 + own_ub (g (o + 7 - 4)) * 256 ^ 4 + own_ub (g (o + 7 - 5)) * 256 ^ 5 + own_ub (g (o + 7 - 6)) * 256 ^ 6 + own_ub (g (o + 7 - 7)) * 256 ^ 7 = _
  rw [show o + 7 - 0 = o + 7 from by omega]
  rw [show o + 7 - 1 = o + 6 from by omega]
  rw [show o + 7 - 2 = o + 5 from by omega]
  rw [show o + 7 - 3 = o + 4 from by omega]
  rw [show o + 7 - 4 = o + 3 from by omega]
  rw [show o + 7 - 5 = o + 2 from by omega]
  rw [show o + 7 - 6 = o + 1 from by omega]
  rw [show o + 7 - 7 = o from by omega]
  rw [h0, h1, h2, h3, h4, h5, h6, h7]
  have b0 := own_by_at q 56 56 (by decide) (by decide) (by decide)
  have b1 := own_by_at q 48 48 (by decide) (by decide) (by decide)
  have b2 := own_by_at q 40 40 (by decide) (by decide) (by decide)
  have b3 := own_by_at q 32 32 (by decide) (by decide) (by decide)
  have b4 := own_by_at q 24 24 (by decide) (by decide) (by decide)
  have b5 := own_by_at q 16 16 (by decide) (by decide) (by decide)
  have b6 := own_by_at q 8 8 (by decide) (by decide) (by decide)
  have b7 := own_by_0 q
  rw [b0, b1, b2, b3, b4, b5, b6, b7]
  have hr := rng64 q
  omega
theorem own_sh (x : Int32) (k : Int32) (n : Nat) (hk : k.toBitVec.toNat % 64 = n) : (((x &&& (255 : Int32)).toInt64 <<< (k &&& 0x3f).toInt64).toInt - own_ub x * (2 ^ n : Nat)) % 18446744073709551616 = 0 := by
  have h := c_lshl (x &&& 255).toInt64 k n hk
  rw [c_i2l, own_ub_and] at h
  exact h
theorem own_num_get (g : Nat → Int32) (o : Nat) : ((own_get g o).toInt - own_L (o + 7) g 8) % 18446744073709551616 = 0 := by
  have hL : own_L (o + 7) g 8 = 0 + own_ub (g (o + 7)) * 256 ^ 0 + own_ub (g (o + 6)) * 256 ^ 1 + own_ub (g (o + 5)) * 256 ^ 2 + own_ub (g (o + 4)) * 256 ^ 3 + own_ub (g (o + 3)) * 256 ^ 4 + own_ub (g (o + 2)) * 256 ^ 5 + own_ub (g (o + 1)) * 256 ^ 6 + own_ub (g (o)) * 256 ^ 7 := by
    show 0 + own_ub (g (o + 7 - 0)) * 256 ^ 0 + own_ub (g (o + 7 - 1)) * 256 ^ 1 + own_ub (g (o + 7 - 2)) * 256 ^ 2 + own_ub (g (o + 7 - 3)) * 256 ^ 3 + own_ub (g (o + 7 - 4)) * 256 ^ 4 + own_ub (g (o + 7 - 5)) * 256 ^ 5 + own_ub (g (o + 7 - 6)) * 256 ^ 6 + own_ub (g (o + 7 - 7)) * 256 ^ 7 = _
    rw [show o + 7 - 0 = o + 7 from by omega]
    rw [show o + 7 - 1 = o + 6 from by omega]
    rw [show o + 7 - 2 = o + 5 from by omega]
    rw [show o + 7 - 3 = o + 4 from by omega]
    rw [show o + 7 - 4 = o + 3 from by omega]
    rw [show o + 7 - 5 = o + 2 from by omega]
    rw [show o + 7 - 6 = o + 1 from by omega]
    rw [show o + 7 - 7 = o from by omega]
  rw [hL]
  unfold own_get
  have s0 := own_sh (g (o)) 56 56 (by decide)
  have s1 := own_sh (g (o + 1)) 48 48 (by decide)
  have s2 := own_sh (g (o + 2)) 40 40 (by decide)
  have s3 := own_sh (g (o + 3)) 32 32 (by decide)
  have s4 := own_sh (g (o + 4)) 24 24 (by decide)
  have s5 := own_sh (g (o + 5)) 16 16 (by decide)
  have s6 := own_sh (g (o + 6)) 8 8 (by decide)
  have s7 : ((g (o + 7) &&& (255 : Int32)).toInt64).toInt = own_ub (g (o + 7)) := by rw [c_i2l, own_ub_and]
  have u0 := own_ub_rng (g (o))
  have u1 := own_ub_rng (g (o + 1))
  have u2 := own_ub_rng (g (o + 2))
  have u3 := own_ub_rng (g (o + 3))
  have u4 := own_ub_rng (g (o + 4))
  have u5 := own_ub_rng (g (o + 5))
  have u6 := own_ub_rng (g (o + 6))
  have u7 := own_ub_rng (g (o + 7))
  obtain ⟨x0, e0⟩ : ∃ z, (((g (o) &&& (255 : Int32)).toInt64) <<< ((56 : Int32) &&& 0x3f).toInt64) = z := ⟨_, rfl⟩
  rw [e0] at s0 ⊢
  obtain ⟨x1, e1⟩ : ∃ z, (((g (o + 1) &&& (255 : Int32)).toInt64) <<< ((48 : Int32) &&& 0x3f).toInt64) = z := ⟨_, rfl⟩
  rw [e1] at s1 ⊢
  obtain ⟨x2, e2⟩ : ∃ z, (((g (o + 2) &&& (255 : Int32)).toInt64) <<< ((40 : Int32) &&& 0x3f).toInt64) = z := ⟨_, rfl⟩
  rw [e2] at s2 ⊢
  obtain ⟨x3, e3⟩ : ∃ z, (((g (o + 3) &&& (255 : Int32)).toInt64) <<< ((32 : Int32) &&& 0x3f).toInt64) = z := ⟨_, rfl⟩
  rw [e3] at s3 ⊢
  obtain ⟨x4, e4⟩ : ∃ z, (((g (o + 4) &&& (255 : Int32)).toInt64) <<< ((24 : Int32) &&& 0x3f).toInt64) = z := ⟨_, rfl⟩
  rw [e4] at s4 ⊢
  obtain ⟨x5, e5⟩ : ∃ z, (((g (o + 5) &&& (255 : Int32)).toInt64) <<< ((16 : Int32) &&& 0x3f).toInt64) = z := ⟨_, rfl⟩
  rw [e5] at s5 ⊢
  obtain ⟨x6, e6⟩ : ∃ z, (((g (o + 6) &&& (255 : Int32)).toInt64) <<< ((8 : Int32) &&& 0x3f).toInt64) = z := ⟨_, rfl⟩
  rw [e6] at s6 ⊢
  obtain ⟨x7, e7⟩ : ∃ z, ((g (o + 7) &&& (255 : Int32)).toInt64) = z := ⟨_, rfl⟩
  rw [e7] at s7 ⊢
  obtain ⟨v0, f0⟩ : ∃ z, own_ub (g (o)) = z := ⟨_, rfl⟩
  rw [f0] at s0 u0 ⊢
  obtain ⟨v1, f1⟩ : ∃ z, own_ub (g (o + 1)) = z := ⟨_, rfl⟩
  rw [f1] at s1 u1 ⊢
  obtain ⟨v2, f2⟩ : ∃ z, own_ub (g (o + 2)) = z := ⟨_, rfl⟩
  rw [f2] at s2 u2 ⊢
  obtain ⟨v3, f3⟩ : ∃ z, own_ub (g (o + 3)) = z := ⟨_, rfl⟩
  rw [f3] at s3 u3 ⊢
  obtain ⟨v4, f4⟩ : ∃ z, own_ub (g (o + 4)) = z := ⟨_, rfl⟩
  rw [f4] at s4 u4 ⊢
  obtain ⟨v5, f5⟩ : ∃ z, own_ub (g (o + 5)) = z := ⟨_, rfl⟩
  rw [f5] at s5 u5 ⊢
  obtain ⟨v6, f6⟩ : ∃ z, own_ub (g (o + 6)) = z := ⟨_, rfl⟩
  rw [f6] at s6 u6 ⊢
  obtain ⟨v7, f7⟩ : ∃ z, own_ub (g (o + 7)) = z := ⟨_, rfl⟩
  rw [f7] at s7 u7 ⊢
  have r0 := rng64 x0
  have r1 := rng64 x1
  have r2 := rng64 x2
  have r3 := rng64 x3
  have r4 := rng64 x4
  have r5 := rng64 x5
  have r6 := rng64 x6
  have r7 := rng64 x7
  have o1 := c_orL (x0) x1 56 (by decide) 72057594037927936 (by decide) (by omega) (by omega) (by omega)
  have q1 := rng64 (x0 ||| x1)
  have o2 := c_orL (x0 ||| x1) x2 48 (by decide) 281474976710656 (by decide) (by omega) (by omega) (by omega)
  have q2 := rng64 ((x0 ||| x1) ||| x2)
  have o3 := c_orL ((x0 ||| x1) ||| x2) x3 40 (by decide) 1099511627776 (by decide) (by omega) (by omega) (by omega)
  have q3 := rng64 (((x0 ||| x1) ||| x2) ||| x3)
  have o4 := c_orL (((x0 ||| x1) ||| x2) ||| x3) x4 32 (by decide) 4294967296 (by decide) (by omega) (by omega) (by omega)
  have q4 := rng64 ((((x0 ||| x1) ||| x2) ||| x3) ||| x4)
  have o5 := c_orL ((((x0 ||| x1) ||| x2) ||| x3) ||| x4) x5 24 (by decide) 16777216 (by decide) (by omega) (by omega) (by omega)
  have q5 := rng64 (((((x0 ||| x1) ||| x2) ||| x3) ||| x4) ||| x5)
  have o6 := c_orL (((((x0 ||| x1) ||| x2) ||| x3) ||| x4) ||| x5) x6 16 (by decide) 65536 (by decide) (by omega) (by omega) (by omega)
  have q6 := rng64 ((((((x0 ||| x1) ||| x2) ||| x3) ||| x4) ||| x5) ||| x6)
  have o7 := c_orL ((((((x0 ||| x1) ||| x2) ||| x3) ||| x4) ||| x5) ||| x6) x7 8 (by decide) 256 (by decide) (by omega) (by omega) (by omega)
  have q7 := rng64 (((((((x0 ||| x1) ||| x2) ||| x3) ||| x4) ||| x5) ||| x6) ||| x7)
  omega

theorem own_andn (x m : Int64) : x &&& (m ^^^ (-1 : Int64)) = x - (x &&& m) := by
  have h1 : (x &&& m) + (x &&& (m ^^^ (-1 : Int64))) = x := by
    refine Int64.toBitVec_inj.mp ?_
    have e : (-1 : Int64).toBitVec = BitVec.allOnes 64 := by decide
    rw [Int64.toBitVec_add, Int64.toBitVec_and, Int64.toBitVec_and, Int64.toBitVec_xor, e, BitVec.xor_allOnes]
    rw [BitVec.add_eq_or_of_and_eq_zero]
    · ext i hi
      simp only [BitVec.getElem_or, BitVec.getElem_and, BitVec.getElem_not]
      cases x.toBitVec[i] <;> cases m.toBitVec[i] <;> rfl
    · ext i hi
      simp only [BitVec.getElem_and, BitVec.getElem_not, BitVec.getElem_zero]
      cases x.toBitVec[i] <;> cases m.toBitVec[i] <;> rfl
  have h2 := c_ladd (x &&& m) (x &&& (m ^^^ (-1 : Int64)))
  have h3 := c_lsub x (x &&& m)
  rw [h1] at h2
  have r1 := rng64 (x &&& (m ^^^ (-1 : Int64)))
  have r2 := rng64 (x - (x &&& m))
  refine Int64.toInt_inj.mp ?_
  omega
theorem own_msk1 (x d : Int64) : (((x &&& ((255 : Int64) ^^^ (-1 : Int64))) ||| ((x + d) &&& (255 : Int64))).toInt - ((x.toInt - x.toInt % 256) + (x.toInt + d.toInt) % 256)) % 18446744073709551616 = 0 := by
  have a1 := c_maskL x 255 8 (by decide) (by decide)
  have a2 := c_maskL (x + d) 255 8 (by decide) (by decide)
  have a3 := own_andn x 255
  have a4 := c_lsub x (x &&& 255)
  have a5 := c_ladd x d
  rw [← a3] at a4
  have r1 := rng64 (x &&& ((255 : Int64) ^^^ (-1 : Int64)))
  have r2 := rng64 (x + d)
  rw [a1] at a4
  have o1 := c_orL (x &&& ((255 : Int64) ^^^ (-1 : Int64))) ((x + d) &&& (255 : Int64)) 8 (by decide) 256 (by decide) (by omega) (by omega) (by omega)
  rw [a2] at o1
  omega
theorem own_msk2 (x d : Int64) : (((x &&& ((65535 : Int64) ^^^ (-1 : Int64))) ||| ((x + d) &&& (65535 : Int64))).toInt - ((x.toInt - x.toInt % 65536) + (x.toInt + d.toInt) % 65536)) % 18446744073709551616 = 0 := by
  have a1 := c_maskL x 65535 16 (by decide) (by decide)
  have a2 := c_maskL (x + d) 65535 16 (by decide) (by decide)
  have a3 := own_andn x 65535
  have a4 := c_lsub x (x &&& 65535)
  have a5 := c_ladd x d
  rw [← a3] at a4
  have r1 := rng64 (x &&& ((65535 : Int64) ^^^ (-1 : Int64)))
  have r2 := rng64 (x + d)
  rw [a1] at a4
  have o1 := c_orL (x &&& ((65535 : Int64) ^^^ (-1 : Int64))) ((x + d) &&& (65535 : Int64)) 16 (by decide) 65536 (by decide) (by omega) (by omega) (by omega)
  rw [a2] at o1
  omega
theorem own_msk3 (x d : Int64) : (((x &&& ((16777215 : Int64) ^^^ (-1 : Int64))) ||| ((x + d) &&& (16777215 : Int64))).toInt - ((x.toInt - x.toInt % 16777216) + (x.toInt + d.toInt) % 16777216)) % 18446744073709551616 = 0 := by
  have a1 := c_maskL x 16777215 24 (by decide) (by decide)
  have a2 := c_maskL (x + d) 16777215 24 (by decide) (by decide)
  have a3 := own_andn x 16777215
  have a4 := c_lsub x (x &&& 16777215)
  have a5 := c_ladd x d
  rw [← a3] at a4
  have r1 := rng64 (x &&& ((16777215 : Int64) ^^^ (-1 : Int64)))
  have r2 := rng64 (x + d)
  rw [a1] at a4
  have o1 := c_orL (x &&& ((16777215 : Int64) ^^^ (-1 : Int64))) ((x + d) &&& (16777215 : Int64)) 24 (by decide) 16777216 (by decide) (by omega) (by omega) (by omega)
  rw [a2] at o1
  omega
theorem own_msk4 (x d : Int64) : (((x &&& ((4294967295 : Int64) ^^^ (-1 : Int64))) ||| ((x + d) &&& (4294967295 : Int64))).toInt - ((x.toInt - x.toInt % 4294967296) + (x.toInt + d.toInt) % 4294967296)) % 18446744073709551616 = 0 := by
  have a1 := c_maskL x 4294967295 32 (by decide) (by decide)
  have a2 := c_maskL (x + d) 4294967295 32 (by decide) (by decide)
  have a3 := own_andn x 4294967295
  have a4 := c_lsub x (x &&& 4294967295)
  have a5 := c_ladd x d
  rw [← a3] at a4
  have r1 := rng64 (x &&& ((4294967295 : Int64) ^^^ (-1 : Int64)))
  have r2 := rng64 (x + d)
  rw [a1] at a4
  have o1 := c_orL (x &&& ((4294967295 : Int64) ^^^ (-1 : Int64))) ((x + d) &&& (4294967295 : Int64)) 32 (by decide) 4294967296 (by decide) (by omega) (by omega) (by omega)
  rw [a2] at o1
  omega
theorem own_msk5 (x d : Int64) : (((x &&& ((1099511627775 : Int64) ^^^ (-1 : Int64))) ||| ((x + d) &&& (1099511627775 : Int64))).toInt - ((x.toInt - x.toInt % 1099511627776) + (x.toInt + d.toInt) % 1099511627776)) % 18446744073709551616 = 0 := by
  have a1 := c_maskL x 1099511627775 40 (by decide) (by decide)
  have a2 := c_maskL (x + d) 1099511627775 40 (by decide) (by decide)
  have a3 := own_andn x 1099511627775
  have a4 := c_lsub x (x &&& 1099511627775)
  have a5 := c_ladd x d
  rw [← a3] at a4
  have r1 := rng64 (x &&& ((1099511627775 : Int64) ^^^ (-1 : Int64)))
  have r2 := rng64 (x + d)
  rw [a1] at a4
  have o1 := c_orL (x &&& ((1099511627775 : Int64) ^^^ (-1 : Int64))) ((x + d) &&& (1099511627775 : Int64)) 40 (by decide) 1099511627776 (by decide) (by omega) (by omega) (by omega)
  rw [a2] at o1
  omega
theorem own_msk6 (x d : Int64) : (((x &&& ((281474976710655 : Int64) ^^^ (-1 : Int64))) ||| ((x + d) &&& (281474976710655 : Int64))).toInt - ((x.toInt - x.toInt % 281474976710656) + (x.toInt + d.toInt) % 281474976710656)) % 18446744073709551616 = 0 := by
  have a1 := c_maskL x 281474976710655 48 (by decide) (by decide)
  have a2 := c_maskL (x + d) 281474976710655 48 (by decide) (by decide)
  have a3 := own_andn x 281474976710655
  have a4 := c_lsub x (x &&& 281474976710655)
  have a5 := c_ladd x d
  rw [← a3] at a4
  have r1 := rng64 (x &&& ((281474976710655 : Int64) ^^^ (-1 : Int64)))
  have r2 := rng64 (x + d)
  rw [a1] at a4
  have o1 := c_orL (x &&& ((281474976710655 : Int64) ^^^ (-1 : Int64))) ((x + d) &&& (281474976710655 : Int64)) 48 (by decide) 281474976710656 (by decide) (by omega) (by omega) (by omega)
  rw [a2] at o1
  omega
theorem own_msk7 (x d : Int64) : (((x &&& ((72057594037927935 : Int64) ^^^ (-1 : Int64))) ||| ((x + d) &&& (72057594037927935 : Int64))).toInt - ((x.toInt - x.toInt % 72057594037927936) + (x.toInt + d.toInt) % 72057594037927936)) % 18446744073709551616 = 0 := by
  have a1 := c_maskL x 72057594037927935 56 (by decide) (by decide)
  have a2 := c_maskL (x + d) 72057594037927935 56 (by decide) (by decide)
  have a3 := own_andn x 72057594037927935
  have a4 := c_lsub x (x &&& 72057594037927935)
  have a5 := c_ladd x d
  rw [← a3] at a4
  have r1 := rng64 (x &&& ((72057594037927935 : Int64) ^^^ (-1 : Int64)))
  have r2 := rng64 (x + d)
  rw [a1] at a4
  have o1 := c_orL (x &&& ((72057594037927935 : Int64) ^^^ (-1 : Int64))) ((x + d) &&& (72057594037927935 : Int64)) 56 (by decide) 72057594037927936 (by decide) (by omega) (by omega) (by omega)
  rw [a2] at o1
  omega
theorem own_msk8 (x d : Int64) : ((x &&& ((-1 : Int64) ^^^ (-1 : Int64))) ||| ((x + d) &&& (-1 : Int64))) = x + d := by
  rw [show ((-1 : Int64) ^^^ (-1 : Int64)) = 0 from by decide, Int64.and_zero, Int64.zero_or, Int64.and_neg_one]
theorem own_int {n : Int32} {k : Nat} (h : n.toInt = (k : Int)) : n = Int32.ofInt k := by rw [← h]; exact (Int32.ofInt_toInt n).symm
set_option maxHeartbeats 8000000 in
theorem own_finA {n : Int32} {k : Nat} {f g : Nat → Int32} {c : Int} {hi lo : Int64} (hn : n.toInt = (k : Int)) (h1 : 1 ≤ k) (h8 : k ≤ 8) (hf : own_L 15 f 8 = lo.toInt % 18446744073709551616) (hf' : own_L 7 f 8 = hi.toInt % 18446744073709551616) (P : own_P k f g c) :
    own_get g 0 = hi ∧ own_get g 8 = ((lo &&& ((own_lm n) ^^^ (-1 : Int64))) ||| ((lo + (1 : Int64)) &&& (own_lm n))) := by
  obtain ⟨p1, p2, p3⟩ := P
  have g0 := own_num_get g 0
  have g8 := own_num_get g 8
  have e7 : own_L (0 + 7) g 8 = own_L 7 f 8 := own_L_congr 7 8 fun j hj => p1 _ (by omega)
  have e1 : (1 : Int64).toInt = 1 := by decide
  rw [e7, hf'] at g0
  have r0 := rng64 (own_get g 0)
  have r1 := rng64 hi
  have rl := rng64 lo
  have r8 := rng64 (own_get g 8)
  refine ⟨Int64.toInt_inj.mp (by omega), ?_⟩
  have g8' : ((own_get g 8).toInt - own_L 15 g 8) % 18446744073709551616 = 0 := g8
  have q1 := own_L_rng 15 f k
  have q2 := own_L_rng 15 g k
  have hk : k = 1 ∨ k = 2 ∨ k = 3 ∨ k = 4 ∨ k = 5 ∨ k = 6 ∨ k = 7 ∨ k = 8 := by omega
  rcases hk with rfl | rfl | rfl | rfl | rfl | rfl | rfl | rfl
  · obtain ⟨U, s1, s2⟩ := own_split f g 15 1 7 (by decide) p1
    rw [show own_lm n = (255 : Int64) from by rw [own_int hn]; decide]
    have mk := own_msk1 lo 1
    have rm := rng64 ((lo &&& ((255 : Int64) ^^^ (-1 : Int64))) ||| ((lo + (1 : Int64)) &&& (255 : Int64)))
    have s1' : own_L 15 f 8 = own_L 15 f 1 + 256 ^ 1 * U := s1
    have s2' : own_L 15 g 8 = own_L 15 g 1 + 256 ^ 1 * U := s2
    rw [show (256 : Int) ^ 1 = 256 from by decide] at s1' s2' p3 q1 q2
    refine Int64.toInt_inj.mp ?_
    rcases p2 with rfl | rfl <;> omega
  · obtain ⟨U, s1, s2⟩ := own_split f g 15 2 6 (by decide) p1
    rw [show own_lm n = (65535 : Int64) from by rw [own_int hn]; decide]
    have mk := own_msk2 lo 1
    have rm := rng64 ((lo &&& ((65535 : Int64) ^^^ (-1 : Int64))) ||| ((lo + (1 : Int64)) &&& (65535 : Int64)))
    have s1' : own_L 15 f 8 = own_L 15 f 2 + 256 ^ 2 * U := s1
    have s2' : own_L 15 g 8 = own_L 15 g 2 + 256 ^ 2 * U := s2
    rw [show (256 : Int) ^ 2 = 65536 from by decide] at s1' s2' p3 q1 q2
    refine Int64.toInt_inj.mp ?_
    rcases p2 with rfl | rfl <;> omega
  · obtain ⟨U, s1, s2⟩ := own_split f g 15 3 5 (by decide) p1
    rw [show own_lm n = (16777215 : Int64) from by rw [own_int hn]; decide]
    have mk := own_msk3 lo 1
    have rm := rng64 ((lo &&& ((16777215 : Int64) ^^^ (-1 : Int64))) ||| ((lo + (1 : Int64)) &&& (16777215 : Int64)))
    have s1' : own_L 15 f 8 = own_L 15 f 3 + 256 ^ 3 * U := s1
    have s2' : own_L 15 g 8 = own_L 15 g 3 + 256 ^ 3 * U := s2
    rw [show (256 : Int) ^ 3 = 16777216 from by decide] at s1' s2' p3 q1 q2
    refine Int64.toInt_inj.mp ?_
    rcases p2 with rfl | rfl <;> omega
  · obtain ⟨U, s1, s2⟩ := own_split f g 15 4 4 (by decide) p1
    rw [show own_lm n = (4294967295 : Int64) from by rw [own_int hn]; decide]
    have mk := own_msk4 lo 1
    have rm := rng64 ((lo &&& ((4294967295 : Int64) ^^^ (-1 : Int64))) ||| ((lo + (1 : Int64)) &&& (4294967295 : Int64)))
    have s1' : own_L 15 f 8 = own_L 15 f 4 + 256 ^ 4 * U := s1
    have s2' : own_L 15 g 8 = own_L 15 g 4 + 256 ^ 4 * U := s2
    rw [show (256 : Int) ^ 4 = 4294967296 from by decide] at s1' s2' p3 q1 q2
    refine Int64.toInt_inj.mp ?_
    rcases p2 with rfl | rfl <;> omega
  · obtain ⟨U, s1, s2⟩ := own_split f g 15 5 3 (by decide) p1
    rw [show own_lm n = (1099511627775 : Int64) from by rw [own_int hn]; decide]
    have mk := own_msk5 lo 1
    have rm := rng64 ((lo &&& ((1099511627775 : Int64) ^^^ (-1 : Int64))) ||| ((lo + (1 : Int64)) &&& (1099511627775 : Int64)))
    have s1' : own_L 15 f 8 = own_L 15 f 5 + 256 ^ 5 * U := s1
    have s2' : own_L 15 g 8 = own_L 15 g 5 + 256 ^ 5 * U := s2
    rw [show (256 : Int) ^ 5 = 1099511627776 from by decide] at s1' s2' p3 q1 q2
    refine Int64.toInt_inj.mp ?_
    rcases p2 with rfl | rfl <;> omega
  · obtain ⟨U, s1, s2⟩ := own_split f g 15 6 2 (by decide) p1
    rw [show own_lm n = (281474976710655 : Int64) from by rw [own_int hn]; decide]
    have mk := own_msk6 lo 1
    have rm := rng64 ((lo &&& ((281474976710655 : Int64) ^^^ (-1 : Int64))) ||| ((lo + (1 : Int64)) &&& (281474976710655 : Int64)))
    have s1' : own_L 15 f 8 = own_L 15 f 6 + 256 ^ 6 * U := s1
    have s2' : own_L 15 g 8 = own_L 15 g 6 + 256 ^ 6 * U := s2
    rw [show (256 : Int) ^ 6 = 281474976710656 from by decide] at s1' s2' p3 q1 q2
    refine Int64.toInt_inj.mp ?_
    rcases p2 with rfl | rfl <;> omega
  · obtain ⟨U, s1, s2⟩ := own_split f g 15 7 1 (by decide) p1
    rw [show own_lm n = (72057594037927935 : Int64) from by rw [own_int hn]; decide]
    have mk := own_msk7 lo 1
    have rm := rng64 ((lo &&& ((72057594037927935 : Int64) ^^^ (-1 : Int64))) ||| ((lo + (1 : Int64)) &&& (72057594037927935 : Int64)))
    have s1' : own_L 15 f 8 = own_L 15 f 7 + 256 ^ 7 * U := s1
    have s2' : own_L 15 g 8 = own_L 15 g 7 + 256 ^ 7 * U := s2
    rw [show (256 : Int) ^ 7 = 72057594037927936 from by decide] at s1' s2' p3 q1 q2
    refine Int64.toInt_inj.mp ?_
    rcases p2 with rfl | rfl <;> omega
  · rw [show own_lm n = (-1 : Int64) from by rw [own_int hn]; decide, own_msk8]
    have ad := c_ladd lo 1
    have ra := rng64 (lo + 1)
    rw [show (256 : Int) ^ 8 = 18446744073709551616 from by decide] at p3 q1 q2
    refine Int64.toInt_inj.mp ?_
    rcases p2 with rfl | rfl <;> omega
set_option maxHeartbeats 8000000 in
theorem own_finB {n : Int32} {k : Nat} {f g : Nat → Int32} {c : Int} {hi lo d : Int64} (hn : n.toInt = (k : Int)) (h1 : 8 < k) (h8 : k ≤ 16) (hf : own_L 15 f 8 = lo.toInt % 18446744073709551616) (hf' : own_L 7 f 8 = hi.toInt % 18446744073709551616) (P : own_P k f g c)
    (hd : (lo = (-1 : Int64) ∧ d = 1) ∨ (¬ lo = (-1 : Int64) ∧ d = 0)) :
    own_get g 8 = lo + (1 : Int64) ∧ own_get g 0 = ((hi &&& ((own_lm (n - (8 : Int32))) ^^^ (-1 : Int64))) ||| ((hi + d) &&& (own_lm (n - (8 : Int32))))) := by
  obtain ⟨p1, p2, p3⟩ := P
  have g0 : ((own_get g 0).toInt - own_L 7 g 8) % 18446744073709551616 = 0 := own_num_get g 0
  have g8 : ((own_get g 8).toInt - own_L 15 g 8) % 18446744073709551616 = 0 := own_num_get g 8
  have r0 := rng64 (own_get g 0)
  have r1 := rng64 hi
  have rl := rng64 lo
  have r8 := rng64 (own_get g 8)
  have ad := c_ladd lo 1
  have ra := rng64 (lo + 1)
  have e1 : (1 : Int64).toInt = 1 := by decide
  have e0 : (0 : Int64).toInt = 0 := by decide
  have em : (-1 : Int64).toInt = -1 := by decide
  have hd' : d.toInt = (lo.toInt % 18446744073709551616 + 1) / 18446744073709551616 := by
    rcases hd with ⟨q1, q2⟩ | ⟨q1, q2⟩
    · rw [q1, q2]; decide
    · have : ¬ lo.toInt = -1 := fun z => q1 (Int64.toInt_inj.mp (z.trans em.symm))
      rw [q2]; omega
  have w1 := own_L_rng 15 f 8
  have w2 := own_L_rng 15 g 8
  rw [show (256 : Int) ^ 8 = 18446744073709551616 from by decide] at w1 w2
  obtain ⟨j, rfl⟩ : ∃ j, k = 8 + j := ⟨k - 8, by omega⟩
  have t1 := own_hi f j (by omega)
  have t2 := own_hi g j (by omega)
  have q1 := own_L_rng 7 f j
  have q2 := own_L_rng 7 g j
  rw [t1, t2, show (256 : Int) ^ 8 = 18446744073709551616 from by decide, Int.pow_add, show (256 : Int) ^ 8 = 18446744073709551616 from by decide] at p3
  have hk : j = 1 ∨ j = 2 ∨ j = 3 ∨ j = 4 ∨ j = 5 ∨ j = 6 ∨ j = 7 ∨ j = 8 := by omega
  have p1' : ∀ i, i < 7 + 1 - j → g i = f i := fun i hi => p1 i (by omega)
  rcases hk with rfl | rfl | rfl | rfl | rfl | rfl | rfl | rfl
  · rw [show (256 : Int) ^ 1 = 256 from by decide] at p3 q1 q2
    have hlo : (own_L 15 g 8 - (own_L 15 f 8 + 1)) % 18446744073709551616 = 0 := by rcases p2 with rfl | rfl <;> omega
    have hca : own_L 7 g 1 + c * 256 = own_L 7 f 1 + d.toInt := by rcases p2 with rfl | rfl <;> omega
    refine ⟨Int64.toInt_inj.mp (by omega), ?_⟩
    obtain ⟨U, s1, s2⟩ := own_split f g 7 1 7 (by decide) p1'
    rw [show own_lm (n - (8 : Int32)) = (255 : Int64) from by rw [own_int hn]; decide]
    have mk := own_msk1 hi d
    have rm := rng64 ((hi &&& ((255 : Int64) ^^^ (-1 : Int64))) ||| ((hi + d) &&& (255 : Int64)))
    have s1' : own_L 7 f 8 = own_L 7 f 1 + 256 ^ 1 * U := s1
    have s2' : own_L 7 g 8 = own_L 7 g 1 + 256 ^ 1 * U := s2
    rw [show (256 : Int) ^ 1 = 256 from by decide] at s1' s2'
    refine Int64.toInt_inj.mp ?_
    rcases p2 with rfl | rfl <;> omega
  · rw [show (256 : Int) ^ 2 = 65536 from by decide] at p3 q1 q2
    have hlo : (own_L 15 g 8 - (own_L 15 f 8 + 1)) % 18446744073709551616 = 0 := by rcases p2 with rfl | rfl <;> omega
    have hca : own_L 7 g 2 + c * 65536 = own_L 7 f 2 + d.toInt := by rcases p2 with rfl | rfl <;> omega
    refine ⟨Int64.toInt_inj.mp (by omega), ?_⟩
    obtain ⟨U, s1, s2⟩ := own_split f g 7 2 6 (by decide) p1'
    rw [show own_lm (n - (8 : Int32)) = (65535 : Int64) from by rw [own_int hn]; decide]
    have mk := own_msk2 hi d
    have rm := rng64 ((hi &&& ((65535 : Int64) ^^^ (-1 : Int64))) ||| ((hi + d) &&& (65535 : Int64)))
    have s1' : own_L 7 f 8 = own_L 7 f 2 + 256 ^ 2 * U := s1
    have s2' : own_L 7 g 8 = own_L 7 g 2 + 256 ^ 2 * U := s2
    rw [show (256 : Int) ^ 2 = 65536 from by decide] at s1' s2'
    refine Int64.toInt_inj.mp ?_
    rcases p2 with rfl | rfl <;> omega
  · rw [show (256 : Int) ^ 3 = 16777216 from by decide] at p3 q1 q2
    have hlo : (own_L 15 g 8 - (own_L 15 f 8 + 1)) % 18446744073709551616 = 0 := by rcases p2 with rfl | rfl <;> omega
    have hca : own_L 7 g 3 + c * 16777216 = own_L 7 f 3 + d.toInt := by rcases p2 with rfl | rfl <;> omega
    refine ⟨Int64.toInt_inj.mp (by omega), ?_⟩
    obtain ⟨U, s1, s2⟩ := own_split f g 7 3 5 (by decide) p1'
    rw [show own_lm (n - (8 : Int32)) = (16777215 : Int64) from by rw [own_int hn]; decide]
    have mk := own_msk3 hi d
    have rm := rng64 ((hi &&& ((16777215 : Int64) ^^^ (-1 : Int64))) ||| ((hi + d) &&& (16777215 : Int64)))
    have s1' : own_L 7 f 8 = own_L 7 f 3 + 256 ^ 3 * U := s1
    have s2' : own_L 7 g 8 = own_L 7 g 3 + 256 ^ 3 * U := s2
    rw [show (256 : Int) ^ 3 = 16777216 from by decide] at s1' s2'
    refine Int64.toInt_inj.mp ?_
    rcases p2 with rfl | rfl <;> omega
  · rw [show (256 : Int) ^ 4 = 4294967296 from by decide] at p3 q1 q2
    have hlo : (own_L 15 g 8 - (own_L 15 f 8 + 1)) % 18446744073709551616 = 0 := by rcases p2 with rfl | rfl <;> omega
    have hca : own_L 7 g 4 + c * 4294967296 = own_L 7 f 4 + d.toInt := by rcases p2 with rfl | rfl <;> omega
    refine ⟨Int64.toInt_inj.mp (by omega), ?_⟩
    obtain ⟨U, s1, s2⟩ := own_split f g 7 4 4 (by decide) p1'
    rw [show own_lm (n - (8 : Int32)) = (4294967295 : Int64) from by rw [own_int hn]; decide]
    have mk := own_msk4 hi d
    have rm := rng64 ((hi &&& ((4294967295 : Int64) ^^^ (-1 : Int64))) ||| ((hi + d) &&& (4294967295 : Int64)))
    have s1' : own_L 7 f 8 = own_L 7 f 4 + 256 ^ 4 * U := s1
    have s2' : own_L 7 g 8 = own_L 7 g 4 + 256 ^ 4 * U := s2
    rw [show (256 : Int) ^ 4 = 4294967296 from by decide] at s1' s2'
    refine Int64.toInt_inj.mp ?_
    rcases p2 with rfl | rfl <;> omega
  · rw [show (256 : Int) ^ 5 = 1099511627776 from by decide] at p3 q1 q2
    have hlo : (own_L 15 g 8 - (own_L 15 f 8 + 1)) % 18446744073709551616 = 0 := by rcases p2 with rfl | rfl <;> omega
    have hca : own_L 7 g 5 + c * 1099511627776 = own_L 7 f 5 + d.toInt := by rcases p2 with rfl | rfl <;> omega
    refine ⟨Int64.toInt_inj.mp (by omega), ?_⟩
    obtain ⟨U, s1, s2⟩ := own_split f g 7 5 3 (by decide) p1'
    rw [show own_lm (n - (8 : Int32)) = (1099511627775 : Int64) from by rw [own_int hn]; decide]
    have mk := own_msk5 hi d
    have rm := rng64 ((hi &&& ((1099511627775 : Int64) ^^^ (-1 : Int64))) ||| ((hi + d) &&& (1099511627775 : Int64)))
    have s1' : own_L 7 f 8 = own_L 7 f 5 + 256 ^ 5 * U := s1
    have s2' : own_L 7 g 8 = own_L 7 g 5 + 256 ^ 5 * U := s2
    rw [show (256 : Int) ^ 5 = 1099511627776 from by decide] at s1' s2'
    refine Int64.toInt_inj.mp ?_
    rcases p2 with rfl | rfl <;> omega
  · rw [show (256 : Int) ^ 6 = 281474976710656 from by decide] at p3 q1 q2
    have hlo : (own_L 15 g 8 - (own_L 15 f 8 + 1)) % 18446744073709551616 = 0 := by rcases p2 with rfl | rfl <;> omega
    have hca : own_L 7 g 6 + c * 281474976710656 = own_L 7 f 6 + d.toInt := by rcases p2 with rfl | rfl <;> omega
    refine ⟨Int64.toInt_inj.mp (by omega), ?_⟩
    obtain ⟨U, s1, s2⟩ := own_split f g 7 6 2 (by decide) p1'
    rw [show own_lm (n - (8 : Int32)) = (281474976710655 : Int64) from by rw [own_int hn]; decide]
    have mk := own_msk6 hi d
    have rm := rng64 ((hi &&& ((281474976710655 : Int64) ^^^ (-1 : Int64))) ||| ((hi + d) &&& (281474976710655 : Int64)))
    have s1' : own_L 7 f 8 = own_L 7 f 6 + 256 ^ 6 * U := s1
    have s2' : own_L 7 g 8 = own_L 7 g 6 + 256 ^ 6 * U := s2
    rw [show (256 : Int) ^ 6 = 281474976710656 from by decide] at s1' s2'
    refine Int64.toInt_inj.mp ?_
    rcases p2 with rfl | rfl <;> omega
  · rw [show (256 : Int) ^ 7 = 72057594037927936 from by decide] at p3 q1 q2
    have hlo : (own_L 15 g 8 - (own_L 15 f 8 + 1)) % 18446744073709551616 = 0 := by rcases p2 with rfl | rfl <;> omega
    have hca : own_L 7 g 7 + c * 72057594037927936 = own_L 7 f 7 + d.toInt := by rcases p2 with rfl | rfl <;> omega
    refine ⟨Int64.toInt_inj.mp (by omega), ?_⟩
    obtain ⟨U, s1, s2⟩ := own_split f g 7 7 1 (by decide) p1'
    rw [show own_lm (n - (8 : Int32)) = (72057594037927935 : Int64) from by rw [own_int hn]; decide]
    have mk := own_msk7 hi d
    have rm := rng64 ((hi &&& ((72057594037927935 : Int64) ^^^ (-1 : Int64))) ||| ((hi + d) &&& (72057594037927935 : Int64)))
    have s1' : own_L 7 f 8 = own_L 7 f 7 + 256 ^ 7 * U := s1
    have s2' : own_L 7 g 8 = own_L 7 g 7 + 256 ^ 7 * U := s2
    rw [show (256 : Int) ^ 7 = 72057594037927936 from by decide] at s1' s2'
    refine Int64.toInt_inj.mp ?_
    rcases p2 with rfl | rfl <;> omega
  · rw [show (256 : Int) ^ 8 = 18446744073709551616 from by decide] at p3 q1 q2
    have hlo : (own_L 15 g 8 - (own_L 15 f 8 + 1)) % 18446744073709551616 = 0 := by rcases p2 with rfl | rfl <;> omega
    have hca : own_L 7 g 8 + c * 18446744073709551616 = own_L 7 f 8 + d.toInt := by rcases p2 with rfl | rfl <;> omega
    refine ⟨Int64.toInt_inj.mp (by omega), ?_⟩
    rw [show own_lm (n - (8 : Int32)) = (-1 : Int64) from by rw [own_int hn]; decide, own_msk8]
    have ah := c_ladd hi d
    have rh := rng64 (hi + d)
    refine Int64.toInt_inj.mp ?_
    rcases p2 with rfl | rfl <;> omega
theorem own_cnt (x : Int32) : ∃ k : Nat, ((x &&& (15 : Int32)) + (1 : Int32)).toInt = (k : Int) ∧ 1 ≤ k ∧ k ≤ 16 := by
  have h := c_and x 15 (by decide)
  have e : (15 : Int32).toInt = 15 := by decide
  have e1 : (1 : Int32).toInt = 1 := by decide
  have h1 := c_iadd (x &&& 15) 1
  have h2 := rng32 ((x &&& 15) + 1)
  exact ⟨((x &&& (15 : Int32)) + (1 : Int32)).toInt.toNat, by omega, by omega, by omega⟩
theorem own_dec {i : Int32} {k : Nat} (h : i.toInt = 15 - (k : Int)) (hk : k ≤ 15) : (i + (-1 : Int32)).toInt = 15 - ((k + 1 : Nat) : Int) := by
  have h1 := c_iadd i (-1)
  have h2 := rng32 (i + (-1 : Int32))
  have h3 : (-1 : Int32).toInt = -1 := by decide
  rw [h3] at h1
  omega
theorem own_cmp {i x : Int32} {k n : Nat} (hi : i.toInt = 15 - (k : Int)) (hx : x.toInt = (n : Int)) (hn : n ≤ 16) : i < ((16 : Int32) - x) ↔ n ≤ k := by
  have h1 := c_isub 16 x
  have h2 := rng32 ((16 : Int32) - x)
  have h3 : (16 : Int32).toInt = 16 := by decide
  rw [h3] at h1
  have h4 : ((16 : Int32) - x).toInt = 16 - (n : Int) := by omega
  rw [Int32.lt_iff_toInt_lt, hi, h4]
  omega
theorem own_n1 {n : Int32} {k : Nat} (h : n.toInt = (k : Int)) (h1 : 1 ≤ k) : ¬ n < 1 := by
  have e1 : (1 : Int32).toInt = 1 := by decide
  rw [Int32.lt_iff_toInt_lt]
  omega
theorem own_n16 {n : Int32} {k : Nat} (h : n.toInt = (k : Int)) (h1 : k ≤ 16) : ¬ (16 : Int32) < n := by
  have e1 : (16 : Int32).toInt = 16 := by decide
  rw [Int32.lt_iff_toInt_lt]
  omega
theorem own_n8 {n : Int32} {k : Nat} (h : n.toInt = (k : Int)) : (8 : Int32) < n ↔ 8 < k := by
  have e1 : (8 : Int32).toInt = 8 := by decide
  rw [Int32.lt_iff_toInt_lt]
  omega
theorem own_off {x c : Int32} {o k : Nat} (h : x.toInt = (o : Int)) (ho : o ≤ 8) (hc : c.toInt = (k : Int)) (hk : k ≤ 8) : (x + c).toInt = ((o + k : Nat) : Int) := by
  have h1 := c_iadd x c
  have h2 := rng32 (x + c)
  omega
theorem d1_0 : decode method_2_code 0 = .ok (.iload_n 0, 1) := by decide +kernel
theorem d1_1 : decode method_2_code 1 = .ok (.bipush 8, 2) := by decide +kernel
theorem d1_3 : decode method_2_code 3 = .ok (.if_icmp .lt 7, 3) := by decide +kernel
theorem d1_6 : decode method_2_code 6 = .ok (.ldc2_w 7, 3) := by decide +kernel
theorem d1_9 : decode method_2_code 9 = .ok (.lreturn, 1) := by decide +kernel
theorem d1_10 : decode method_2_code 10 = .ok (.lconst 1, 1) := by decide +kernel
theorem d1_11 : decode method_2_code 11 = .ok (.bipush 8, 2) := by decide +kernel
theorem d1_13 : decode method_2_code 13 = .ok (.iload_n 0, 1) := by decide +kernel
theorem d1_14 : decode method_2_code 14 = .ok (.imul, 1) := by decide +kernel
theorem d1_15 : decode method_2_code 15 = .ok (.lshl, 1) := by decide +kernel
theorem d1_16 : decode method_2_code 16 = .ok (.lconst 1, 1) := by decide +kernel
theorem d1_17 : decode method_2_code 17 = .ok (.lsub, 1) := by decide +kernel
theorem d1_18 : decode method_2_code 18 = .ok (.lreturn, 1) := by decide +kernel
theorem pn_1 : plainName "saltgrove/aes/CounterKeystreamIncrementPinLaw" = true := by first | (simp [plainName, overriddenIn]; done) | decide +kernel
theorem ef_1 (m : MethodId) (x0 : Int32) : entryFrame m #[(.int x0)] 1 = mkF m 0 #[.val (.int x0)] [] := by first | (simp [entryFrame, mkF, argsToLocals, Value.category]; done) | rfl
def Q1 (Z : State) (p1 : Int32) (h0 : Heap) (n0 : Nat) (v : Option Value) (h : Heap) (L : List Loc) : Prop := v = some (.long (own_lm p1)) ∧ Fr n0 L ∧ h = h0
set_option maxRecDepth 65536 in
set_option maxHeartbeats 40000000 in
theorem rm1 (l : Launch) (Z : State) (a0 : Array Value) (hw : ∀ d ∈ tables_1, d.before a0 Z = true) (ws : List Jvm.Cond) (p1 : Int32) (h0 : Heap) (n0 : Nat) (Z0 : n0 ≤ h0.size)  :
    MetFree l (⟨"saltgrove/aes/CounterKeystreamIncrementPinLaw", "lowMask", "(I)J"⟩ : MethodName) (head1 (Jvm.Cond.code (⟨"saltgrove/aes/CounterKeystreamIncrementPinLaw", "lowMask", "(I)J"⟩ : MethodName) method_2_code 1 (some .long) :: ws) ({ frames := 0, cells := 0, slots := 0, locals := 0 } : Room)) (fun a U => a = #[(.int p1)] ∧ Z.Warmed39 U.vm ∧ U.heap = h0) (fun _ _ _ _ _ => True) (fun _ U ou U' => ∃ v L, ou = .returned v ∧ Q1 Z p1 h0 n0 v U'.heap L ∧ FrameEnd U ou U' L ({ frames := 0, cells := 0, slots := 0, locals := 0 } : Room).cells ({ frames := 0, cells := 0, slots := 0, locals := 0 } : Room).slots) := by
  refine MetFree.of_bodySF (plainFor_of_name pn_1) hisR ?_
  intro p e s m args below meth c s₁ Bd hml0 hP hK
  obtain ⟨rfl, hZ, hh⟩ := hP
  have hx := Bd.exec
  have hby := Bd.bytes
  have hml : c.maxLocals = 1 := hml0
  have hown : s.vm.findClass "saltgrove/aes/CounterKeystreamIncrementPinLaw" = some m.cls := findClass_of_methodNamed Bd.named
  have hnm := (name_of_methodNamed Bd.named Bd.method).1
  have X0 : Stand p l e ({ frames := 0, cells := 0, slots := 0, locals := 0 } : Room) s m #[(.int p1)] below meth c s₁ [] 0 0 := Stand.of_body Bd
  have e0 : s₁.heap = h0 := by rw [← hh, Bd.state]; rfl
  have N0 := Fr.nil n0
  have pre0 : ∀ t, Steps p.tables e below (s₁.setTop (mkF m 0 #[.val (.int p1)] [])) t → Steps p.tables e below (s₁.setTop (entryFrame m #[(.int p1)] 1)) t := fun t k => castTop (ef_1 m (p1)) k
  by_cases c1 : p1 < 8
  · have pre1 : ∀ t, Steps p.tables e below (s₁.setTop (mkF m 18 #[.val (.int p1)] [(.long (((1 : Int64) <<< (((8 : Int32) * p1) &&& 0x3f).toInt64) - (1 : Int64)))])) t → Steps p.tables e below (s₁.setTop (entryFrame m #[(.int p1)] 1)) t := fun t kt => pre0 t (by
      show Steps p.tables e below (s₁.setTop (mkF m 0 #[.val (.int p1)] [])) _
      refine XS.iloadN X0.here hx rfl (hb hby d1_0) rfl ?_
      show Steps p.tables e below (s₁.setTop (mkF m 1 #[.val (.int p1)] [(.int p1)])) _
      refine XS.bipush X0.here hx rfl (hb hby d1_1) ?_
      show Steps p.tables e below (s₁.setTop (mkF m 3 #[.val (.int p1)] [(.int (8 : Int32)), (.int p1)])) _
      refine XS.icmpYes X0.here hx rfl (pc0 := 3) (pc' := 10) rfl (hb hby d1_3) rfl (tlt c1).1 (by decide) (by decide) ?_
      show Steps p.tables e below (s₁.setTop (mkF m 10 #[.val (.int p1)] [])) _
      refine XS.lconst X0.here hx rfl (hb hby d1_10) ?_
      show Steps p.tables e below (s₁.setTop (mkF m 11 #[.val (.int p1)] [(.long (1 : Int64))])) _
      refine XS.bipush X0.here hx rfl (hb hby d1_11) ?_
      show Steps p.tables e below (s₁.setTop (mkF m 13 #[.val (.int p1)] [(.int (8 : Int32)), (.long (1 : Int64))])) _
      refine XS.iloadN X0.here hx rfl (hb hby d1_13) rfl ?_
      show Steps p.tables e below (s₁.setTop (mkF m 14 #[.val (.int p1)] [(.int p1), (.int (8 : Int32)), (.long (1 : Int64))])) _
      refine XS.imul X0.here hx rfl (hb hby d1_14) rfl ?_
      show Steps p.tables e below (s₁.setTop (mkF m 15 #[.val (.int p1)] [(.int ((8 : Int32) * p1)), (.long (1 : Int64))])) _
      refine XS.lshl X0.here hx rfl (hb hby d1_15) rfl ?_
      show Steps p.tables e below (s₁.setTop (mkF m 16 #[.val (.int p1)] [(.long ((1 : Int64) <<< (((8 : Int32) * p1) &&& 0x3f).toInt64))])) _
      refine XS.lconst X0.here hx rfl (hb hby d1_16) ?_
      show Steps p.tables e below (s₁.setTop (mkF m 17 #[.val (.int p1)] [(.long (1 : Int64)), (.long ((1 : Int64) <<< (((8 : Int32) * p1) &&& 0x3f).toInt64))])) _
      refine XS.lsub X0.here hx rfl (hb hby d1_17) rfl ?_
      exact kt)
    obtain ⟨fs, hr, hrun, hended, hW, hsame⟩ := X0.leave (v := some (.long (((1 : Int64) <<< (((8 : Int32) * p1) &&& 0x3f).toInt64) - (1 : Int64)))) (fun h => by rw [Bd.returns] at h; cases h)
    refine ⟨_, _, pre1 _ ?_, hrun, hended, _, _, rfl, ?_, ⟨_, rfl⟩, hW, hsame.mono (by decide) (by decide)⟩
    · show Steps p.tables e below (s₁.setTop (mkF m 18 #[.val (.int p1)] [(.long (((1 : Int64) <<< (((8 : Int32) * p1) &&& 0x3f).toInt64) - (1 : Int64)))])) _
      exact X0.lreturnOut hx Bd.returns (hb hby d1_18) hr
    · show Q1 Z p1 h0 n0 _ s₁.heap _
      rw [e0]
      exact ⟨by rw [own_lm, if_pos c1], N0, rfl⟩
  · have pre2 : ∀ t, Steps p.tables e below (s₁.setTop (mkF m 9 #[.val (.int p1)] [(.long (-1 : Int64))])) t → Steps p.tables e below (s₁.setTop (entryFrame m #[(.int p1)] 1)) t := fun t kt => pre0 t (by
      show Steps p.tables e below (s₁.setTop (mkF m 0 #[.val (.int p1)] [])) _
      refine XS.iloadN X0.here hx rfl (hb hby d1_0) rfl ?_
      show Steps p.tables e below (s₁.setTop (mkF m 1 #[.val (.int p1)] [(.int p1)])) _
      refine XS.bipush X0.here hx rfl (hb hby d1_1) ?_
      show Steps p.tables e below (s₁.setTop (mkF m 3 #[.val (.int p1)] [(.int (8 : Int32)), (.int p1)])) _
      refine XS.icmpNo X0.here hx rfl (hb hby d1_3) rfl (flt c1).1 ?_
      show Steps p.tables e below (s₁.setTop (mkF m 6 #[.val (.int p1)] [])) _
      refine X0.ldc2Long hx hown (mvT hZ (hw _ (List.mem_of_getElem? (i := 31) rfl))) (g := (mkF m 6 #[.val (.int p1)] [])) rfl (hb hby d1_6) _ ?_
      exact kt)
    obtain ⟨fs, hr, hrun, hended, hW, hsame⟩ := X0.leave (v := some (.long (-1 : Int64))) (fun h => by rw [Bd.returns] at h; cases h)
    refine ⟨_, _, pre2 _ ?_, hrun, hended, _, _, rfl, ?_, ⟨_, rfl⟩, hW, hsame.mono (by decide) (by decide)⟩
    · show Steps p.tables e below (s₁.setTop (mkF m 9 #[.val (.int p1)] [(.long (-1 : Int64))])) _
      exact X0.lreturnOut hx Bd.returns (hb hby d1_9) hr
    · show Q1 Z p1 h0 n0 _ s₁.heap _
      rw [e0]
      exact ⟨by rw [own_lm, if_neg c1], N0, rfl⟩
theorem d2_0 : decode method_3_code 0 = .ok (.aload_n 0, 1) := by decide +kernel
theorem d2_1 : decode method_3_code 1 = .ok (.iload_n 1, 1) := by decide +kernel
theorem d2_2 : decode method_3_code 2 = .ok (.lload_n 2, 1) := by decide +kernel
theorem d2_3 : decode method_3_code 3 = .ok (.bipush 56, 2) := by decide +kernel
theorem d2_5 : decode method_3_code 5 = .ok (.lushr, 1) := by decide +kernel
theorem d2_6 : decode method_3_code 6 = .ok (.l2i, 1) := by decide +kernel
theorem d2_7 : decode method_3_code 7 = .ok (.i2b, 1) := by decide +kernel
theorem d2_8 : decode method_3_code 8 = .ok (.bastore, 1) := by decide +kernel
theorem d2_9 : decode method_3_code 9 = .ok (.aload_n 0, 1) := by decide +kernel
theorem d2_10 : decode method_3_code 10 = .ok (.iload_n 1, 1) := by decide +kernel
theorem d2_11 : decode method_3_code 11 = .ok (.iconst 1, 1) := by decide +kernel
theorem d2_12 : decode method_3_code 12 = .ok (.iadd, 1) := by decide +kernel
theorem d2_13 : decode method_3_code 13 = .ok (.lload_n 2, 1) := by decide +kernel
theorem d2_14 : decode method_3_code 14 = .ok (.bipush 48, 2) := by decide +kernel
theorem d2_16 : decode method_3_code 16 = .ok (.lushr, 1) := by decide +kernel
theorem d2_17 : decode method_3_code 17 = .ok (.l2i, 1) := by decide +kernel
theorem d2_18 : decode method_3_code 18 = .ok (.i2b, 1) := by decide +kernel
theorem d2_19 : decode method_3_code 19 = .ok (.bastore, 1) := by decide +kernel
theorem d2_20 : decode method_3_code 20 = .ok (.aload_n 0, 1) := by decide +kernel
theorem d2_21 : decode method_3_code 21 = .ok (.iload_n 1, 1) := by decide +kernel
theorem d2_22 : decode method_3_code 22 = .ok (.iconst 2, 1) := by decide +kernel
theorem d2_23 : decode method_3_code 23 = .ok (.iadd, 1) := by decide +kernel
theorem d2_24 : decode method_3_code 24 = .ok (.lload_n 2, 1) := by decide +kernel
theorem d2_25 : decode method_3_code 25 = .ok (.bipush 40, 2) := by decide +kernel
theorem d2_27 : decode method_3_code 27 = .ok (.lushr, 1) := by decide +kernel
theorem d2_28 : decode method_3_code 28 = .ok (.l2i, 1) := by decide +kernel
theorem d2_29 : decode method_3_code 29 = .ok (.i2b, 1) := by decide +kernel
theorem d2_30 : decode method_3_code 30 = .ok (.bastore, 1) := by decide +kernel
theorem d2_31 : decode method_3_code 31 = .ok (.aload_n 0, 1) := by decide +kernel
theorem d2_32 : decode method_3_code 32 = .ok (.iload_n 1, 1) := by decide +kernel
theorem d2_33 : decode method_3_code 33 = .ok (.iconst 3, 1) := by decide +kernel
theorem d2_34 : decode method_3_code 34 = .ok (.iadd, 1) := by decide +kernel
theorem d2_35 : decode method_3_code 35 = .ok (.lload_n 2, 1) := by decide +kernel
theorem d2_36 : decode method_3_code 36 = .ok (.bipush 32, 2) := by decide +kernel
theorem d2_38 : decode method_3_code 38 = .ok (.lushr, 1) := by decide +kernel
theorem d2_39 : decode method_3_code 39 = .ok (.l2i, 1) := by decide +kernel
theorem d2_40 : decode method_3_code 40 = .ok (.i2b, 1) := by decide +kernel
theorem d2_41 : decode method_3_code 41 = .ok (.bastore, 1) := by decide +kernel
theorem d2_42 : decode method_3_code 42 = .ok (.aload_n 0, 1) := by decide +kernel
theorem d2_43 : decode method_3_code 43 = .ok (.iload_n 1, 1) := by decide +kernel
theorem d2_44 : decode method_3_code 44 = .ok (.iconst 4, 1) := by decide +kernel
theorem d2_45 : decode method_3_code 45 = .ok (.iadd, 1) := by decide +kernel
theorem d2_46 : decode method_3_code 46 = .ok (.lload_n 2, 1) := by decide +kernel
theorem d2_47 : decode method_3_code 47 = .ok (.bipush 24, 2) := by decide +kernel
theorem d2_49 : decode method_3_code 49 = .ok (.lushr, 1) := by decide +kernel
theorem d2_50 : decode method_3_code 50 = .ok (.l2i, 1) := by decide +kernel
theorem d2_51 : decode method_3_code 51 = .ok (.i2b, 1) := by decide +kernel
theorem d2_52 : decode method_3_code 52 = .ok (.bastore, 1) := by decide +kernel
theorem d2_53 : decode method_3_code 53 = .ok (.aload_n 0, 1) := by decide +kernel
theorem d2_54 : decode method_3_code 54 = .ok (.iload_n 1, 1) := by decide +kernel
theorem d2_55 : decode method_3_code 55 = .ok (.iconst 5, 1) := by decide +kernel
theorem d2_56 : decode method_3_code 56 = .ok (.iadd, 1) := by decide +kernel
theorem d2_57 : decode method_3_code 57 = .ok (.lload_n 2, 1) := by decide +kernel
theorem d2_58 : decode method_3_code 58 = .ok (.bipush 16, 2) := by decide +kernel
theorem d2_60 : decode method_3_code 60 = .ok (.lushr, 1) := by decide +kernel
theorem d2_61 : decode method_3_code 61 = .ok (.l2i, 1) := by decide +kernel
theorem d2_62 : decode method_3_code 62 = .ok (.i2b, 1) := by decide +kernel
theorem d2_63 : decode method_3_code 63 = .ok (.bastore, 1) := by decide +kernel
theorem d2_64 : decode method_3_code 64 = .ok (.aload_n 0, 1) := by decide +kernel
theorem d2_65 : decode method_3_code 65 = .ok (.iload_n 1, 1) := by decide +kernel
theorem d2_66 : decode method_3_code 66 = .ok (.bipush 6, 2) := by decide +kernel
theorem d2_68 : decode method_3_code 68 = .ok (.iadd, 1) := by decide +kernel
theorem d2_69 : decode method_3_code 69 = .ok (.lload_n 2, 1) := by decide +kernel
theorem d2_70 : decode method_3_code 70 = .ok (.bipush 8, 2) := by decide +kernel
theorem d2_72 : decode method_3_code 72 = .ok (.lushr, 1) := by decide +kernel
theorem d2_73 : decode method_3_code 73 = .ok (.l2i, 1) := by decide +kernel
theorem d2_74 : decode method_3_code 74 = .ok (.i2b, 1) := by decide +kernel
theorem d2_75 : decode method_3_code 75 = .ok (.bastore, 1) := by decide +kernel
theorem d2_76 : decode method_3_code 76 = .ok (.aload_n 0, 1) := by decide +kernel
theorem d2_77 : decode method_3_code 77 = .ok (.iload_n 1, 1) := by decide +kernel
theorem d2_78 : decode method_3_code 78 = .ok (.bipush 7, 2) := by decide +kernel
theorem d2_80 : decode method_3_code 80 = .ok (.iadd, 1) := by decide +kernel
theorem d2_81 : decode method_3_code 81 = .ok (.lload_n 2, 1) := by decide +kernel
theorem d2_82 : decode method_3_code 82 = .ok (.l2i, 1) := by decide +kernel
theorem d2_83 : decode method_3_code 83 = .ok (.i2b, 1) := by decide +kernel
theorem d2_84 : decode method_3_code 84 = .ok (.bastore, 1) := by decide +kernel
theorem d2_85 : decode method_3_code 85 = .ok (.return_, 1) := by decide +kernel
theorem pn_2 : plainName "saltgrove/aes/CounterKeystreamIncrementPinLaw" = true := by first | (simp [plainName, overriddenIn]; done) | decide +kernel
theorem ef_2 (m : MethodId) (x0 : Addr) (x1 : Int32) (x2 : Int64) : entryFrame m #[(.ref x0), (.int x1), (.long x2)] 4 = mkF m 0 #[.val (.ref x0), .val (.int x1), .val (.long x2), .second] [] := by first | (simp [entryFrame, mkF, argsToLocals, Value.category]; done) | rfl
def Q2 (Z : State) (a1 : Addr) (p2 : Int32) (q3 : Int64) (o : Nat) (f : Nat → Int32) (h0 : Heap) (n0 : Nat) (v : Option Value) (h : Heap) (L : List Loc) : Prop := v = none ∧ Fr n0 L ∧ Keep h0 h [a1] ∧ BA Z h a1 16 (own_put q3 f o)
set_option maxRecDepth 65536 in
set_option maxHeartbeats 40000000 in
theorem rm2 (l : Launch) (Z : State) (a0 : Array Value) (hw : ∀ d ∈ tables_1, d.before a0 Z = true) (ws : List Jvm.Cond) (a1 : Addr) (p2 : Int32) (q3 : Int64) (o : Nat) (f : Nat → Int32) (h0 : Heap) (n0 : Nat) (Z0 : n0 ≤ h0.size) (B0 : BA Z h0 a1 16 f) (g1 : n0 ≤ a1) (ho : p2.toInt = (o : Int)) (ho8 : o ≤ 8) :
    MetFree l (⟨"saltgrove/aes/CounterKeystreamIncrementPinLaw", "put", "([BIJ)V"⟩ : MethodName) (head1 (Jvm.Cond.code (⟨"saltgrove/aes/CounterKeystreamIncrementPinLaw", "put", "([BIJ)V"⟩ : MethodName) method_3_code 4 none :: ws) ({ frames := 0, cells := 0, slots := 0, locals := 0 } : Room)) (fun a U => a = #[(.ref a1), (.int p2), (.long q3)] ∧ Z.Warmed39 U.vm ∧ U.heap = h0) (fun _ _ _ _ _ => True) (fun _ U ou U' => ∃ v L, ou = .returned v ∧ Q2 Z a1 p2 q3 o f h0 n0 v U'.heap L ∧ FrameEnd U ou U' L ({ frames := 0, cells := 0, slots := 0, locals := 0 } : Room).cells ({ frames := 0, cells := 0, slots := 0, locals := 0 } : Room).slots) := by
  refine MetFree.of_bodySF (plainFor_of_name pn_2) hisR ?_
  intro p e s m args below meth c s₁ Bd hml0 hP hK
  obtain ⟨rfl, hZ, hh⟩ := hP
  have hx := Bd.exec
  have hby := Bd.bytes
  have hml : c.maxLocals = 4 := hml0
  have hown : s.vm.findClass "saltgrove/aes/CounterKeystreamIncrementPinLaw" = some m.cls := findClass_of_methodNamed Bd.named
  have hnm := (name_of_methodNamed Bd.named Bd.method).1
  have X0 : Stand p l e ({ frames := 0, cells := 0, slots := 0, locals := 0 } : Room) s m #[(.ref a1), (.int p2), (.long q3)] below meth c s₁ [] 0 0 := Stand.of_body Bd
  have e0 : s₁.heap = h0 := by rw [← hh, Bd.state]; rfl
  have N0 := Fr.nil n0
  have pre0 : ∀ t, Steps p.tables e below (s₁.setTop (mkF m 0 #[.val (.ref a1), .val (.int p2), .val (.long q3), .second] [])) t → Steps p.tables e below (s₁.setTop (entryFrame m #[(.ref a1), (.int p2), (.long q3)] 4)) t := fun t k => castTop (ef_2 m (a1) (p2) (q3)) k
  have pre1 : ∀ t, Steps p.tables e below (s₁.setTop (mkF m 8 #[.val (.ref a1), .val (.int p2), .val (.long q3), .second] [(.int ((((q3.toUInt64 >>> ((56 : Int32) &&& 0x3f).toInt64.toUInt64).toInt64).toInt32).toInt8.toInt32)), (.int p2), (.ref a1)])) t → Steps p.tables e below (s₁.setTop (entryFrame m #[(.ref a1), (.int p2), (.long q3)] 4)) t := fun t kt => pre0 t (by
    show Steps p.tables e below (s₁.setTop (mkF m 0 #[.val (.ref a1), .val (.int p2), .val (.long q3), .second] [])) _
    refine XS.aloadN X0.here hx rfl (hb hby d2_0) rfl rfl ?_
    show Steps p.tables e below (s₁.setTop (mkF m 1 #[.val (.ref a1), .val (.int p2), .val (.long q3), .second] [(.ref a1)])) _
    refine XS.iloadN X0.here hx rfl (hb hby d2_1) rfl ?_
    show Steps p.tables e below (s₁.setTop (mkF m 2 #[.val (.ref a1), .val (.int p2), .val (.long q3), .second] [(.int p2), (.ref a1)])) _
    refine XS.lloadN X0.here hx rfl (hb hby d2_2) rfl ?_
    show Steps p.tables e below (s₁.setTop (mkF m 3 #[.val (.ref a1), .val (.int p2), .val (.long q3), .second] [(.long q3), (.int p2), (.ref a1)])) _
    refine XS.bipush X0.here hx rfl (hb hby d2_3) ?_
    show Steps p.tables e below (s₁.setTop (mkF m 5 #[.val (.ref a1), .val (.int p2), .val (.long q3), .second] [(.int (56 : Int32)), (.long q3), (.int p2), (.ref a1)])) _
    refine XS.lushr X0.here hx rfl (hb hby d2_5) rfl ?_
    show Steps p.tables e below (s₁.setTop (mkF m 6 #[.val (.ref a1), .val (.int p2), .val (.long q3), .second] [(.long ((q3.toUInt64 >>> ((56 : Int32) &&& 0x3f).toInt64.toUInt64).toInt64)), (.int p2), (.ref a1)])) _
    refine XS.l2i X0.here hx rfl (hb hby d2_6) rfl ?_
    show Steps p.tables e below (s₁.setTop (mkF m 7 #[.val (.ref a1), .val (.int p2), .val (.long q3), .second] [(.int (((q3.toUInt64 >>> ((56 : Int32) &&& 0x3f).toInt64.toUInt64).toInt64).toInt32)), (.int p2), (.ref a1)])) _
    refine XS.i2b X0.here hx rfl (hb hby d2_7) rfl ?_
    exact kt)
  obtain ⟨T2, h2, X2, e2, B2, W2, st2⟩ := own_bstore X0 hx hZ e0 B0 (j := p2) (x := ((((q3.toUInt64 >>> ((56 : Int32) &&& 0x3f).toInt64.toUInt64).toInt64).toInt32).toInt8.toInt32)) (v := (own_by q3 (56 : Int32))) (k := o) ho (by omega) (own_b8 _) (g := (mkF m 8 #[.val (.ref a1), .val (.int p2), .val (.long q3), .second] [(.int ((((q3.toUInt64 >>> ((56 : Int32) &&& 0x3f).toInt64.toUInt64).toInt64).toInt32).toInt8.toInt32)), (.int p2), (.ref a1)])) rfl rfl (hb hby d2_8)
  have N2 := Fr.snoc X2 N0 g1
  have pre3 : ∀ t, Steps p.tables e below (T2.setTop (mkF m 9 #[.val (.ref a1), .val (.int p2), .val (.long q3), .second] [])) t → Steps p.tables e below (s₁.setTop (entryFrame m #[(.ref a1), (.int p2), (.long q3)] 4)) t := fun t kt => pre1 t (st2 t kt)
  have K2 : Keep h0 h2 [a1] := (Keep.refl h0 [a1]).wr W2 (Or.inl (List.mem_of_getElem? (i := 0) rfl))
  have pre4 : ∀ t, Steps p.tables e below (T2.setTop (mkF m 19 #[.val (.ref a1), .val (.int p2), .val (.long q3), .second] [(.int ((((q3.toUInt64 >>> ((48 : Int32) &&& 0x3f).toInt64.toUInt64).toInt64).toInt32).toInt8.toInt32)), (.int (p2 + (1 : Int32))), (.ref a1)])) t → Steps p.tables e below (s₁.setTop (entryFrame m #[(.ref a1), (.int p2), (.long q3)] 4)) t := fun t kt => pre3 t (by
    show Steps p.tables e below (T2.setTop (mkF m 9 #[.val (.ref a1), .val (.int p2), .val (.long q3), .second] [])) _
    refine XS.aloadN X2.here hx rfl (hb hby d2_9) rfl rfl ?_
    show Steps p.tables e below (T2.setTop (mkF m 10 #[.val (.ref a1), .val (.int p2), .val (.long q3), .second] [(.ref a1)])) _
    refine XS.iloadN X2.here hx rfl (hb hby d2_10) rfl ?_
    show Steps p.tables e below (T2.setTop (mkF m 11 #[.val (.ref a1), .val (.int p2), .val (.long q3), .second] [(.int p2), (.ref a1)])) _
    refine XS.iconst X2.here hx rfl (hb hby d2_11) ?_
    show Steps p.tables e below (T2.setTop (mkF m 12 #[.val (.ref a1), .val (.int p2), .val (.long q3), .second] [(.int (1 : Int32)), (.int p2), (.ref a1)])) _
    refine XS.iadd X2.here hx rfl (hb hby d2_12) rfl ?_
    show Steps p.tables e below (T2.setTop (mkF m 13 #[.val (.ref a1), .val (.int p2), .val (.long q3), .second] [(.int (p2 + (1 : Int32))), (.ref a1)])) _
    refine XS.lloadN X2.here hx rfl (hb hby d2_13) rfl ?_
    show Steps p.tables e below (T2.setTop (mkF m 14 #[.val (.ref a1), .val (.int p2), .val (.long q3), .second] [(.long q3), (.int (p2 + (1 : Int32))), (.ref a1)])) _
    refine XS.bipush X2.here hx rfl (hb hby d2_14) ?_
    show Steps p.tables e below (T2.setTop (mkF m 16 #[.val (.ref a1), .val (.int p2), .val (.long q3), .second] [(.int (48 : Int32)), (.long q3), (.int (p2 + (1 : Int32))), (.ref a1)])) _
    refine XS.lushr X2.here hx rfl (hb hby d2_16) rfl ?_
    show Steps p.tables e below (T2.setTop (mkF m 17 #[.val (.ref a1), .val (.int p2), .val (.long q3), .second] [(.long ((q3.toUInt64 >>> ((48 : Int32) &&& 0x3f).toInt64.toUInt64).toInt64)), (.int (p2 + (1 : Int32))), (.ref a1)])) _
    refine XS.l2i X2.here hx rfl (hb hby d2_17) rfl ?_
    show Steps p.tables e below (T2.setTop (mkF m 18 #[.val (.ref a1), .val (.int p2), .val (.long q3), .second] [(.int (((q3.toUInt64 >>> ((48 : Int32) &&& 0x3f).toInt64.toUInt64).toInt64).toInt32)), (.int (p2 + (1 : Int32))), (.ref a1)])) _
    refine XS.i2b X2.here hx rfl (hb hby d2_18) rfl ?_
    exact kt)
  obtain ⟨T5, h5, X5, e5, B5, W5, st5⟩ := own_bstore X2 hx hZ e2 B2 (j := (p2 + (1 : Int32))) (x := ((((q3.toUInt64 >>> ((48 : Int32) &&& 0x3f).toInt64.toUInt64).toInt64).toInt32).toInt8.toInt32)) (v := (own_by q3 (48 : Int32))) (k := (o + 1)) (own_off ho ho8 (k := 1) (by decide) (by decide)) (by omega) (own_b8 _) (g := (mkF m 19 #[.val (.ref a1), .val (.int p2), .val (.long q3), .second] [(.int ((((q3.toUInt64 >>> ((48 : Int32) &&& 0x3f).toInt64.toUInt64).toInt64).toInt32).toInt8.toInt32)), (.int (p2 + (1 : Int32))), (.ref a1)])) rfl rfl (hb hby d2_19)
  have N5 := Fr.snoc X5 N2 g1
  have pre6 : ∀ t, Steps p.tables e below (T5.setTop (mkF m 20 #[.val (.ref a1), .val (.int p2), .val (.long q3), .second] [])) t → Steps p.tables e below (s₁.setTop (entryFrame m #[(.ref a1), (.int p2), (.long q3)] 4)) t := fun t kt => pre4 t (st5 t kt)
  have K5 : Keep h0 h5 [a1] := K2.wr W5 (Or.inl (List.mem_of_getElem? (i := 0) rfl))
  have pre7 : ∀ t, Steps p.tables e below (T5.setTop (mkF m 30 #[.val (.ref a1), .val (.int p2), .val (.long q3), .second] [(.int ((((q3.toUInt64 >>> ((40 : Int32) &&& 0x3f).toInt64.toUInt64).toInt64).toInt32).toInt8.toInt32)), (.int (p2 + (2 : Int32))), (.ref a1)])) t → Steps p.tables e below (s₁.setTop (entryFrame m #[(.ref a1), (.int p2), (.long q3)] 4)) t := fun t kt => pre6 t (by
    show Steps p.tables e below (T5.setTop (mkF m 20 #[.val (.ref a1), .val (.int p2), .val (.long q3), .second] [])) _
    refine XS.aloadN X5.here hx rfl (hb hby d2_20) rfl rfl ?_
    show Steps p.tables e below (T5.setTop (mkF m 21 #[.val (.ref a1), .val (.int p2), .val (.long q3), .second] [(.ref a1)])) _
    refine XS.iloadN X5.here hx rfl (hb hby d2_21) rfl ?_
    show Steps p.tables e below (T5.setTop (mkF m 22 #[.val (.ref a1), .val (.int p2), .val (.long q3), .second] [(.int p2), (.ref a1)])) _
    refine XS.iconst X5.here hx rfl (hb hby d2_22) ?_
    show Steps p.tables e below (T5.setTop (mkF m 23 #[.val (.ref a1), .val (.int p2), .val (.long q3), .second] [(.int (2 : Int32)), (.int p2), (.ref a1)])) _
    refine XS.iadd X5.here hx rfl (hb hby d2_23) rfl ?_
    show Steps p.tables e below (T5.setTop (mkF m 24 #[.val (.ref a1), .val (.int p2), .val (.long q3), .second] [(.int (p2 + (2 : Int32))), (.ref a1)])) _
    refine XS.lloadN X5.here hx rfl (hb hby d2_24) rfl ?_
    show Steps p.tables e below (T5.setTop (mkF m 25 #[.val (.ref a1), .val (.int p2), .val (.long q3), .second] [(.long q3), (.int (p2 + (2 : Int32))), (.ref a1)])) _
    refine XS.bipush X5.here hx rfl (hb hby d2_25) ?_
    show Steps p.tables e below (T5.setTop (mkF m 27 #[.val (.ref a1), .val (.int p2), .val (.long q3), .second] [(.int (40 : Int32)), (.long q3), (.int (p2 + (2 : Int32))), (.ref a1)])) _
    refine XS.lushr X5.here hx rfl (hb hby d2_27) rfl ?_
    show Steps p.tables e below (T5.setTop (mkF m 28 #[.val (.ref a1), .val (.int p2), .val (.long q3), .second] [(.long ((q3.toUInt64 >>> ((40 : Int32) &&& 0x3f).toInt64.toUInt64).toInt64)), (.int (p2 + (2 : Int32))), (.ref a1)])) _
    refine XS.l2i X5.here hx rfl (hb hby d2_28) rfl ?_
    show Steps p.tables e below (T5.setTop (mkF m 29 #[.val (.ref a1), .val (.int p2), .val (.long q3), .second] [(.int (((q3.toUInt64 >>> ((40 : Int32) &&& 0x3f).toInt64.toUInt64).toInt64).toInt32)), (.int (p2 + (2 : Int32))), (.ref a1)])) _
    refine XS.i2b X5.here hx rfl (hb hby d2_29) rfl ?_
    exact kt)
  obtain ⟨T8, h8, X8, e8, B8, W8, st8⟩ := own_bstore X5 hx hZ e5 B5 (j := (p2 + (2 : Int32))) (x := ((((q3.toUInt64 >>> ((40 : Int32) &&& 0x3f).toInt64.toUInt64).toInt64).toInt32).toInt8.toInt32)) (v := (own_by q3 (40 : Int32))) (k := (o + 2)) (own_off ho ho8 (k := 2) (by decide) (by decide)) (by omega) (own_b8 _) (g := (mkF m 30 #[.val (.ref a1), .val (.int p2), .val (.long q3), .second] [(.int ((((q3.toUInt64 >>> ((40 : Int32) &&& 0x3f).toInt64.toUInt64).toInt64).toInt32).toInt8.toInt32)), (.int (p2 + (2 : Int32))), (.ref a1)])) rfl rfl (hb hby d2_30)
  have N8 := Fr.snoc X8 N5 g1
  have pre9 : ∀ t, Steps p.tables e below (T8.setTop (mkF m 31 #[.val (.ref a1), .val (.int p2), .val (.long q3), .second] [])) t → Steps p.tables e below (s₁.setTop (entryFrame m #[(.ref a1), (.int p2), (.long q3)] 4)) t := fun t kt => pre7 t (st8 t kt)
  have K8 : Keep h0 h8 [a1] := K5.wr W8 (Or.inl (List.mem_of_getElem? (i := 0) rfl))
  have pre10 : ∀ t, Steps p.tables e below (T8.setTop (mkF m 41 #[.val (.ref a1), .val (.int p2), .val (.long q3), .second] [(.int ((((q3.toUInt64 >>> ((32 : Int32) &&& 0x3f).toInt64.toUInt64).toInt64).toInt32).toInt8.toInt32)), (.int (p2 + (3 : Int32))), (.ref a1)])) t → Steps p.tables e below (s₁.setTop (entryFrame m #[(.ref a1), (.int p2), (.long q3)] 4)) t := fun t kt => pre9 t (by
    show Steps p.tables e below (T8.setTop (mkF m 31 #[.val (.ref a1), .val (.int p2), .val (.long q3), .second] [])) _
    refine XS.aloadN X8.here hx rfl (hb hby d2_31) rfl rfl ?_
    show Steps p.tables e below (T8.setTop (mkF m 32 #[.val (.ref a1), .val (.int p2), .val (.long q3), .second] [(.ref a1)])) _
    refine XS.iloadN X8.here hx rfl (hb hby d2_32) rfl ?_
    show Steps p.tables e below (T8.setTop (mkF m 33 #[.val (.ref a1), .val (.int p2), .val (.long q3), .second] [(.int p2), (.ref a1)])) _
    refine XS.iconst X8.here hx rfl (hb hby d2_33) ?_
    show Steps p.tables e below (T8.setTop (mkF m 34 #[.val (.ref a1), .val (.int p2), .val (.long q3), .second] [(.int (3 : Int32)), (.int p2), (.ref a1)])) _
    refine XS.iadd X8.here hx rfl (hb hby d2_34) rfl ?_
    show Steps p.tables e below (T8.setTop (mkF m 35 #[.val (.ref a1), .val (.int p2), .val (.long q3), .second] [(.int (p2 + (3 : Int32))), (.ref a1)])) _
    refine XS.lloadN X8.here hx rfl (hb hby d2_35) rfl ?_
    show Steps p.tables e below (T8.setTop (mkF m 36 #[.val (.ref a1), .val (.int p2), .val (.long q3), .second] [(.long q3), (.int (p2 + (3 : Int32))), (.ref a1)])) _
    refine XS.bipush X8.here hx rfl (hb hby d2_36) ?_
    show Steps p.tables e below (T8.setTop (mkF m 38 #[.val (.ref a1), .val (.int p2), .val (.long q3), .second] [(.int (32 : Int32)), (.long q3), (.int (p2 + (3 : Int32))), (.ref a1)])) _
    refine XS.lushr X8.here hx rfl (hb hby d2_38) rfl ?_
    show Steps p.tables e below (T8.setTop (mkF m 39 #[.val (.ref a1), .val (.int p2), .val (.long q3), .second] [(.long ((q3.toUInt64 >>> ((32 : Int32) &&& 0x3f).toInt64.toUInt64).toInt64)), (.int (p2 + (3 : Int32))), (.ref a1)])) _
    refine XS.l2i X8.here hx rfl (hb hby d2_39) rfl ?_
    show Steps p.tables e below (T8.setTop (mkF m 40 #[.val (.ref a1), .val (.int p2), .val (.long q3), .second] [(.int (((q3.toUInt64 >>> ((32 : Int32) &&& 0x3f).toInt64.toUInt64).toInt64).toInt32)), (.int (p2 + (3 : Int32))), (.ref a1)])) _
    refine XS.i2b X8.here hx rfl (hb hby d2_40) rfl ?_
    exact kt)
  obtain ⟨T11, h11, X11, e11, B11, W11, st11⟩ := own_bstore X8 hx hZ e8 B8 (j := (p2 + (3 : Int32))) (x := ((((q3.toUInt64 >>> ((32 : Int32) &&& 0x3f).toInt64.toUInt64).toInt64).toInt32).toInt8.toInt32)) (v := (own_by q3 (32 : Int32))) (k := (o + 3)) (own_off ho ho8 (k := 3) (by decide) (by decide)) (by omega) (own_b8 _) (g := (mkF m 41 #[.val (.ref a1), .val (.int p2), .val (.long q3), .second] [(.int ((((q3.toUInt64 >>> ((32 : Int32) &&& 0x3f).toInt64.toUInt64).toInt64).toInt32).toInt8.toInt32)), (.int (p2 + (3 : Int32))), (.ref a1)])) rfl rfl (hb hby d2_41)
  have N11 := Fr.snoc X11 N8 g1
  have pre12 : ∀ t, Steps p.tables e below (T11.setTop (mkF m 42 #[.val (.ref a1), .val (.int p2), .val (.long q3), .second] [])) t → Steps p.tables e below (s₁.setTop (entryFrame m #[(.ref a1), (.int p2), (.long q3)] 4)) t := fun t kt => pre10 t (st11 t kt)
  have K11 : Keep h0 h11 [a1] := K8.wr W11 (Or.inl (List.mem_of_getElem? (i := 0) rfl))
  have pre13 : ∀ t, Steps p.tables e below (T11.setTop (mkF m 52 #[.val (.ref a1), .val (.int p2), .val (.long q3), .second] [(.int ((((q3.toUInt64 >>> ((24 : Int32) &&& 0x3f).toInt64.toUInt64).toInt64).toInt32).toInt8.toInt32)), (.int (p2 + (4 : Int32))), (.ref a1)])) t → Steps p.tables e below (s₁.setTop (entryFrame m #[(.ref a1), (.int p2), (.long q3)] 4)) t := fun t kt => pre12 t (by
    show Steps p.tables e below (T11.setTop (mkF m 42 #[.val (.ref a1), .val (.int p2), .val (.long q3), .second] [])) _
    refine XS.aloadN X11.here hx rfl (hb hby d2_42) rfl rfl ?_
    show Steps p.tables e below (T11.setTop (mkF m 43 #[.val (.ref a1), .val (.int p2), .val (.long q3), .second] [(.ref a1)])) _
    refine XS.iloadN X11.here hx rfl (hb hby d2_43) rfl ?_
    show Steps p.tables e below (T11.setTop (mkF m 44 #[.val (.ref a1), .val (.int p2), .val (.long q3), .second] [(.int p2), (.ref a1)])) _
    refine XS.iconst X11.here hx rfl (hb hby d2_44) ?_
    show Steps p.tables e below (T11.setTop (mkF m 45 #[.val (.ref a1), .val (.int p2), .val (.long q3), .second] [(.int (4 : Int32)), (.int p2), (.ref a1)])) _
    refine XS.iadd X11.here hx rfl (hb hby d2_45) rfl ?_
    show Steps p.tables e below (T11.setTop (mkF m 46 #[.val (.ref a1), .val (.int p2), .val (.long q3), .second] [(.int (p2 + (4 : Int32))), (.ref a1)])) _
    refine XS.lloadN X11.here hx rfl (hb hby d2_46) rfl ?_
    show Steps p.tables e below (T11.setTop (mkF m 47 #[.val (.ref a1), .val (.int p2), .val (.long q3), .second] [(.long q3), (.int (p2 + (4 : Int32))), (.ref a1)])) _
    refine XS.bipush X11.here hx rfl (hb hby d2_47) ?_
    show Steps p.tables e below (T11.setTop (mkF m 49 #[.val (.ref a1), .val (.int p2), .val (.long q3), .second] [(.int (24 : Int32)), (.long q3), (.int (p2 + (4 : Int32))), (.ref a1)])) _
    refine XS.lushr X11.here hx rfl (hb hby d2_49) rfl ?_
    show Steps p.tables e below (T11.setTop (mkF m 50 #[.val (.ref a1), .val (.int p2), .val (.long q3), .second] [(.long ((q3.toUInt64 >>> ((24 : Int32) &&& 0x3f).toInt64.toUInt64).toInt64)), (.int (p2 + (4 : Int32))), (.ref a1)])) _
    refine XS.l2i X11.here hx rfl (hb hby d2_50) rfl ?_
    show Steps p.tables e below (T11.setTop (mkF m 51 #[.val (.ref a1), .val (.int p2), .val (.long q3), .second] [(.int (((q3.toUInt64 >>> ((24 : Int32) &&& 0x3f).toInt64.toUInt64).toInt64).toInt32)), (.int (p2 + (4 : Int32))), (.ref a1)])) _
    refine XS.i2b X11.here hx rfl (hb hby d2_51) rfl ?_
    exact kt)
  obtain ⟨T14, h14, X14, e14, B14, W14, st14⟩ := own_bstore X11 hx hZ e11 B11 (j := (p2 + (4 : Int32))) (x := ((((q3.toUInt64 >>> ((24 : Int32) &&& 0x3f).toInt64.toUInt64).toInt64).toInt32).toInt8.toInt32)) (v := (own_by q3 (24 : Int32))) (k := (o + 4)) (own_off ho ho8 (k := 4) (by decide) (by decide)) (by omega) (own_b8 _) (g := (mkF m 52 #[.val (.ref a1), .val (.int p2), .val (.long q3), .second] [(.int ((((q3.toUInt64 >>> ((24 : Int32) &&& 0x3f).toInt64.toUInt64).toInt64).toInt32).toInt8.toInt32)), (.int (p2 + (4 : Int32))), (.ref a1)])) rfl rfl (hb hby d2_52)
  have N14 := Fr.snoc X14 N11 g1
  have pre15 : ∀ t, Steps p.tables e below (T14.setTop (mkF m 53 #[.val (.ref a1), .val (.int p2), .val (.long q3), .second] [])) t → Steps p.tables e below (s₁.setTop (entryFrame m #[(.ref a1), (.int p2), (.long q3)] 4)) t := fun t kt => pre13 t (st14 t kt)
  have K14 : Keep h0 h14 [a1] := K11.wr W14 (Or.inl (List.mem_of_getElem? (i := 0) rfl))
  have pre16 : ∀ t, Steps p.tables e below (T14.setTop (mkF m 63 #[.val (.ref a1), .val (.int p2), .val (.long q3), .second] [(.int ((((q3.toUInt64 >>> ((16 : Int32) &&& 0x3f).toInt64.toUInt64).toInt64).toInt32).toInt8.toInt32)), (.int (p2 + (5 : Int32))), (.ref a1)])) t → Steps p.tables e below (s₁.setTop (entryFrame m #[(.ref a1), (.int p2), (.long q3)] 4)) t := fun t kt => pre15 t (by
    show Steps p.tables e below (T14.setTop (mkF m 53 #[.val (.ref a1), .val (.int p2), .val (.long q3), .second] [])) _
    refine XS.aloadN X14.here hx rfl (hb hby d2_53) rfl rfl ?_
    show Steps p.tables e below (T14.setTop (mkF m 54 #[.val (.ref a1), .val (.int p2), .val (.long q3), .second] [(.ref a1)])) _
    refine XS.iloadN X14.here hx rfl (hb hby d2_54) rfl ?_
    show Steps p.tables e below (T14.setTop (mkF m 55 #[.val (.ref a1), .val (.int p2), .val (.long q3), .second] [(.int p2), (.ref a1)])) _
    refine XS.iconst X14.here hx rfl (hb hby d2_55) ?_
    show Steps p.tables e below (T14.setTop (mkF m 56 #[.val (.ref a1), .val (.int p2), .val (.long q3), .second] [(.int (5 : Int32)), (.int p2), (.ref a1)])) _
    refine XS.iadd X14.here hx rfl (hb hby d2_56) rfl ?_
    show Steps p.tables e below (T14.setTop (mkF m 57 #[.val (.ref a1), .val (.int p2), .val (.long q3), .second] [(.int (p2 + (5 : Int32))), (.ref a1)])) _
    refine XS.lloadN X14.here hx rfl (hb hby d2_57) rfl ?_
    show Steps p.tables e below (T14.setTop (mkF m 58 #[.val (.ref a1), .val (.int p2), .val (.long q3), .second] [(.long q3), (.int (p2 + (5 : Int32))), (.ref a1)])) _
    refine XS.bipush X14.here hx rfl (hb hby d2_58) ?_
    show Steps p.tables e below (T14.setTop (mkF m 60 #[.val (.ref a1), .val (.int p2), .val (.long q3), .second] [(.int (16 : Int32)), (.long q3), (.int (p2 + (5 : Int32))), (.ref a1)])) _
    refine XS.lushr X14.here hx rfl (hb hby d2_60) rfl ?_
    show Steps p.tables e below (T14.setTop (mkF m 61 #[.val (.ref a1), .val (.int p2), .val (.long q3), .second] [(.long ((q3.toUInt64 >>> ((16 : Int32) &&& 0x3f).toInt64.toUInt64).toInt64)), (.int (p2 + (5 : Int32))), (.ref a1)])) _
    refine XS.l2i X14.here hx rfl (hb hby d2_61) rfl ?_
    show Steps p.tables e below (T14.setTop (mkF m 62 #[.val (.ref a1), .val (.int p2), .val (.long q3), .second] [(.int (((q3.toUInt64 >>> ((16 : Int32) &&& 0x3f).toInt64.toUInt64).toInt64).toInt32)), (.int (p2 + (5 : Int32))), (.ref a1)])) _
    refine XS.i2b X14.here hx rfl (hb hby d2_62) rfl ?_
    exact kt)
  obtain ⟨T17, h17, X17, e17, B17, W17, st17⟩ := own_bstore X14 hx hZ e14 B14 (j := (p2 + (5 : Int32))) (x := ((((q3.toUInt64 >>> ((16 : Int32) &&& 0x3f).toInt64.toUInt64).toInt64).toInt32).toInt8.toInt32)) (v := (own_by q3 (16 : Int32))) (k := (o + 5)) (own_off ho ho8 (k := 5) (by decide) (by decide)) (by omega) (own_b8 _) (g := (mkF m 63 #[.val (.ref a1), .val (.int p2), .val (.long q3), .second] [(.int ((((q3.toUInt64 >>> ((16 : Int32) &&& 0x3f).toInt64.toUInt64).toInt64).toInt32).toInt8.toInt32)), (.int (p2 + (5 : Int32))), (.ref a1)])) rfl rfl (hb hby d2_63)
  have N17 := Fr.snoc X17 N14 g1
  have pre18 : ∀ t, Steps p.tables e below (T17.setTop (mkF m 64 #[.val (.ref a1), .val (.int p2), .val (.long q3), .second] [])) t → Steps p.tables e below (s₁.setTop (entryFrame m #[(.ref a1), (.int p2), (.long q3)] 4)) t := fun t kt => pre16 t (st17 t kt)
  have K17 : Keep h0 h17 [a1] := K14.wr W17 (Or.inl (List.mem_of_getElem? (i := 0) rfl))
  have pre19 : ∀ t, Steps p.tables e below (T17.setTop (mkF m 75 #[.val (.ref a1), .val (.int p2), .val (.long q3), .second] [(.int ((((q3.toUInt64 >>> ((8 : Int32) &&& 0x3f).toInt64.toUInt64).toInt64).toInt32).toInt8.toInt32)), (.int (p2 + (6 : Int32))), (.ref a1)])) t → Steps p.tables e below (s₁.setTop (entryFrame m #[(.ref a1), (.int p2), (.long q3)] 4)) t := fun t kt => pre18 t (by
    show Steps p.tables e below (T17.setTop (mkF m 64 #[.val (.ref a1), .val (.int p2), .val (.long q3), .second] [])) _
    refine XS.aloadN X17.here hx rfl (hb hby d2_64) rfl rfl ?_
    show Steps p.tables e below (T17.setTop (mkF m 65 #[.val (.ref a1), .val (.int p2), .val (.long q3), .second] [(.ref a1)])) _
    refine XS.iloadN X17.here hx rfl (hb hby d2_65) rfl ?_
    show Steps p.tables e below (T17.setTop (mkF m 66 #[.val (.ref a1), .val (.int p2), .val (.long q3), .second] [(.int p2), (.ref a1)])) _
    refine XS.bipush X17.here hx rfl (hb hby d2_66) ?_
    show Steps p.tables e below (T17.setTop (mkF m 68 #[.val (.ref a1), .val (.int p2), .val (.long q3), .second] [(.int (6 : Int32)), (.int p2), (.ref a1)])) _
    refine XS.iadd X17.here hx rfl (hb hby d2_68) rfl ?_
    show Steps p.tables e below (T17.setTop (mkF m 69 #[.val (.ref a1), .val (.int p2), .val (.long q3), .second] [(.int (p2 + (6 : Int32))), (.ref a1)])) _
    refine XS.lloadN X17.here hx rfl (hb hby d2_69) rfl ?_
    show Steps p.tables e below (T17.setTop (mkF m 70 #[.val (.ref a1), .val (.int p2), .val (.long q3), .second] [(.long q3), (.int (p2 + (6 : Int32))), (.ref a1)])) _
    refine XS.bipush X17.here hx rfl (hb hby d2_70) ?_
    show Steps p.tables e below (T17.setTop (mkF m 72 #[.val (.ref a1), .val (.int p2), .val (.long q3), .second] [(.int (8 : Int32)), (.long q3), (.int (p2 + (6 : Int32))), (.ref a1)])) _
    refine XS.lushr X17.here hx rfl (hb hby d2_72) rfl ?_
    show Steps p.tables e below (T17.setTop (mkF m 73 #[.val (.ref a1), .val (.int p2), .val (.long q3), .second] [(.long ((q3.toUInt64 >>> ((8 : Int32) &&& 0x3f).toInt64.toUInt64).toInt64)), (.int (p2 + (6 : Int32))), (.ref a1)])) _
    refine XS.l2i X17.here hx rfl (hb hby d2_73) rfl ?_
    show Steps p.tables e below (T17.setTop (mkF m 74 #[.val (.ref a1), .val (.int p2), .val (.long q3), .second] [(.int (((q3.toUInt64 >>> ((8 : Int32) &&& 0x3f).toInt64.toUInt64).toInt64).toInt32)), (.int (p2 + (6 : Int32))), (.ref a1)])) _
    refine XS.i2b X17.here hx rfl (hb hby d2_74) rfl ?_
    exact kt)
  obtain ⟨T20, h20, X20, e20, B20, W20, st20⟩ := own_bstore X17 hx hZ e17 B17 (j := (p2 + (6 : Int32))) (x := ((((q3.toUInt64 >>> ((8 : Int32) &&& 0x3f).toInt64.toUInt64).toInt64).toInt32).toInt8.toInt32)) (v := (own_by q3 (8 : Int32))) (k := (o + 6)) (own_off ho ho8 (k := 6) (by decide) (by decide)) (by omega) (own_b8 _) (g := (mkF m 75 #[.val (.ref a1), .val (.int p2), .val (.long q3), .second] [(.int ((((q3.toUInt64 >>> ((8 : Int32) &&& 0x3f).toInt64.toUInt64).toInt64).toInt32).toInt8.toInt32)), (.int (p2 + (6 : Int32))), (.ref a1)])) rfl rfl (hb hby d2_75)
  have N20 := Fr.snoc X20 N17 g1
  have pre21 : ∀ t, Steps p.tables e below (T20.setTop (mkF m 76 #[.val (.ref a1), .val (.int p2), .val (.long q3), .second] [])) t → Steps p.tables e below (s₁.setTop (entryFrame m #[(.ref a1), (.int p2), (.long q3)] 4)) t := fun t kt => pre19 t (st20 t kt)
  have K20 : Keep h0 h20 [a1] := K17.wr W20 (Or.inl (List.mem_of_getElem? (i := 0) rfl))
  have pre22 : ∀ t, Steps p.tables e below (T20.setTop (mkF m 84 #[.val (.ref a1), .val (.int p2), .val (.long q3), .second] [(.int ((q3.toInt32).toInt8.toInt32)), (.int (p2 + (7 : Int32))), (.ref a1)])) t → Steps p.tables e below (s₁.setTop (entryFrame m #[(.ref a1), (.int p2), (.long q3)] 4)) t := fun t kt => pre21 t (by
    show Steps p.tables e below (T20.setTop (mkF m 76 #[.val (.ref a1), .val (.int p2), .val (.long q3), .second] [])) _
    refine XS.aloadN X20.here hx rfl (hb hby d2_76) rfl rfl ?_
    show Steps p.tables e below (T20.setTop (mkF m 77 #[.val (.ref a1), .val (.int p2), .val (.long q3), .second] [(.ref a1)])) _
    refine XS.iloadN X20.here hx rfl (hb hby d2_77) rfl ?_
    show Steps p.tables e below (T20.setTop (mkF m 78 #[.val (.ref a1), .val (.int p2), .val (.long q3), .second] [(.int p2), (.ref a1)])) _
    refine XS.bipush X20.here hx rfl (hb hby d2_78) ?_
    show Steps p.tables e below (T20.setTop (mkF m 80 #[.val (.ref a1), .val (.int p2), .val (.long q3), .second] [(.int (7 : Int32)), (.int p2), (.ref a1)])) _
    refine XS.iadd X20.here hx rfl (hb hby d2_80) rfl ?_
    show Steps p.tables e below (T20.setTop (mkF m 81 #[.val (.ref a1), .val (.int p2), .val (.long q3), .second] [(.int (p2 + (7 : Int32))), (.ref a1)])) _
    refine XS.lloadN X20.here hx rfl (hb hby d2_81) rfl ?_
    show Steps p.tables e below (T20.setTop (mkF m 82 #[.val (.ref a1), .val (.int p2), .val (.long q3), .second] [(.long q3), (.int (p2 + (7 : Int32))), (.ref a1)])) _
    refine XS.l2i X20.here hx rfl (hb hby d2_82) rfl ?_
    show Steps p.tables e below (T20.setTop (mkF m 83 #[.val (.ref a1), .val (.int p2), .val (.long q3), .second] [(.int (q3.toInt32)), (.int (p2 + (7 : Int32))), (.ref a1)])) _
    refine XS.i2b X20.here hx rfl (hb hby d2_83) rfl ?_
    exact kt)
  obtain ⟨T23, h23, X23, e23, B23, W23, st23⟩ := own_bstore X20 hx hZ e20 B20 (j := (p2 + (7 : Int32))) (x := ((q3.toInt32).toInt8.toInt32)) (v := (q3.toInt32.toInt8.toInt32)) (k := (o + 7)) (own_off ho ho8 (k := 7) (by decide) (by decide)) (by omega) (own_b8 _) (g := (mkF m 84 #[.val (.ref a1), .val (.int p2), .val (.long q3), .second] [(.int ((q3.toInt32).toInt8.toInt32)), (.int (p2 + (7 : Int32))), (.ref a1)])) rfl rfl (hb hby d2_84)
  have N23 := Fr.snoc X23 N20 g1
  have pre24 : ∀ t, Steps p.tables e below (T23.setTop (mkF m 85 #[.val (.ref a1), .val (.int p2), .val (.long q3), .second] [])) t → Steps p.tables e below (s₁.setTop (entryFrame m #[(.ref a1), (.int p2), (.long q3)] 4)) t := fun t kt => pre22 t (st23 t kt)
  have K23 : Keep h0 h23 [a1] := K20.wr W23 (Or.inl (List.mem_of_getElem? (i := 0) rfl))
  obtain ⟨fs, hr, hrun, hended, hW, hsame⟩ := X23.leave (v := none) (fun _ => rfl)
  refine ⟨_, _, pre24 _ ?_, hrun, hended, _, _, rfl, ?_, ⟨_, rfl⟩, hW, hsame.mono (by decide) (by decide)⟩
  · show Steps p.tables e below (T23.setTop (mkF m 85 #[.val (.ref a1), .val (.int p2), .val (.long q3), .second] [])) _
    exact X23.returnOut hx Bd.returns (hb hby d2_85) hr
  · show Q2 Z a1 p2 q3 o f h0 n0 _ T23.heap _
    rw [e23]
    exact ⟨rfl, N23, K23, B23⟩
theorem d3_0 : decode prog_11_method_1_code 0 = .ok (.aload_n 0, 1) := by decide +kernel
theorem d3_1 : decode prog_11_method_1_code 1 = .ok (.invokespecial 3, 3) := by decide +kernel
theorem d3_4 : decode prog_11_method_1_code 4 = .ok (.aload_n 0, 1) := by decide +kernel
theorem d3_5 : decode prog_11_method_1_code 5 = .ok (.bipush 16, 2) := by decide +kernel
theorem d3_7 : decode prog_11_method_1_code 7 = .ok (.newarray .byte, 2) := by decide +kernel
theorem d3_9 : decode prog_11_method_1_code 9 = .ok (.putfield 11, 3) := by decide +kernel
theorem d3_12 : decode prog_11_method_1_code 12 = .ok (.aload_n 0, 1) := by decide +kernel
theorem d3_13 : decode prog_11_method_1_code 13 = .ok (.sipush 512, 3) := by decide +kernel
theorem d3_16 : decode prog_11_method_1_code 16 = .ok (.newarray .byte, 2) := by decide +kernel
theorem d3_18 : decode prog_11_method_1_code 18 = .ok (.putfield 15, 3) := by decide +kernel
theorem d3_21 : decode prog_11_method_1_code 21 = .ok (.iload_n 1, 1) := by decide +kernel
theorem d3_22 : decode prog_11_method_1_code 22 = .ok (.iconst 1, 1) := by decide +kernel
theorem d3_23 : decode prog_11_method_1_code 23 = .ok (.if_icmp .lt 9, 3) := by decide +kernel
theorem d3_26 : decode prog_11_method_1_code 26 = .ok (.iload_n 1, 1) := by decide +kernel
theorem d3_27 : decode prog_11_method_1_code 27 = .ok (.bipush 16, 2) := by decide +kernel
theorem d3_29 : decode prog_11_method_1_code 29 = .ok (.if_icmp .le 17, 3) := by decide +kernel
theorem d3_46 : decode prog_11_method_1_code 46 = .ok (.aload_n 0, 1) := by decide +kernel
theorem d3_47 : decode prog_11_method_1_code 47 = .ok (.iload_n 1, 1) := by decide +kernel
theorem d3_48 : decode prog_11_method_1_code 48 = .ok (.putfield 27, 3) := by decide +kernel
theorem d3_51 : decode prog_11_method_1_code 51 = .ok (.return_, 1) := by decide +kernel
theorem pn_3 : plainName "saltgrove/aes/CounterKeystream" = true := by first | (simp [plainName, overriddenIn]; done) | decide +kernel
theorem ef_3 (m : MethodId) (x0 : Addr) (x1 : Int32) : entryFrame m #[(.ref x0), (.int x1)] 2 = mkF m 0 #[.val (.ref x0), .val (.int x1)] [] := by first | (simp [entryFrame, mkF, argsToLocals, Value.category]; done) | rfl
def Q3 (Z : State) (a1 : Addr) (p2 : Int32) (h0 : Heap) (n0 : Nat) (v : Option Value) (h : Heap) (L : List Loc) : Prop := v = none ∧ Fr n0 L ∧ Keep h0 h [a1] ∧ Exa Z h a1 "saltgrove/aes/CounterKeystream" ∧ Fld Z h a1 "saltgrove/aes/CounterKeystream" "counterBytes" "I" (.int p2)
set_option maxRecDepth 65536 in
set_option maxHeartbeats 40000000 in
theorem rm3 (l : Launch) (Z : State) (a0 : Array Value) (hw : ∀ d ∈ tables_1, d.before a0 Z = true) (ws : List Jvm.Cond) (a1 : Addr) (p2 : Int32) (h0 : Heap) (n0 : Nat) (Z0 : n0 ≤ h0.size) (E0 : Exa Z h0 a1 "saltgrove/aes/CounterKeystream") (Fc : Fld Z h0 a1 "saltgrove/aes/CounterKeystream" "counter" "[B" .null) (Fk : Fld Z h0 a1 "saltgrove/aes/CounterKeystream" "keystream" "[B" .null) (Fn : Fld Z h0 a1 "saltgrove/aes/CounterKeystream" "counterBytes" "I" (.int (0 : Int32))) (g1 : n0 ≤ a1) (c1 : ¬ p2 < 1) (c2 : ¬ (16 : Int32) < p2) :
    MetFree l (⟨"saltgrove/aes/CounterKeystream", "<init>", "(I)V"⟩ : MethodName) (head1 (Jvm.Cond.code (⟨"saltgrove/aes/CounterKeystream", "<init>", "(I)V"⟩ : MethodName) prog_11_method_1_code 2 none :: ws) ({ frames := 1, cells := 2, slots := 528, locals := 12 } : Room)) (fun a U => a = #[(.ref a1), (.int p2)] ∧ Z.Warmed39 U.vm ∧ U.heap = h0) (fun _ _ _ _ _ => True) (fun _ U ou U' => ∃ v L, ou = .returned v ∧ Q3 Z a1 p2 h0 n0 v U'.heap L ∧ FrameEnd U ou U' L ({ frames := 1, cells := 2, slots := 528, locals := 12 } : Room).cells ({ frames := 1, cells := 2, slots := 528, locals := 12 } : Room).slots) := by
  refine MetFree.of_bodySF (plainFor_of_name pn_3) hisR ?_
  intro p e s m args below meth c s₁ Bd hml0 hP hK
  obtain ⟨rfl, hZ, hh⟩ := hP
  have hx := Bd.exec
  have hby := Bd.bytes
  have hml : c.maxLocals = 2 := hml0
  have hown : s.vm.findClass "saltgrove/aes/CounterKeystream" = some m.cls := findClass_of_methodNamed Bd.named
  have hnm := (name_of_methodNamed Bd.named Bd.method).1
  have X0 : Stand p l e ({ frames := 1, cells := 2, slots := 528, locals := 12 } : Room) s m #[(.ref a1), (.int p2)] below meth c s₁ [] 0 0 := Stand.of_body Bd
  have e0 : s₁.heap = h0 := by rw [← hh, Bd.state]; rfl
  have N0 := Fr.nil n0
  have pre0 : ∀ t, Steps p.tables e below (s₁.setTop (mkF m 0 #[.val (.ref a1), .val (.int p2)] [])) t → Steps p.tables e below (s₁.setTop (entryFrame m #[(.ref a1), (.int p2)] 2)) t := fun t k => castTop (ef_3 m (a1) (p2)) k
  have pre1 : ∀ t, Steps p.tables e below (s₁.setTop (mkF m 1 #[.val (.ref a1), .val (.int p2)] [(.ref a1)])) t → Steps p.tables e below (s₁.setTop (entryFrame m #[(.ref a1), (.int p2)] 2)) t := fun t kt => pre0 t (by
    show Steps p.tables e below (s₁.setTop (mkF m 0 #[.val (.ref a1), .val (.int p2)] [])) _
    refine XS.aloadN X0.here hx rfl (hb hby d3_0) rfl rfl ?_
    exact kt)
  obtain ⟨T2, X2, e2, st2⟩ := initO X0 hx hZ hown (hw _ (List.mem_of_getElem? (i := 14) rfl)) (hw _ (List.mem_of_getElem? (i := 15) rfl)) (hw _ (List.mem_of_getElem? (i := 16) rfl)) e0 (g := (mkF m 1 #[.val (.ref a1), .val (.int p2)] [(.ref a1)])) rfl (by rw [hml]; rfl) rfl (hb hby d3_1) (by decide) (W := 0) (by show 2 * 0 + _ ≤ _; exact Nat.le_of_eq rfl) (by decide)
  have pre3 : ∀ t, Steps p.tables e below (T2.setTop (mkF m 4 #[.val (.ref a1), .val (.int p2)] [])) t → Steps p.tables e below (s₁.setTop (entryFrame m #[(.ref a1), (.int p2)] 2)) t := fun t kt => pre1 t (st2 t kt)
  have pre4 : ∀ t, Steps p.tables e below (T2.setTop (mkF m 7 #[.val (.ref a1), .val (.int p2)] [(.int (16 : Int32)), (.ref a1)])) t → Steps p.tables e below (s₁.setTop (entryFrame m #[(.ref a1), (.int p2)] 2)) t := fun t kt => pre3 t (by
    show Steps p.tables e below (T2.setTop (mkF m 4 #[.val (.ref a1), .val (.int p2)] [])) _
    refine XS.aloadN X2.here hx rfl (hb hby d3_4) rfl rfl ?_
    show Steps p.tables e below (T2.setTop (mkF m 5 #[.val (.ref a1), .val (.int p2)] [(.ref a1)])) _
    refine XS.bipush X2.here hx rfl (hb hby d3_5) ?_
    exact kt)
  obtain ⟨T5, h5, X5, e5, E5, B5, A5, st5⟩ := own_bnew X2 hx hZ (hw _ (List.mem_of_getElem? (i := 4) rfl)) e2 (g := (mkF m 7 #[.val (.ref a1), .val (.int p2)] [(.int (16 : Int32)), (.ref a1)])) rfl (hb hby d3_7) rfl (n := 16) (by decide) (by decide) (by decide) (by decide)
  obtain ⟨b5, g5⟩ : ∃ z, z = h0.size := ⟨_, rfl⟩
  rw [← g5] at B5 A5 st5
  have pre6 : ∀ t, Steps p.tables e below (T5.setTop (mkF m 9 #[.val (.ref a1), .val (.int p2)] [(.ref b5), (.ref a1)])) t → Steps p.tables e below (s₁.setTop (entryFrame m #[(.ref a1), (.int p2)] 2)) t := fun t kt => pre4 t (st5 t kt)
  have Ea := E0.ext E5
  have Fca := Fc.ext E5
  have Fka := Fk.ext E5
  have Fna := Fn.ext E5
  have Ka := (Keep.refl h0 [a1]).ext E5
  obtain ⟨T7, h7, X7, e7, W7, st7⟩ := putF X5 hx hZ hown (host := "") (Or.inl (hw _ (List.mem_of_getElem? (i := 17) rfl))) Via.refl e5 Fca Ea (Or.inr ⟨(hw _ (List.mem_of_getElem? (i := 18) rfl)), rfl, hnm⟩) (hw _ (List.mem_of_getElem? (i := 9) rfl)) (ty := (.array .byte)) (by decide) rfl rfl (g := (mkF m 9 #[.val (.ref a1), .val (.int p2)] [(.ref b5), (.ref a1)])) rfl rfl (hb hby d3_9)
  have N7 := Fr.snoc X7 N0 g1
  have F7 := Fca.same W7
  have pre8 : ∀ t, Steps p.tables e below (T7.setTop (mkF m 12 #[.val (.ref a1), .val (.int p2)] [])) t → Steps p.tables e below (s₁.setTop (entryFrame m #[(.ref a1), (.int p2)] 2)) t := fun t kt => pre6 t (st7 t kt)
  have Eb := Ea.wr W7
  have Fkb := Fka.other W7 (Or.inr (slot_ne (Or.inr (hw _ (List.mem_of_getElem? (i := 20) rfl))) (Or.inr (hw _ (List.mem_of_getElem? (i := 18) rfl))) (by decide) (t := (.array .byte)) (t' := (.array .byte)) (by decide) (by decide)))
  have Fnb := Fna.other W7 (Or.inr (slot_ne (Or.inr (hw _ (List.mem_of_getElem? (i := 22) rfl))) (Or.inr (hw _ (List.mem_of_getElem? (i := 18) rfl))) (by decide) (t := .int) (t' := (.array .byte)) (by decide) (by decide)))
  have Kb := Ka.wr W7 (Or.inl (List.mem_of_getElem? (i := 0) rfl))
  have pre9 : ∀ t, Steps p.tables e below (T7.setTop (mkF m 16 #[.val (.ref a1), .val (.int p2)] [(.int (512 : Int32)), (.ref a1)])) t → Steps p.tables e below (s₁.setTop (entryFrame m #[(.ref a1), (.int p2)] 2)) t := fun t kt => pre8 t (by
    show Steps p.tables e below (T7.setTop (mkF m 12 #[.val (.ref a1), .val (.int p2)] [])) _
    refine XS.aloadN X7.here hx rfl (hb hby d3_12) rfl rfl ?_
    show Steps p.tables e below (T7.setTop (mkF m 13 #[.val (.ref a1), .val (.int p2)] [(.ref a1)])) _
    refine XS.sipush X7.here hx rfl (hb hby d3_13) ?_
    exact kt)
  obtain ⟨T10, h10, X10, e10, E10, B10, A10, st10⟩ := own_bnew X7 hx hZ (hw _ (List.mem_of_getElem? (i := 4) rfl)) e7 (g := (mkF m 16 #[.val (.ref a1), .val (.int p2)] [(.int (512 : Int32)), (.ref a1)])) rfl (hb hby d3_16) rfl (n := 512) (by decide) (by decide) (by decide) (by decide)
  obtain ⟨b10, g10⟩ : ∃ z, z = h7.size := ⟨_, rfl⟩
  rw [← g10] at B10 A10 st10
  have pre11 : ∀ t, Steps p.tables e below (T10.setTop (mkF m 18 #[.val (.ref a1), .val (.int p2)] [(.ref b10), (.ref a1)])) t → Steps p.tables e below (s₁.setTop (entryFrame m #[(.ref a1), (.int p2)] 2)) t := fun t kt => pre9 t (st10 t kt)
  have Ec := Eb.ext E10
  have Fkc := Fkb.ext E10
  have Fnc := Fnb.ext E10
  have Kc := Kb.ext E10
  obtain ⟨T12, h12, X12, e12, W12, st12⟩ := putF X10 hx hZ hown (host := "") (Or.inl (hw _ (List.mem_of_getElem? (i := 19) rfl))) Via.refl e10 Fkc Ec (Or.inr ⟨(hw _ (List.mem_of_getElem? (i := 20) rfl)), rfl, hnm⟩) (hw _ (List.mem_of_getElem? (i := 9) rfl)) (ty := (.array .byte)) (by decide) rfl rfl (g := (mkF m 18 #[.val (.ref a1), .val (.int p2)] [(.ref b10), (.ref a1)])) rfl rfl (hb hby d3_18)
  have N12 := Fr.snoc X12 N7 g1
  have F12 := Fkc.same W12
  have pre13 : ∀ t, Steps p.tables e below (T12.setTop (mkF m 21 #[.val (.ref a1), .val (.int p2)] [])) t → Steps p.tables e below (s₁.setTop (entryFrame m #[(.ref a1), (.int p2)] 2)) t := fun t kt => pre11 t (st12 t kt)
  have Ed := Ec.wr W12
  have Fnd := Fnc.other W12 (Or.inr (slot_ne (Or.inr (hw _ (List.mem_of_getElem? (i := 22) rfl))) (Or.inr (hw _ (List.mem_of_getElem? (i := 20) rfl))) (by decide) (t := .int) (t' := (.array .byte)) (by decide) (by decide)))
  have Kd := Kc.wr W12 (Or.inl (List.mem_of_getElem? (i := 0) rfl))
  have pre14 : ∀ t, Steps p.tables e below (T12.setTop (mkF m 48 #[.val (.ref a1), .val (.int p2)] [(.int p2), (.ref a1)])) t → Steps p.tables e below (s₁.setTop (entryFrame m #[(.ref a1), (.int p2)] 2)) t := fun t kt => pre13 t (by
    show Steps p.tables e below (T12.setTop (mkF m 21 #[.val (.ref a1), .val (.int p2)] [])) _
    refine XS.iloadN X12.here hx rfl (hb hby d3_21) rfl ?_
    show Steps p.tables e below (T12.setTop (mkF m 22 #[.val (.ref a1), .val (.int p2)] [(.int p2)])) _
    refine XS.iconst X12.here hx rfl (hb hby d3_22) ?_
    show Steps p.tables e below (T12.setTop (mkF m 23 #[.val (.ref a1), .val (.int p2)] [(.int (1 : Int32)), (.int p2)])) _
    refine XS.icmpNo X12.here hx rfl (hb hby d3_23) rfl (flt c1).1 ?_
    show Steps p.tables e below (T12.setTop (mkF m 26 #[.val (.ref a1), .val (.int p2)] [])) _
    refine XS.iloadN X12.here hx rfl (hb hby d3_26) rfl ?_
    show Steps p.tables e below (T12.setTop (mkF m 27 #[.val (.ref a1), .val (.int p2)] [(.int p2)])) _
    refine XS.bipush X12.here hx rfl (hb hby d3_27) ?_
    show Steps p.tables e below (T12.setTop (mkF m 29 #[.val (.ref a1), .val (.int p2)] [(.int (16 : Int32)), (.int p2)])) _
    refine XS.icmpYes X12.here hx rfl (pc0 := 29) (pc' := 46) rfl (hb hby d3_29) rfl (flt c2).2.2.2 (by decide) (by decide) ?_
    show Steps p.tables e below (T12.setTop (mkF m 46 #[.val (.ref a1), .val (.int p2)] [])) _
    refine XS.aloadN X12.here hx rfl (hb hby d3_46) rfl rfl ?_
    show Steps p.tables e below (T12.setTop (mkF m 47 #[.val (.ref a1), .val (.int p2)] [(.ref a1)])) _
    refine XS.iloadN X12.here hx rfl (hb hby d3_47) rfl ?_
    exact kt)
  obtain ⟨T15, h15, X15, e15, W15, st15⟩ := putF X12 hx hZ hown (host := "") (Or.inl (hw _ (List.mem_of_getElem? (i := 21) rfl))) Via.refl e12 Fnd Ed (Or.inr ⟨(hw _ (List.mem_of_getElem? (i := 22) rfl)), rfl, hnm⟩) (hw _ (List.mem_of_getElem? (i := 9) rfl)) (ty := .int) (by decide) rfl rfl (g := (mkF m 48 #[.val (.ref a1), .val (.int p2)] [(.int p2), (.ref a1)])) rfl rfl (hb hby d3_48)
  have N15 := Fr.snoc X15 N12 g1
  have F15 := Fnd.same W15
  have pre16 : ∀ t, Steps p.tables e below (T15.setTop (mkF m 51 #[.val (.ref a1), .val (.int p2)] [])) t → Steps p.tables e below (s₁.setTop (entryFrame m #[(.ref a1), (.int p2)] 2)) t := fun t kt => pre14 t (st15 t kt)
  obtain ⟨fs, hr, hrun, hended, hW, hsame⟩ := X15.leave (v := none) (fun _ => rfl)
  refine ⟨_, _, pre16 _ ?_, hrun, hended, _, _, rfl, ?_, ⟨_, rfl⟩, hW, hsame.mono (by decide) (by decide)⟩
  · show Steps p.tables e below (T15.setTop (mkF m 51 #[.val (.ref a1), .val (.int p2)] [])) _
    exact X15.returnOut hx Bd.returns (hb hby d3_51) hr
  · show Q3 Z a1 p2 h0 n0 _ T15.heap _
    rw [e15]
    exact ⟨rfl, N15, Kd.wr W15 (Or.inl (List.mem_of_getElem? (i := 0) rfl)), Ed.wr W15, F15⟩
theorem d5_0 : decode prog_11_method_5_code 0 = .ok (.iconst 1, 1) := by decide +kernel
theorem d5_1 : decode prog_11_method_5_code 1 = .ok (.istore_n 2, 1) := by decide +kernel
theorem d5_2 : decode prog_11_method_5_code 2 = .ok (.bipush 15, 2) := by decide +kernel
theorem d5_4 : decode prog_11_method_5_code 4 = .ok (.istore_n 3, 1) := by decide +kernel
theorem d5_5 : decode prog_11_method_5_code 5 = .ok (.iload_n 3, 1) := by decide +kernel
theorem d5_6 : decode prog_11_method_5_code 6 = .ok (.bipush 16, 2) := by decide +kernel
theorem d5_8 : decode prog_11_method_5_code 8 = .ok (.aload_n 0, 1) := by decide +kernel
theorem d5_9 : decode prog_11_method_5_code 9 = .ok (.getfield 27, 3) := by decide +kernel
theorem d5_12 : decode prog_11_method_5_code 12 = .ok (.isub, 1) := by decide +kernel
theorem d5_13 : decode prog_11_method_5_code 13 = .ok (.if_icmp .lt 29, 3) := by decide +kernel
theorem d5_16 : decode prog_11_method_5_code 16 = .ok (.iload_n 2, 1) := by decide +kernel
theorem d5_17 : decode prog_11_method_5_code 17 = .ok (.aload_n 1, 1) := by decide +kernel
theorem d5_18 : decode prog_11_method_5_code 18 = .ok (.iload_n 3, 1) := by decide +kernel
theorem d5_19 : decode prog_11_method_5_code 19 = .ok (.baload, 1) := by decide +kernel
theorem d5_20 : decode prog_11_method_5_code 20 = .ok (.sipush 255, 3) := by decide +kernel
theorem d5_23 : decode prog_11_method_5_code 23 = .ok (.iand, 1) := by decide +kernel
theorem d5_24 : decode prog_11_method_5_code 24 = .ok (.iadd, 1) := by decide +kernel
theorem d5_25 : decode prog_11_method_5_code 25 = .ok (.istore_n 2, 1) := by decide +kernel
theorem d5_26 : decode prog_11_method_5_code 26 = .ok (.aload_n 1, 1) := by decide +kernel
theorem d5_27 : decode prog_11_method_5_code 27 = .ok (.iload_n 3, 1) := by decide +kernel
theorem d5_28 : decode prog_11_method_5_code 28 = .ok (.iload_n 2, 1) := by decide +kernel
theorem d5_29 : decode prog_11_method_5_code 29 = .ok (.i2b, 1) := by decide +kernel
theorem d5_30 : decode prog_11_method_5_code 30 = .ok (.bastore, 1) := by decide +kernel
theorem d5_31 : decode prog_11_method_5_code 31 = .ok (.iload_n 2, 1) := by decide +kernel
theorem d5_32 : decode prog_11_method_5_code 32 = .ok (.bipush 8, 2) := by decide +kernel
theorem d5_34 : decode prog_11_method_5_code 34 = .ok (.iushr, 1) := by decide +kernel
theorem d5_35 : decode prog_11_method_5_code 35 = .ok (.istore_n 2, 1) := by decide +kernel
theorem d5_36 : decode prog_11_method_5_code 36 = .ok (.iinc 3 (-1), 3) := by decide +kernel
theorem d5_39 : decode prog_11_method_5_code 39 = .ok (.goto (-34), 3) := by decide +kernel
theorem d5_42 : decode prog_11_method_5_code 42 = .ok (.return_, 1) := by decide +kernel
theorem pn_5 : plainName "saltgrove/aes/CounterKeystream" = true := by first | (simp [plainName, overriddenIn]; done) | decide +kernel
theorem ef_5 (m : MethodId) (x0 : Addr) (x1 : Addr) : entryFrame m #[(.ref x0), (.ref x1)] 4 = mkF m 0 #[.val (.ref x0), .val (.ref x1), .unset, .unset] [] := by first | (simp [entryFrame, mkF, argsToLocals, Value.category]; done) | rfl
def Q5 (Z : State) (a1 : Addr) (a2 : Addr) (x : Int32) (n : Nat) (f : Nat → Int32) (h0 : Heap) (n0 : Nat) (v : Option Value) (h : Heap) (L : List Loc) : Prop := v = none ∧ Fr n0 L ∧ (∃ (g : Nat → Int32) (c : Int), BA Z h a2 16 g ∧ own_P n f g c) ∧ Keep h0 h [a2]
set_option maxRecDepth 65536 in
set_option maxHeartbeats 40000000 in
theorem rm5 (l : Launch) (Z : State) (a0 : Array Value) (hw : ∀ d ∈ tables_1, d.before a0 Z = true) (ws : List Jvm.Cond) (a1 : Addr) (a2 : Addr) (x : Int32) (n : Nat) (f : Nat → Int32) (h0 : Heap) (n0 : Nat) (Z0 : n0 ≤ h0.size) (Fx : Fld Z h0 a1 "saltgrove/aes/CounterKeystream" "counterBytes" "I" (.int x)) (B0 : BA Z h0 a2 16 f) (hne : a1 ≠ a2) (g2 : n0 ≤ a2) (hx16 : x.toInt = (n : Int)) (hn : n ≤ 16) :
    MetFree l (⟨"saltgrove/aes/CounterKeystream", "increment", "([B)V"⟩ : MethodName) (head1 (Jvm.Cond.code (⟨"saltgrove/aes/CounterKeystream", "increment", "([B)V"⟩ : MethodName) prog_11_method_5_code 4 none :: ws) ({ frames := 0, cells := 0, slots := 0, locals := 0 } : Room)) (fun a U => a = #[(.ref a1), (.ref a2)] ∧ Z.Warmed39 U.vm ∧ U.heap = h0) (fun _ _ _ _ _ => True) (fun _ U ou U' => ∃ v L, ou = .returned v ∧ Q5 Z a1 a2 x n f h0 n0 v U'.heap L ∧ FrameEnd U ou U' L ({ frames := 0, cells := 0, slots := 0, locals := 0 } : Room).cells ({ frames := 0, cells := 0, slots := 0, locals := 0 } : Room).slots) := by
  refine MetFree.of_bodySF (plainFor_of_name pn_5) hisR ?_
  intro p e s m args below meth c s₁ Bd hml0 hP hK
  obtain ⟨rfl, hZ, hh⟩ := hP
  have hx := Bd.exec
  have hby := Bd.bytes
  have hml : c.maxLocals = 4 := hml0
  have hown : s.vm.findClass "saltgrove/aes/CounterKeystream" = some m.cls := findClass_of_methodNamed Bd.named
  have hnm := (name_of_methodNamed Bd.named Bd.method).1
  have X0 : Stand p l e ({ frames := 0, cells := 0, slots := 0, locals := 0 } : Room) s m #[(.ref a1), (.ref a2)] below meth c s₁ [] 0 0 := Stand.of_body Bd
  have e0 : s₁.heap = h0 := by rw [← hh, Bd.state]; rfl
  have N0 := Fr.nil n0
  have pre0 : ∀ t, Steps p.tables e below (s₁.setTop (mkF m 0 #[.val (.ref a1), .val (.ref a2), .unset, .unset] [])) t → Steps p.tables e below (s₁.setTop (entryFrame m #[(.ref a1), (.ref a2)] 4)) t := fun t k => castTop (ef_5 m (a1) (a2)) k
  have loop : ∀ (r k : Nat) (g : Nat → Int32) (cy i : Int32) (T1 : State) (h1 : Heap) (L1 : List Loc), k + r = n → i.toInt = 15 - (k : Int) → own_P k f g cy.toInt → Stand p l e ({ frames := 0, cells := 0, slots := 0, locals := 0 } : Room) s m #[(.ref a1), (.ref a2)] below meth c T1 L1 0 0 → T1.heap = h1 → Fr n0 L1 → BA Z h1 a2 16 g → Fld Z h1 a1 "saltgrove/aes/CounterKeystream" "counterBytes" "I" (.int x) → Keep h0 h1 [a2] →
      ∃ (T' : State) (h' : Heap) (L' : List Loc) (g' : Nat → Int32) (cy' i' : Int32), Stand p l e ({ frames := 0, cells := 0, slots := 0, locals := 0 } : Room) s m #[(.ref a1), (.ref a2)] below meth c T' L' 0 0 ∧ T'.heap = h' ∧ Fr n0 L' ∧ BA Z h' a2 16 g' ∧ Keep h0 h' [a2] ∧ own_P n f g' cy'.toInt ∧ ∀ t, Steps p.tables e below (T'.setTop (mkF m 42 #[.val (.ref a1), .val (.ref a2), .val (.int cy'), .val (.int i')] [])) t → Steps p.tables e below (T1.setTop (mkF m 5 #[.val (.ref a1), .val (.ref a2), .val (.int cy), .val (.int i)] [])) t := by
    intro r
    induction r with
    | zero =>
      intro k g cy i T1 h1 L1 hk hi P X1 e1 N1 B1 F1 K1
      have prea : ∀ t, Steps p.tables e below (T1.setTop (mkF m 5 #[.val (.ref a1), .val (.ref a2), .val (.int cy), .val (.int i)] [])) t → Steps p.tables e below (T1.setTop (mkF m 5 #[.val (.ref a1), .val (.ref a2), .val (.int cy), .val (.int i)] [])) t := fun t k => k
      have hlt : i < ((16 : Int32) - x) := (own_cmp hi hx16 hn).mpr (by omega)
      have pre1 : ∀ t, Steps p.tables e below (T1.setTop (mkF m 9 #[.val (.ref a1), .val (.ref a2), .val (.int cy), .val (.int i)] [(.ref a1), (.int (16 : Int32)), (.int i)])) t → Steps p.tables e below (T1.setTop (mkF m 5 #[.val (.ref a1), .val (.ref a2), .val (.int cy), .val (.int i)] [])) t := fun t kt => prea t (by
        show Steps p.tables e below (T1.setTop (mkF m 5 #[.val (.ref a1), .val (.ref a2), .val (.int cy), .val (.int i)] [])) _
        refine XS.iloadN X1.here hx rfl (hb hby d5_5) rfl ?_
        show Steps p.tables e below (T1.setTop (mkF m 6 #[.val (.ref a1), .val (.ref a2), .val (.int cy), .val (.int i)] [(.int i)])) _
        refine XS.bipush X1.here hx rfl (hb hby d5_6) ?_
        show Steps p.tables e below (T1.setTop (mkF m 8 #[.val (.ref a1), .val (.ref a2), .val (.int cy), .val (.int i)] [(.int (16 : Int32)), (.int i)])) _
        refine XS.aloadN X1.here hx rfl (hb hby d5_8) rfl rfl ?_
        exact kt)
      obtain ⟨T2, X2, e2, st2⟩ := getF X1 hx hZ hown (host := "") (Or.inl (hw _ (List.mem_of_getElem? (i := 21) rfl))) Via.refl e1 F1 (g := (mkF m 9 #[.val (.ref a1), .val (.ref a2), .val (.int cy), .val (.int i)] [(.ref a1), (.int (16 : Int32)), (.int i)])) rfl rfl (hb hby d5_9)
      have pre3 : ∀ t, Steps p.tables e below (T2.setTop (mkF m 12 #[.val (.ref a1), .val (.ref a2), .val (.int cy), .val (.int i)] [(.int x), (.int (16 : Int32)), (.int i)])) t → Steps p.tables e below (T1.setTop (mkF m 5 #[.val (.ref a1), .val (.ref a2), .val (.int cy), .val (.int i)] [])) t := fun t kt => pre1 t (st2 t kt)
      have pre4 : ∀ t, Steps p.tables e below (T2.setTop (mkF m 42 #[.val (.ref a1), .val (.ref a2), .val (.int cy), .val (.int i)] [])) t → Steps p.tables e below (T1.setTop (mkF m 5 #[.val (.ref a1), .val (.ref a2), .val (.int cy), .val (.int i)] [])) t := fun t kt => pre3 t (by
        show Steps p.tables e below (T2.setTop (mkF m 12 #[.val (.ref a1), .val (.ref a2), .val (.int cy), .val (.int i)] [(.int x), (.int (16 : Int32)), (.int i)])) _
        refine XS.isub X2.here hx rfl (hb hby d5_12) rfl ?_
        show Steps p.tables e below (T2.setTop (mkF m 13 #[.val (.ref a1), .val (.ref a2), .val (.int cy), .val (.int i)] [(.int ((16 : Int32) - x)), (.int i)])) _
        refine XS.icmpYes X2.here hx rfl (pc0 := 13) (pc' := 42) rfl (hb hby d5_13) rfl (tlt hlt).1 (by decide) (by decide) ?_
        exact kt)
      obtain rfl : k = n := by omega
      exact ⟨_, _, _, g, cy, i, X2, e2, N1, B1, K1, P, pre4⟩
    | succ r ih =>
      intro k g cy i T1 h1 L1 hk hi P X1 e1 N1 B1 F1 K1
      have prea : ∀ t, Steps p.tables e below (T1.setTop (mkF m 5 #[.val (.ref a1), .val (.ref a2), .val (.int cy), .val (.int i)] [])) t → Steps p.tables e below (T1.setTop (mkF m 5 #[.val (.ref a1), .val (.ref a2), .val (.int cy), .val (.int i)] [])) t := fun t k => k
      have hlt : ¬ i < ((16 : Int32) - x) := fun q => by have := (own_cmp hi hx16 hn).mp q; omega
      have hi' : i.toInt = ((15 - k : Nat) : Int) := by omega
      have hk16 : k < 16 := by omega
      have hk' : (k + 1) + r = n := by omega
      have hq16 : 15 - k < 16 := Nat.lt_of_le_of_lt (Nat.sub_le 15 k) (by decide)
      have pre5 : ∀ t, Steps p.tables e below (T1.setTop (mkF m 9 #[.val (.ref a1), .val (.ref a2), .val (.int cy), .val (.int i)] [(.ref a1), (.int (16 : Int32)), (.int i)])) t → Steps p.tables e below (T1.setTop (mkF m 5 #[.val (.ref a1), .val (.ref a2), .val (.int cy), .val (.int i)] [])) t := fun t kt => prea t (by
        show Steps p.tables e below (T1.setTop (mkF m 5 #[.val (.ref a1), .val (.ref a2), .val (.int cy), .val (.int i)] [])) _
        refine XS.iloadN X1.here hx rfl (hb hby d5_5) rfl ?_
        show Steps p.tables e below (T1.setTop (mkF m 6 #[.val (.ref a1), .val (.ref a2), .val (.int cy), .val (.int i)] [(.int i)])) _
        refine XS.bipush X1.here hx rfl (hb hby d5_6) ?_
        show Steps p.tables e below (T1.setTop (mkF m 8 #[.val (.ref a1), .val (.ref a2), .val (.int cy), .val (.int i)] [(.int (16 : Int32)), (.int i)])) _
        refine XS.aloadN X1.here hx rfl (hb hby d5_8) rfl rfl ?_
        exact kt)
      obtain ⟨T6, X6, e6, st6⟩ := getF X1 hx hZ hown (host := "") (Or.inl (hw _ (List.mem_of_getElem? (i := 21) rfl))) Via.refl e1 F1 (g := (mkF m 9 #[.val (.ref a1), .val (.ref a2), .val (.int cy), .val (.int i)] [(.ref a1), (.int (16 : Int32)), (.int i)])) rfl rfl (hb hby d5_9)
      have pre7 : ∀ t, Steps p.tables e below (T6.setTop (mkF m 12 #[.val (.ref a1), .val (.ref a2), .val (.int cy), .val (.int i)] [(.int x), (.int (16 : Int32)), (.int i)])) t → Steps p.tables e below (T1.setTop (mkF m 5 #[.val (.ref a1), .val (.ref a2), .val (.int cy), .val (.int i)] [])) t := fun t kt => pre5 t (st6 t kt)
      have pre8 : ∀ t, Steps p.tables e below (T6.setTop (mkF m 30 #[.val (.ref a1), .val (.ref a2), .val (.int (cy + ((g (15 - k)) &&& (255 : Int32)))), .val (.int i)] [(.int ((cy + ((g (15 - k)) &&& (255 : Int32))).toInt8.toInt32)), (.int i), (.ref a2)])) t → Steps p.tables e below (T1.setTop (mkF m 5 #[.val (.ref a1), .val (.ref a2), .val (.int cy), .val (.int i)] [])) t := fun t kt => pre7 t (by
        show Steps p.tables e below (T6.setTop (mkF m 12 #[.val (.ref a1), .val (.ref a2), .val (.int cy), .val (.int i)] [(.int x), (.int (16 : Int32)), (.int i)])) _
        refine XS.isub X6.here hx rfl (hb hby d5_12) rfl ?_
        show Steps p.tables e below (T6.setTop (mkF m 13 #[.val (.ref a1), .val (.ref a2), .val (.int cy), .val (.int i)] [(.int ((16 : Int32) - x)), (.int i)])) _
        refine XS.icmpNo X6.here hx rfl (hb hby d5_13) rfl (flt hlt).1 ?_
        show Steps p.tables e below (T6.setTop (mkF m 16 #[.val (.ref a1), .val (.ref a2), .val (.int cy), .val (.int i)] [])) _
        refine XS.iloadN X6.here hx rfl (hb hby d5_16) rfl ?_
        show Steps p.tables e below (T6.setTop (mkF m 17 #[.val (.ref a1), .val (.ref a2), .val (.int cy), .val (.int i)] [(.int cy)])) _
        refine XS.aloadN X6.here hx rfl (hb hby d5_17) rfl rfl ?_
        show Steps p.tables e below (T6.setTop (mkF m 18 #[.val (.ref a1), .val (.ref a2), .val (.int cy), .val (.int i)] [(.ref a2), (.int cy)])) _
        refine XS.iloadN X6.here hx rfl (hb hby d5_18) rfl ?_
        show Steps p.tables e below (T6.setTop (mkF m 19 #[.val (.ref a1), .val (.ref a2), .val (.int cy), .val (.int i)] [(.int i), (.ref a2), (.int cy)])) _
        refine own_bload X6 hx hZ e6 B1 (k := (15 - k)) hi' hq16 (g := (mkF m 19 #[.val (.ref a1), .val (.ref a2), .val (.int cy), .val (.int i)] [(.int i), (.ref a2), (.int cy)])) rfl rfl (hb hby d5_19) _ ?_
        show Steps p.tables e below (T6.setTop (mkF m 20 #[.val (.ref a1), .val (.ref a2), .val (.int cy), .val (.int i)] [(.int (g (15 - k))), (.int cy)])) _
        refine XS.sipush X6.here hx rfl (hb hby d5_20) ?_
        show Steps p.tables e below (T6.setTop (mkF m 23 #[.val (.ref a1), .val (.ref a2), .val (.int cy), .val (.int i)] [(.int (255 : Int32)), (.int (g (15 - k))), (.int cy)])) _
        refine XS.iand X6.here hx rfl (hb hby d5_23) rfl ?_
        show Steps p.tables e below (T6.setTop (mkF m 24 #[.val (.ref a1), .val (.ref a2), .val (.int cy), .val (.int i)] [(.int ((g (15 - k)) &&& (255 : Int32))), (.int cy)])) _
        refine XS.iadd X6.here hx rfl (hb hby d5_24) rfl ?_
        show Steps p.tables e below (T6.setTop (mkF m 25 #[.val (.ref a1), .val (.ref a2), .val (.int cy), .val (.int i)] [(.int (cy + ((g (15 - k)) &&& (255 : Int32))))])) _
        refine XS.istoreN X6.here hx rfl (hb hby d5_25) rfl (l' := #[.val (.ref a1), .val (.ref a2), .val (.int (cy + ((g (15 - k)) &&& (255 : Int32)))), .val (.int i)]) rfl ?_
        show Steps p.tables e below (T6.setTop (mkF m 26 #[.val (.ref a1), .val (.ref a2), .val (.int (cy + ((g (15 - k)) &&& (255 : Int32)))), .val (.int i)] [])) _
        refine XS.aloadN X6.here hx rfl (hb hby d5_26) rfl rfl ?_
        show Steps p.tables e below (T6.setTop (mkF m 27 #[.val (.ref a1), .val (.ref a2), .val (.int (cy + ((g (15 - k)) &&& (255 : Int32)))), .val (.int i)] [(.ref a2)])) _
        refine XS.iloadN X6.here hx rfl (hb hby d5_27) rfl ?_
        show Steps p.tables e below (T6.setTop (mkF m 28 #[.val (.ref a1), .val (.ref a2), .val (.int (cy + ((g (15 - k)) &&& (255 : Int32)))), .val (.int i)] [(.int i), (.ref a2)])) _
        refine XS.iloadN X6.here hx rfl (hb hby d5_28) rfl ?_
        show Steps p.tables e below (T6.setTop (mkF m 29 #[.val (.ref a1), .val (.ref a2), .val (.int (cy + ((g (15 - k)) &&& (255 : Int32)))), .val (.int i)] [(.int (cy + ((g (15 - k)) &&& (255 : Int32)))), (.int i), (.ref a2)])) _
        refine XS.i2b X6.here hx rfl (hb hby d5_29) rfl ?_
        exact kt)
      obtain ⟨T9, h9, X9, e9, B9, W9, st9⟩ := own_bstore X6 hx hZ e6 B1 (j := i) (x := ((cy + ((g (15 - k)) &&& (255 : Int32))).toInt8.toInt32)) (v := ((own_sm cy g (15 - k)).toInt8.toInt32)) (k := (15 - k)) hi' hq16 (own_b8 _) (g := (mkF m 30 #[.val (.ref a1), .val (.ref a2), .val (.int (cy + ((g (15 - k)) &&& (255 : Int32)))), .val (.int i)] [(.int ((cy + ((g (15 - k)) &&& (255 : Int32))).toInt8.toInt32)), (.int i), (.ref a2)])) rfl rfl (hb hby d5_30)
      have N9 := Fr.snoc X9 N1 g2
      have pre10 : ∀ t, Steps p.tables e below (T9.setTop (mkF m 31 #[.val (.ref a1), .val (.ref a2), .val (.int (cy + ((g (15 - k)) &&& (255 : Int32)))), .val (.int i)] [])) t → Steps p.tables e below (T1.setTop (mkF m 5 #[.val (.ref a1), .val (.ref a2), .val (.int cy), .val (.int i)] [])) t := fun t kt => pre8 t (st9 t kt)
      have Pn := own_turn hk16 P
      have Fn := F1.other W9 (Or.inl hne)
      have Kn := K1.wr W9 (Or.inl (List.mem_of_getElem? (i := 0) rfl))
      have pre11 : ∀ t, Steps p.tables e below (T9.setTop (mkF m 5 #[.val (.ref a1), .val (.ref a2), .val (.int (((cy + ((g (15 - k)) &&& (255 : Int32))).toUInt32 >>> ((8 : Int32) &&& 31).toUInt32).toInt32)), .val (.int (i + (-1 : Int32)))] [])) t → Steps p.tables e below (T1.setTop (mkF m 5 #[.val (.ref a1), .val (.ref a2), .val (.int cy), .val (.int i)] [])) t := fun t kt => pre10 t (by
        show Steps p.tables e below (T9.setTop (mkF m 31 #[.val (.ref a1), .val (.ref a2), .val (.int (cy + ((g (15 - k)) &&& (255 : Int32)))), .val (.int i)] [])) _
        refine XS.iloadN X9.here hx rfl (hb hby d5_31) rfl ?_
        show Steps p.tables e below (T9.setTop (mkF m 32 #[.val (.ref a1), .val (.ref a2), .val (.int (cy + ((g (15 - k)) &&& (255 : Int32)))), .val (.int i)] [(.int (cy + ((g (15 - k)) &&& (255 : Int32))))])) _
        refine XS.bipush X9.here hx rfl (hb hby d5_32) ?_
        show Steps p.tables e below (T9.setTop (mkF m 34 #[.val (.ref a1), .val (.ref a2), .val (.int (cy + ((g (15 - k)) &&& (255 : Int32)))), .val (.int i)] [(.int (8 : Int32)), (.int (cy + ((g (15 - k)) &&& (255 : Int32))))])) _
        refine XS.iushr X9.here hx rfl (hb hby d5_34) rfl ?_
        show Steps p.tables e below (T9.setTop (mkF m 35 #[.val (.ref a1), .val (.ref a2), .val (.int (cy + ((g (15 - k)) &&& (255 : Int32)))), .val (.int i)] [(.int (((cy + ((g (15 - k)) &&& (255 : Int32))).toUInt32 >>> ((8 : Int32) &&& 31).toUInt32).toInt32))])) _
        refine XS.istoreN X9.here hx rfl (hb hby d5_35) rfl (l' := #[.val (.ref a1), .val (.ref a2), .val (.int (((cy + ((g (15 - k)) &&& (255 : Int32))).toUInt32 >>> ((8 : Int32) &&& 31).toUInt32).toInt32)), .val (.int i)]) rfl ?_
        show Steps p.tables e below (T9.setTop (mkF m 36 #[.val (.ref a1), .val (.ref a2), .val (.int (((cy + ((g (15 - k)) &&& (255 : Int32))).toUInt32 >>> ((8 : Int32) &&& 31).toUInt32).toInt32)), .val (.int i)] [])) _
        refine XS.iinc X9.here hx rfl (hb hby d5_36) rfl (l' := #[.val (.ref a1), .val (.ref a2), .val (.int (((cy + ((g (15 - k)) &&& (255 : Int32))).toUInt32 >>> ((8 : Int32) &&& 31).toUInt32).toInt32)), .val (.int (i + (-1 : Int32)))]) rfl ?_
        show Steps p.tables e below (T9.setTop (mkF m 39 #[.val (.ref a1), .val (.ref a2), .val (.int (((cy + ((g (15 - k)) &&& (255 : Int32))).toUInt32 >>> ((8 : Int32) &&& 31).toUInt32).toInt32)), .val (.int (i + (-1 : Int32)))] [])) _
        refine XS.goto X9.here hx rfl (pc0 := 39) (pc' := 5) rfl (hb hby d5_39) (by decide) (by decide) ?_
        exact kt)
      obtain ⟨T', h', L', g', cy', i', X', e', N', B', K', P', st'⟩ := ih (k + 1) _ _ (i + (-1 : Int32)) _ _ _ hk' (own_dec hi (Nat.le_of_lt_succ hk16)) Pn X9 e9 N9 B9 Fn Kn
      exact ⟨T', h', L', g', cy', i', X', e', N', B', K', P', fun t kt => pre11 t (st' t kt)⟩
  have pre12 : ∀ t, Steps p.tables e below (s₁.setTop (mkF m 5 #[.val (.ref a1), .val (.ref a2), .val (.int (1 : Int32)), .val (.int (15 : Int32))] [])) t → Steps p.tables e below (s₁.setTop (entryFrame m #[(.ref a1), (.ref a2)] 4)) t := fun t kt => pre0 t (by
    show Steps p.tables e below (s₁.setTop (mkF m 0 #[.val (.ref a1), .val (.ref a2), .unset, .unset] [])) _
    refine XS.iconst X0.here hx rfl (hb hby d5_0) ?_
    show Steps p.tables e below (s₁.setTop (mkF m 1 #[.val (.ref a1), .val (.ref a2), .unset, .unset] [(.int (1 : Int32))])) _
    refine XS.istoreN X0.here hx rfl (hb hby d5_1) rfl (l' := #[.val (.ref a1), .val (.ref a2), .val (.int (1 : Int32)), .unset]) rfl ?_
    show Steps p.tables e below (s₁.setTop (mkF m 2 #[.val (.ref a1), .val (.ref a2), .val (.int (1 : Int32)), .unset] [])) _
    refine XS.bipush X0.here hx rfl (hb hby d5_2) ?_
    show Steps p.tables e below (s₁.setTop (mkF m 4 #[.val (.ref a1), .val (.ref a2), .val (.int (1 : Int32)), .unset] [(.int (15 : Int32))])) _
    refine XS.istoreN X0.here hx rfl (hb hby d5_4) rfl (l' := #[.val (.ref a1), .val (.ref a2), .val (.int (1 : Int32)), .val (.int (15 : Int32))]) rfl ?_
    exact kt)
  obtain ⟨T', h', L', g', cy', i', X', e', N', B', K', P', st'⟩ := loop n 0 f (1 : Int32) (15 : Int32) s₁ h0 _ (by omega) (by decide) (own_P0 f) X0 e0 N0 B0 Fx (Keep.refl _ _)
  have pre13 : ∀ t, Steps p.tables e below (T'.setTop (mkF m 42 #[.val (.ref a1), .val (.ref a2), .val (.int cy'), .val (.int i')] [])) t → Steps p.tables e below (s₁.setTop (entryFrame m #[(.ref a1), (.ref a2)] 4)) t := fun t kt => pre12 t (st' t kt)
  obtain ⟨fs, hr, hrun, hended, hW, hsame⟩ := X'.leave (v := none) (fun _ => rfl)
  refine ⟨_, _, pre13 _ ?_, hrun, hended, _, _, rfl, ?_, ⟨_, rfl⟩, hW, hsame.mono (by decide) (by decide)⟩
  · show Steps p.tables e below (T'.setTop (mkF m 42 #[.val (.ref a1), .val (.ref a2), .val (.int cy'), .val (.int i')] [])) _
    exact X'.returnOut hx Bd.returns (hb hby d5_42) hr
  · show Q5 Z a1 a2 x n f h0 n0 _ T'.heap _
    rw [e']
    exact ⟨rfl, N', ⟨g', _, B', P'⟩, K'⟩
theorem d6_0 : decode method_4_code 0 = .ok (.aload_n 0, 1) := by decide +kernel
theorem d6_1 : decode method_4_code 1 = .ok (.iload_n 1, 1) := by decide +kernel
theorem d6_2 : decode method_4_code 2 = .ok (.baload, 1) := by decide +kernel
theorem d6_3 : decode method_4_code 3 = .ok (.sipush 255, 3) := by decide +kernel
theorem d6_6 : decode method_4_code 6 = .ok (.iand, 1) := by decide +kernel
theorem d6_7 : decode method_4_code 7 = .ok (.i2l, 1) := by decide +kernel
theorem d6_8 : decode method_4_code 8 = .ok (.bipush 56, 2) := by decide +kernel
theorem d6_10 : decode method_4_code 10 = .ok (.lshl, 1) := by decide +kernel
theorem d6_11 : decode method_4_code 11 = .ok (.aload_n 0, 1) := by decide +kernel
theorem d6_12 : decode method_4_code 12 = .ok (.iload_n 1, 1) := by decide +kernel
theorem d6_13 : decode method_4_code 13 = .ok (.iconst 1, 1) := by decide +kernel
theorem d6_14 : decode method_4_code 14 = .ok (.iadd, 1) := by decide +kernel
theorem d6_15 : decode method_4_code 15 = .ok (.baload, 1) := by decide +kernel
theorem d6_16 : decode method_4_code 16 = .ok (.sipush 255, 3) := by decide +kernel
theorem d6_19 : decode method_4_code 19 = .ok (.iand, 1) := by decide +kernel
theorem d6_20 : decode method_4_code 20 = .ok (.i2l, 1) := by decide +kernel
theorem d6_21 : decode method_4_code 21 = .ok (.bipush 48, 2) := by decide +kernel
theorem d6_23 : decode method_4_code 23 = .ok (.lshl, 1) := by decide +kernel
theorem d6_24 : decode method_4_code 24 = .ok (.lor, 1) := by decide +kernel
theorem d6_25 : decode method_4_code 25 = .ok (.aload_n 0, 1) := by decide +kernel
theorem d6_26 : decode method_4_code 26 = .ok (.iload_n 1, 1) := by decide +kernel
theorem d6_27 : decode method_4_code 27 = .ok (.iconst 2, 1) := by decide +kernel
theorem d6_28 : decode method_4_code 28 = .ok (.iadd, 1) := by decide +kernel
theorem d6_29 : decode method_4_code 29 = .ok (.baload, 1) := by decide +kernel
theorem d6_30 : decode method_4_code 30 = .ok (.sipush 255, 3) := by decide +kernel
theorem d6_33 : decode method_4_code 33 = .ok (.iand, 1) := by decide +kernel
theorem d6_34 : decode method_4_code 34 = .ok (.i2l, 1) := by decide +kernel
theorem d6_35 : decode method_4_code 35 = .ok (.bipush 40, 2) := by decide +kernel
theorem d6_37 : decode method_4_code 37 = .ok (.lshl, 1) := by decide +kernel
theorem d6_38 : decode method_4_code 38 = .ok (.lor, 1) := by decide +kernel
theorem d6_39 : decode method_4_code 39 = .ok (.aload_n 0, 1) := by decide +kernel
theorem d6_40 : decode method_4_code 40 = .ok (.iload_n 1, 1) := by decide +kernel
theorem d6_41 : decode method_4_code 41 = .ok (.iconst 3, 1) := by decide +kernel
theorem d6_42 : decode method_4_code 42 = .ok (.iadd, 1) := by decide +kernel
theorem d6_43 : decode method_4_code 43 = .ok (.baload, 1) := by decide +kernel
theorem d6_44 : decode method_4_code 44 = .ok (.sipush 255, 3) := by decide +kernel
theorem d6_47 : decode method_4_code 47 = .ok (.iand, 1) := by decide +kernel
theorem d6_48 : decode method_4_code 48 = .ok (.i2l, 1) := by decide +kernel
theorem d6_49 : decode method_4_code 49 = .ok (.bipush 32, 2) := by decide +kernel
theorem d6_51 : decode method_4_code 51 = .ok (.lshl, 1) := by decide +kernel
theorem d6_52 : decode method_4_code 52 = .ok (.lor, 1) := by decide +kernel
theorem d6_53 : decode method_4_code 53 = .ok (.aload_n 0, 1) := by decide +kernel
theorem d6_54 : decode method_4_code 54 = .ok (.iload_n 1, 1) := by decide +kernel
theorem d6_55 : decode method_4_code 55 = .ok (.iconst 4, 1) := by decide +kernel
theorem d6_56 : decode method_4_code 56 = .ok (.iadd, 1) := by decide +kernel
theorem d6_57 : decode method_4_code 57 = .ok (.baload, 1) := by decide +kernel
theorem d6_58 : decode method_4_code 58 = .ok (.sipush 255, 3) := by decide +kernel
theorem d6_61 : decode method_4_code 61 = .ok (.iand, 1) := by decide +kernel
theorem d6_62 : decode method_4_code 62 = .ok (.i2l, 1) := by decide +kernel
theorem d6_63 : decode method_4_code 63 = .ok (.bipush 24, 2) := by decide +kernel
theorem d6_65 : decode method_4_code 65 = .ok (.lshl, 1) := by decide +kernel
theorem d6_66 : decode method_4_code 66 = .ok (.lor, 1) := by decide +kernel
theorem d6_67 : decode method_4_code 67 = .ok (.aload_n 0, 1) := by decide +kernel
theorem d6_68 : decode method_4_code 68 = .ok (.iload_n 1, 1) := by decide +kernel
theorem d6_69 : decode method_4_code 69 = .ok (.iconst 5, 1) := by decide +kernel
theorem d6_70 : decode method_4_code 70 = .ok (.iadd, 1) := by decide +kernel
theorem d6_71 : decode method_4_code 71 = .ok (.baload, 1) := by decide +kernel
theorem d6_72 : decode method_4_code 72 = .ok (.sipush 255, 3) := by decide +kernel
theorem d6_75 : decode method_4_code 75 = .ok (.iand, 1) := by decide +kernel
theorem d6_76 : decode method_4_code 76 = .ok (.i2l, 1) := by decide +kernel
theorem d6_77 : decode method_4_code 77 = .ok (.bipush 16, 2) := by decide +kernel
theorem d6_79 : decode method_4_code 79 = .ok (.lshl, 1) := by decide +kernel
theorem d6_80 : decode method_4_code 80 = .ok (.lor, 1) := by decide +kernel
theorem d6_81 : decode method_4_code 81 = .ok (.aload_n 0, 1) := by decide +kernel
theorem d6_82 : decode method_4_code 82 = .ok (.iload_n 1, 1) := by decide +kernel
theorem d6_83 : decode method_4_code 83 = .ok (.bipush 6, 2) := by decide +kernel
theorem d6_85 : decode method_4_code 85 = .ok (.iadd, 1) := by decide +kernel
theorem d6_86 : decode method_4_code 86 = .ok (.baload, 1) := by decide +kernel
theorem d6_87 : decode method_4_code 87 = .ok (.sipush 255, 3) := by decide +kernel
theorem d6_90 : decode method_4_code 90 = .ok (.iand, 1) := by decide +kernel
theorem d6_91 : decode method_4_code 91 = .ok (.i2l, 1) := by decide +kernel
theorem d6_92 : decode method_4_code 92 = .ok (.bipush 8, 2) := by decide +kernel
theorem d6_94 : decode method_4_code 94 = .ok (.lshl, 1) := by decide +kernel
theorem d6_95 : decode method_4_code 95 = .ok (.lor, 1) := by decide +kernel
theorem d6_96 : decode method_4_code 96 = .ok (.aload_n 0, 1) := by decide +kernel
theorem d6_97 : decode method_4_code 97 = .ok (.iload_n 1, 1) := by decide +kernel
theorem d6_98 : decode method_4_code 98 = .ok (.bipush 7, 2) := by decide +kernel
theorem d6_100 : decode method_4_code 100 = .ok (.iadd, 1) := by decide +kernel
theorem d6_101 : decode method_4_code 101 = .ok (.baload, 1) := by decide +kernel
theorem d6_102 : decode method_4_code 102 = .ok (.sipush 255, 3) := by decide +kernel
theorem d6_105 : decode method_4_code 105 = .ok (.iand, 1) := by decide +kernel
theorem d6_106 : decode method_4_code 106 = .ok (.i2l, 1) := by decide +kernel
theorem d6_107 : decode method_4_code 107 = .ok (.lor, 1) := by decide +kernel
theorem d6_108 : decode method_4_code 108 = .ok (.lreturn, 1) := by decide +kernel
theorem pn_6 : plainName "saltgrove/aes/CounterKeystreamIncrementPinLaw" = true := by first | (simp [plainName, overriddenIn]; done) | decide +kernel
theorem ef_6 (m : MethodId) (x0 : Addr) (x1 : Int32) : entryFrame m #[(.ref x0), (.int x1)] 2 = mkF m 0 #[.val (.ref x0), .val (.int x1)] [] := by first | (simp [entryFrame, mkF, argsToLocals, Value.category]; done) | rfl
def Q6 (Z : State) (a1 : Addr) (p2 : Int32) (o : Nat) (f : Nat → Int32) (h0 : Heap) (n0 : Nat) (v : Option Value) (h : Heap) (L : List Loc) : Prop := v = some (.long (own_get f o)) ∧ Fr n0 L ∧ h = h0
set_option maxRecDepth 65536 in
set_option maxHeartbeats 40000000 in
theorem rm6 (l : Launch) (Z : State) (a0 : Array Value) (hw : ∀ d ∈ tables_1, d.before a0 Z = true) (ws : List Jvm.Cond) (a1 : Addr) (p2 : Int32) (o : Nat) (f : Nat → Int32) (h0 : Heap) (n0 : Nat) (Z0 : n0 ≤ h0.size) (B0 : BA Z h0 a1 16 f) (ho : p2.toInt = (o : Int)) (ho8 : o ≤ 8) :
    MetFree l (⟨"saltgrove/aes/CounterKeystreamIncrementPinLaw", "get", "([BI)J"⟩ : MethodName) (head1 (Jvm.Cond.code (⟨"saltgrove/aes/CounterKeystreamIncrementPinLaw", "get", "([BI)J"⟩ : MethodName) method_4_code 2 (some .long) :: ws) ({ frames := 0, cells := 0, slots := 0, locals := 0 } : Room)) (fun a U => a = #[(.ref a1), (.int p2)] ∧ Z.Warmed39 U.vm ∧ U.heap = h0) (fun _ _ _ _ _ => True) (fun _ U ou U' => ∃ v L, ou = .returned v ∧ Q6 Z a1 p2 o f h0 n0 v U'.heap L ∧ FrameEnd U ou U' L ({ frames := 0, cells := 0, slots := 0, locals := 0 } : Room).cells ({ frames := 0, cells := 0, slots := 0, locals := 0 } : Room).slots) := by
  refine MetFree.of_bodySF (plainFor_of_name pn_6) hisR ?_
  intro p e s m args below meth c s₁ Bd hml0 hP hK
  obtain ⟨rfl, hZ, hh⟩ := hP
  have hx := Bd.exec
  have hby := Bd.bytes
  have hml : c.maxLocals = 2 := hml0
  have hown : s.vm.findClass "saltgrove/aes/CounterKeystreamIncrementPinLaw" = some m.cls := findClass_of_methodNamed Bd.named
  have hnm := (name_of_methodNamed Bd.named Bd.method).1
  have X0 : Stand p l e ({ frames := 0, cells := 0, slots := 0, locals := 0 } : Room) s m #[(.ref a1), (.int p2)] below meth c s₁ [] 0 0 := Stand.of_body Bd
  have e0 : s₁.heap = h0 := by rw [← hh, Bd.state]; rfl
  have N0 := Fr.nil n0
  have pre0 : ∀ t, Steps p.tables e below (s₁.setTop (mkF m 0 #[.val (.ref a1), .val (.int p2)] [])) t → Steps p.tables e below (s₁.setTop (entryFrame m #[(.ref a1), (.int p2)] 2)) t := fun t k => castTop (ef_6 m (a1) (p2)) k
  have pre1 : ∀ t, Steps p.tables e below (s₁.setTop (mkF m 108 #[.val (.ref a1), .val (.int p2)] [(.long (((((((((((f o) &&& (255 : Int32)).toInt64) <<< ((56 : Int32) &&& 0x3f).toInt64) ||| ((((f (o + 1)) &&& (255 : Int32)).toInt64) <<< ((48 : Int32) &&& 0x3f).toInt64)) ||| ((((f (o + 2)) &&& (255 : Int32)).toInt64) <<< ((40 : Int32) &&& 0x3f).toInt64)) ||| ((((f (o + 3)) &&& (255 : Int32)).toInt64) <<< ((32 : Int32) &&& 0x3f).toInt64)) ||| ((((f (o + 4)) &&& (255 : Int32)).toInt64) <<< ((24 : Int32) &&& 0x3f).toInt64)) ||| ((((f (o + 5)) &&& (255 : Int32)).toInt64) <<< ((16 : Int32) &&& 0x3f).toInt64)) ||| ((((f (o + 6)) &&& (255 : Int32)).toInt64) <<< ((8 : Int32) &&& 0x3f).toInt64)) ||| (((f (o + 7)) &&& (255 : Int32)).toInt64)))])) t → Steps p.tables e below (s₁.setTop (entryFrame m #[(.ref a1), (.int p2)] 2)) t := fun t kt => pre0 t (by
    show Steps p.tables e below (s₁.setTop (mkF m 0 #[.val (.ref a1), .val (.int p2)] [])) _
    refine XS.aloadN X0.here hx rfl (hb hby d6_0) rfl rfl ?_
    show Steps p.tables e below (s₁.setTop (mkF m 1 #[.val (.ref a1), .val (.int p2)] [(.ref a1)])) _
    refine XS.iloadN X0.here hx rfl (hb hby d6_1) rfl ?_
    show Steps p.tables e below (s₁.setTop (mkF m 2 #[.val (.ref a1), .val (.int p2)] [(.int p2), (.ref a1)])) _
    refine own_bload X0 hx hZ e0 B0 (k := o) ho (by omega) (g := (mkF m 2 #[.val (.ref a1), .val (.int p2)] [(.int p2), (.ref a1)])) rfl rfl (hb hby d6_2) _ ?_
    show Steps p.tables e below (s₁.setTop (mkF m 3 #[.val (.ref a1), .val (.int p2)] [(.int (f o))])) _
    refine XS.sipush X0.here hx rfl (hb hby d6_3) ?_
    show Steps p.tables e below (s₁.setTop (mkF m 6 #[.val (.ref a1), .val (.int p2)] [(.int (255 : Int32)), (.int (f o))])) _
    refine XS.iand X0.here hx rfl (hb hby d6_6) rfl ?_
    show Steps p.tables e below (s₁.setTop (mkF m 7 #[.val (.ref a1), .val (.int p2)] [(.int ((f o) &&& (255 : Int32)))])) _
    refine XS.i2l X0.here hx rfl (hb hby d6_7) rfl ?_
    show Steps p.tables e below (s₁.setTop (mkF m 8 #[.val (.ref a1), .val (.int p2)] [(.long (((f o) &&& (255 : Int32)).toInt64))])) _
    refine XS.bipush X0.here hx rfl (hb hby d6_8) ?_
    show Steps p.tables e below (s₁.setTop (mkF m 10 #[.val (.ref a1), .val (.int p2)] [(.int (56 : Int32)), (.long (((f o) &&& (255 : Int32)).toInt64))])) _
    refine XS.lshl X0.here hx rfl (hb hby d6_10) rfl ?_
    show Steps p.tables e below (s₁.setTop (mkF m 11 #[.val (.ref a1), .val (.int p2)] [(.long ((((f o) &&& (255 : Int32)).toInt64) <<< ((56 : Int32) &&& 0x3f).toInt64))])) _
    refine XS.aloadN X0.here hx rfl (hb hby d6_11) rfl rfl ?_
    show Steps p.tables e below (s₁.setTop (mkF m 12 #[.val (.ref a1), .val (.int p2)] [(.ref a1), (.long ((((f o) &&& (255 : Int32)).toInt64) <<< ((56 : Int32) &&& 0x3f).toInt64))])) _
    refine XS.iloadN X0.here hx rfl (hb hby d6_12) rfl ?_
    show Steps p.tables e below (s₁.setTop (mkF m 13 #[.val (.ref a1), .val (.int p2)] [(.int p2), (.ref a1), (.long ((((f o) &&& (255 : Int32)).toInt64) <<< ((56 : Int32) &&& 0x3f).toInt64))])) _
    refine XS.iconst X0.here hx rfl (hb hby d6_13) ?_
    show Steps p.tables e below (s₁.setTop (mkF m 14 #[.val (.ref a1), .val (.int p2)] [(.int (1 : Int32)), (.int p2), (.ref a1), (.long ((((f o) &&& (255 : Int32)).toInt64) <<< ((56 : Int32) &&& 0x3f).toInt64))])) _
    refine XS.iadd X0.here hx rfl (hb hby d6_14) rfl ?_
    show Steps p.tables e below (s₁.setTop (mkF m 15 #[.val (.ref a1), .val (.int p2)] [(.int (p2 + (1 : Int32))), (.ref a1), (.long ((((f o) &&& (255 : Int32)).toInt64) <<< ((56 : Int32) &&& 0x3f).toInt64))])) _
    refine own_bload X0 hx hZ e0 B0 (k := (o + 1)) (own_off ho ho8 (k := 1) (by decide) (by decide)) (by omega) (g := (mkF m 15 #[.val (.ref a1), .val (.int p2)] [(.int (p2 + (1 : Int32))), (.ref a1), (.long ((((f o) &&& (255 : Int32)).toInt64) <<< ((56 : Int32) &&& 0x3f).toInt64))])) rfl rfl (hb hby d6_15) _ ?_
    show Steps p.tables e below (s₁.setTop (mkF m 16 #[.val (.ref a1), .val (.int p2)] [(.int (f (o + 1))), (.long ((((f o) &&& (255 : Int32)).toInt64) <<< ((56 : Int32) &&& 0x3f).toInt64))])) _
    refine XS.sipush X0.here hx rfl (hb hby d6_16) ?_
    show Steps p.tables e below (s₁.setTop (mkF m 19 #[.val (.ref a1), .val (.int p2)] [(.int (255 : Int32)), (.int (f (o + 1))), (.long ((((f o) &&& (255 : Int32)).toInt64) <<< ((56 : Int32) &&& 0x3f).toInt64))])) _
    refine XS.iand X0.here hx rfl (hb hby d6_19) rfl ?_
    show Steps p.tables e below (s₁.setTop (mkF m 20 #[.val (.ref a1), .val (.int p2)] [(.int ((f (o + 1)) &&& (255 : Int32))), (.long ((((f o) &&& (255 : Int32)).toInt64) <<< ((56 : Int32) &&& 0x3f).toInt64))])) _
    refine XS.i2l X0.here hx rfl (hb hby d6_20) rfl ?_
    show Steps p.tables e below (s₁.setTop (mkF m 21 #[.val (.ref a1), .val (.int p2)] [(.long (((f (o + 1)) &&& (255 : Int32)).toInt64)), (.long ((((f o) &&& (255 : Int32)).toInt64) <<< ((56 : Int32) &&& 0x3f).toInt64))])) _
    refine XS.bipush X0.here hx rfl (hb hby d6_21) ?_
    show Steps p.tables e below (s₁.setTop (mkF m 23 #[.val (.ref a1), .val (.int p2)] [(.int (48 : Int32)), (.long (((f (o + 1)) &&& (255 : Int32)).toInt64)), (.long ((((f o) &&& (255 : Int32)).toInt64) <<< ((56 : Int32) &&& 0x3f).toInt64))])) _
    refine XS.lshl X0.here hx rfl (hb hby d6_23) rfl ?_
    show Steps p.tables e below (s₁.setTop (mkF m 24 #[.val (.ref a1), .val (.int p2)] [(.long ((((f (o + 1)) &&& (255 : Int32)).toInt64) <<< ((48 : Int32) &&& 0x3f).toInt64)), (.long ((((f o) &&& (255 : Int32)).toInt64) <<< ((56 : Int32) &&& 0x3f).toInt64))])) _
    refine XS.lor X0.here hx rfl (hb hby d6_24) rfl ?_
    show Steps p.tables e below (s₁.setTop (mkF m 25 #[.val (.ref a1), .val (.int p2)] [(.long (((((f o) &&& (255 : Int32)).toInt64) <<< ((56 : Int32) &&& 0x3f).toInt64) ||| ((((f (o + 1)) &&& (255 : Int32)).toInt64) <<< ((48 : Int32) &&& 0x3f).toInt64)))])) _
    refine XS.aloadN X0.here hx rfl (hb hby d6_25) rfl rfl ?_
    show Steps p.tables e below (s₁.setTop (mkF m 26 #[.val (.ref a1), .val (.int p2)] [(.ref a1), (.long (((((f o) &&& (255 : Int32)).toInt64) <<< ((56 : Int32) &&& 0x3f).toInt64) ||| ((((f (o + 1)) &&& (255 : Int32)).toInt64) <<< ((48 : Int32) &&& 0x3f).toInt64)))])) _
    refine XS.iloadN X0.here hx rfl (hb hby d6_26) rfl ?_
    show Steps p.tables e below (s₁.setTop (mkF m 27 #[.val (.ref a1), .val (.int p2)] [(.int p2), (.ref a1), (.long (((((f o) &&& (255 : Int32)).toInt64) <<< ((56 : Int32) &&& 0x3f).toInt64) ||| ((((f (o + 1)) &&& (255 : Int32)).toInt64) <<< ((48 : Int32) &&& 0x3f).toInt64)))])) _
    refine XS.iconst X0.here hx rfl (hb hby d6_27) ?_
    show Steps p.tables e below (s₁.setTop (mkF m 28 #[.val (.ref a1), .val (.int p2)] [(.int (2 : Int32)), (.int p2), (.ref a1), (.long (((((f o) &&& (255 : Int32)).toInt64) <<< ((56 : Int32) &&& 0x3f).toInt64) ||| ((((f (o + 1)) &&& (255 : Int32)).toInt64) <<< ((48 : Int32) &&& 0x3f).toInt64)))])) _
    refine XS.iadd X0.here hx rfl (hb hby d6_28) rfl ?_
    show Steps p.tables e below (s₁.setTop (mkF m 29 #[.val (.ref a1), .val (.int p2)] [(.int (p2 + (2 : Int32))), (.ref a1), (.long (((((f o) &&& (255 : Int32)).toInt64) <<< ((56 : Int32) &&& 0x3f).toInt64) ||| ((((f (o + 1)) &&& (255 : Int32)).toInt64) <<< ((48 : Int32) &&& 0x3f).toInt64)))])) _
    refine own_bload X0 hx hZ e0 B0 (k := (o + 2)) (own_off ho ho8 (k := 2) (by decide) (by decide)) (by omega) (g := (mkF m 29 #[.val (.ref a1), .val (.int p2)] [(.int (p2 + (2 : Int32))), (.ref a1), (.long (((((f o) &&& (255 : Int32)).toInt64) <<< ((56 : Int32) &&& 0x3f).toInt64) ||| ((((f (o + 1)) &&& (255 : Int32)).toInt64) <<< ((48 : Int32) &&& 0x3f).toInt64)))])) rfl rfl (hb hby d6_29) _ ?_
    show Steps p.tables e below (s₁.setTop (mkF m 30 #[.val (.ref a1), .val (.int p2)] [(.int (f (o + 2))), (.long (((((f o) &&& (255 : Int32)).toInt64) <<< ((56 : Int32) &&& 0x3f).toInt64) ||| ((((f (o + 1)) &&& (255 : Int32)).toInt64) <<< ((48 : Int32) &&& 0x3f).toInt64)))])) _
    refine XS.sipush X0.here hx rfl (hb hby d6_30) ?_
    show Steps p.tables e below (s₁.setTop (mkF m 33 #[.val (.ref a1), .val (.int p2)] [(.int (255 : Int32)), (.int (f (o + 2))), (.long (((((f o) &&& (255 : Int32)).toInt64) <<< ((56 : Int32) &&& 0x3f).toInt64) ||| ((((f (o + 1)) &&& (255 : Int32)).toInt64) <<< ((48 : Int32) &&& 0x3f).toInt64)))])) _
    refine XS.iand X0.here hx rfl (hb hby d6_33) rfl ?_
    show Steps p.tables e below (s₁.setTop (mkF m 34 #[.val (.ref a1), .val (.int p2)] [(.int ((f (o + 2)) &&& (255 : Int32))), (.long (((((f o) &&& (255 : Int32)).toInt64) <<< ((56 : Int32) &&& 0x3f).toInt64) ||| ((((f (o + 1)) &&& (255 : Int32)).toInt64) <<< ((48 : Int32) &&& 0x3f).toInt64)))])) _
    refine XS.i2l X0.here hx rfl (hb hby d6_34) rfl ?_
    show Steps p.tables e below (s₁.setTop (mkF m 35 #[.val (.ref a1), .val (.int p2)] [(.long (((f (o + 2)) &&& (255 : Int32)).toInt64)), (.long (((((f o) &&& (255 : Int32)).toInt64) <<< ((56 : Int32) &&& 0x3f).toInt64) ||| ((((f (o + 1)) &&& (255 : Int32)).toInt64) <<< ((48 : Int32) &&& 0x3f).toInt64)))])) _
    refine XS.bipush X0.here hx rfl (hb hby d6_35) ?_
    show Steps p.tables e below (s₁.setTop (mkF m 37 #[.val (.ref a1), .val (.int p2)] [(.int (40 : Int32)), (.long (((f (o + 2)) &&& (255 : Int32)).toInt64)), (.long (((((f o) &&& (255 : Int32)).toInt64) <<< ((56 : Int32) &&& 0x3f).toInt64) ||| ((((f (o + 1)) &&& (255 : Int32)).toInt64) <<< ((48 : Int32) &&& 0x3f).toInt64)))])) _
    refine XS.lshl X0.here hx rfl (hb hby d6_37) rfl ?_
    show Steps p.tables e below (s₁.setTop (mkF m 38 #[.val (.ref a1), .val (.int p2)] [(.long ((((f (o + 2)) &&& (255 : Int32)).toInt64) <<< ((40 : Int32) &&& 0x3f).toInt64)), (.long (((((f o) &&& (255 : Int32)).toInt64) <<< ((56 : Int32) &&& 0x3f).toInt64) ||| ((((f (o + 1)) &&& (255 : Int32)).toInt64) <<< ((48 : Int32) &&& 0x3f).toInt64)))])) _
    refine XS.lor X0.here hx rfl (hb hby d6_38) rfl ?_
    show Steps p.tables e below (s₁.setTop (mkF m 39 #[.val (.ref a1), .val (.int p2)] [(.long ((((((f o) &&& (255 : Int32)).toInt64) <<< ((56 : Int32) &&& 0x3f).toInt64) ||| ((((f (o + 1)) &&& (255 : Int32)).toInt64) <<< ((48 : Int32) &&& 0x3f).toInt64)) ||| ((((f (o + 2)) &&& (255 : Int32)).toInt64) <<< ((40 : Int32) &&& 0x3f).toInt64)))])) _
    refine XS.aloadN X0.here hx rfl (hb hby d6_39) rfl rfl ?_
    show Steps p.tables e below (s₁.setTop (mkF m 40 #[.val (.ref a1), .val (.int p2)] [(.ref a1), (.long ((((((f o) &&& (255 : Int32)).toInt64) <<< ((56 : Int32) &&& 0x3f).toInt64) ||| ((((f (o + 1)) &&& (255 : Int32)).toInt64) <<< ((48 : Int32) &&& 0x3f).toInt64)) ||| ((((f (o + 2)) &&& (255 : Int32)).toInt64) <<< ((40 : Int32) &&& 0x3f).toInt64)))])) _
    refine XS.iloadN X0.here hx rfl (hb hby d6_40) rfl ?_
    show Steps p.tables e below (s₁.setTop (mkF m 41 #[.val (.ref a1), .val (.int p2)] [(.int p2), (.ref a1), (.long ((((((f o) &&& (255 : Int32)).toInt64) <<< ((56 : Int32) &&& 0x3f).toInt64) ||| ((((f (o + 1)) &&& (255 : Int32)).toInt64) <<< ((48 : Int32) &&& 0x3f).toInt64)) ||| ((((f (o + 2)) &&& (255 : Int32)).toInt64) <<< ((40 : Int32) &&& 0x3f).toInt64)))])) _
    refine XS.iconst X0.here hx rfl (hb hby d6_41) ?_
    show Steps p.tables e below (s₁.setTop (mkF m 42 #[.val (.ref a1), .val (.int p2)] [(.int (3 : Int32)), (.int p2), (.ref a1), (.long ((((((f o) &&& (255 : Int32)).toInt64) <<< ((56 : Int32) &&& 0x3f).toInt64) ||| ((((f (o + 1)) &&& (255 : Int32)).toInt64) <<< ((48 : Int32) &&& 0x3f).toInt64)) ||| ((((f (o + 2)) &&& (255 : Int32)).toInt64) <<< ((40 : Int32) &&& 0x3f).toInt64)))])) _
    refine XS.iadd X0.here hx rfl (hb hby d6_42) rfl ?_
    show Steps p.tables e below (s₁.setTop (mkF m 43 #[.val (.ref a1), .val (.int p2)] [(.int (p2 + (3 : Int32))), (.ref a1), (.long ((((((f o) &&& (255 : Int32)).toInt64) <<< ((56 : Int32) &&& 0x3f).toInt64) ||| ((((f (o + 1)) &&& (255 : Int32)).toInt64) <<< ((48 : Int32) &&& 0x3f).toInt64)) ||| ((((f (o + 2)) &&& (255 : Int32)).toInt64) <<< ((40 : Int32) &&& 0x3f).toInt64)))])) _
    refine own_bload X0 hx hZ e0 B0 (k := (o + 3)) (own_off ho ho8 (k := 3) (by decide) (by decide)) (by omega) (g := (mkF m 43 #[.val (.ref a1), .val (.int p2)] [(.int (p2 + (3 : Int32))), (.ref a1), (.long ((((((f o) &&& (255 : Int32)).toInt64) <<< ((56 : Int32) &&& 0x3f).toInt64) ||| ((((f (o + 1)) &&& (255 : Int32)).toInt64) <<< ((48 : Int32) &&& 0x3f).toInt64)) ||| ((((f (o + 2)) &&& (255 : Int32)).toInt64) <<< ((40 : Int32) &&& 0x3f).toInt64)))])) rfl rfl (hb hby d6_43) _ ?_
    show Steps p.tables e below (s₁.setTop (mkF m 44 #[.val (.ref a1), .val (.int p2)] [(.int (f (o + 3))), (.long ((((((f o) &&& (255 : Int32)).toInt64) <<< ((56 : Int32) &&& 0x3f).toInt64) ||| ((((f (o + 1)) &&& (255 : Int32)).toInt64) <<< ((48 : Int32) &&& 0x3f).toInt64)) ||| ((((f (o + 2)) &&& (255 : Int32)).toInt64) <<< ((40 : Int32) &&& 0x3f).toInt64)))])) _
    refine XS.sipush X0.here hx rfl (hb hby d6_44) ?_
    show Steps p.tables e below (s₁.setTop (mkF m 47 #[.val (.ref a1), .val (.int p2)] [(.int (255 : Int32)), (.int (f (o + 3))), (.long ((((((f o) &&& (255 : Int32)).toInt64) <<< ((56 : Int32) &&& 0x3f).toInt64) ||| ((((f (o + 1)) &&& (255 : Int32)).toInt64) <<< ((48 : Int32) &&& 0x3f).toInt64)) ||| ((((f (o + 2)) &&& (255 : Int32)).toInt64) <<< ((40 : Int32) &&& 0x3f).toInt64)))])) _
    refine XS.iand X0.here hx rfl (hb hby d6_47) rfl ?_
    show Steps p.tables e below (s₁.setTop (mkF m 48 #[.val (.ref a1), .val (.int p2)] [(.int ((f (o + 3)) &&& (255 : Int32))), (.long ((((((f o) &&& (255 : Int32)).toInt64) <<< ((56 : Int32) &&& 0x3f).toInt64) ||| ((((f (o + 1)) &&& (255 : Int32)).toInt64) <<< ((48 : Int32) &&& 0x3f).toInt64)) ||| ((((f (o + 2)) &&& (255 : Int32)).toInt64) <<< ((40 : Int32) &&& 0x3f).toInt64)))])) _
    refine XS.i2l X0.here hx rfl (hb hby d6_48) rfl ?_
    show Steps p.tables e below (s₁.setTop (mkF m 49 #[.val (.ref a1), .val (.int p2)] [(.long (((f (o + 3)) &&& (255 : Int32)).toInt64)), (.long ((((((f o) &&& (255 : Int32)).toInt64) <<< ((56 : Int32) &&& 0x3f).toInt64) ||| ((((f (o + 1)) &&& (255 : Int32)).toInt64) <<< ((48 : Int32) &&& 0x3f).toInt64)) ||| ((((f (o + 2)) &&& (255 : Int32)).toInt64) <<< ((40 : Int32) &&& 0x3f).toInt64)))])) _
    refine XS.bipush X0.here hx rfl (hb hby d6_49) ?_
    show Steps p.tables e below (s₁.setTop (mkF m 51 #[.val (.ref a1), .val (.int p2)] [(.int (32 : Int32)), (.long (((f (o + 3)) &&& (255 : Int32)).toInt64)), (.long ((((((f o) &&& (255 : Int32)).toInt64) <<< ((56 : Int32) &&& 0x3f).toInt64) ||| ((((f (o + 1)) &&& (255 : Int32)).toInt64) <<< ((48 : Int32) &&& 0x3f).toInt64)) ||| ((((f (o + 2)) &&& (255 : Int32)).toInt64) <<< ((40 : Int32) &&& 0x3f).toInt64)))])) _
    refine XS.lshl X0.here hx rfl (hb hby d6_51) rfl ?_
    show Steps p.tables e below (s₁.setTop (mkF m 52 #[.val (.ref a1), .val (.int p2)] [(.long ((((f (o + 3)) &&& (255 : Int32)).toInt64) <<< ((32 : Int32) &&& 0x3f).toInt64)), (.long ((((((f o) &&& (255 : Int32)).toInt64) <<< ((56 : Int32) &&& 0x3f).toInt64) ||| ((((f (o + 1)) &&& (255 : Int32)).toInt64) <<< ((48 : Int32) &&& 0x3f).toInt64)) ||| ((((f (o + 2)) &&& (255 : Int32)).toInt64) <<< ((40 : Int32) &&& 0x3f).toInt64)))])) _
    refine XS.lor X0.here hx rfl (hb hby d6_52) rfl ?_
    show Steps p.tables e below (s₁.setTop (mkF m 53 #[.val (.ref a1), .val (.int p2)] [(.long (((((((f o) &&& (255 : Int32)).toInt64) <<< ((56 : Int32) &&& 0x3f).toInt64) ||| ((((f (o + 1)) &&& (255 : Int32)).toInt64) <<< ((48 : Int32) &&& 0x3f).toInt64)) ||| ((((f (o + 2)) &&& (255 : Int32)).toInt64) <<< ((40 : Int32) &&& 0x3f).toInt64)) ||| ((((f (o + 3)) &&& (255 : Int32)).toInt64) <<< ((32 : Int32) &&& 0x3f).toInt64)))])) _
    refine XS.aloadN X0.here hx rfl (hb hby d6_53) rfl rfl ?_
    show Steps p.tables e below (s₁.setTop (mkF m 54 #[.val (.ref a1), .val (.int p2)] [(.ref a1), (.long (((((((f o) &&& (255 : Int32)).toInt64) <<< ((56 : Int32) &&& 0x3f).toInt64) ||| ((((f (o + 1)) &&& (255 : Int32)).toInt64) <<< ((48 : Int32) &&& 0x3f).toInt64)) ||| ((((f (o + 2)) &&& (255 : Int32)).toInt64) <<< ((40 : Int32) &&& 0x3f).toInt64)) ||| ((((f (o + 3)) &&& (255 : Int32)).toInt64) <<< ((32 : Int32) &&& 0x3f).toInt64)))])) _
    refine XS.iloadN X0.here hx rfl (hb hby d6_54) rfl ?_
    show Steps p.tables e below (s₁.setTop (mkF m 55 #[.val (.ref a1), .val (.int p2)] [(.int p2), (.ref a1), (.long (((((((f o) &&& (255 : Int32)).toInt64) <<< ((56 : Int32) &&& 0x3f).toInt64) ||| ((((f (o + 1)) &&& (255 : Int32)).toInt64) <<< ((48 : Int32) &&& 0x3f).toInt64)) ||| ((((f (o + 2)) &&& (255 : Int32)).toInt64) <<< ((40 : Int32) &&& 0x3f).toInt64)) ||| ((((f (o + 3)) &&& (255 : Int32)).toInt64) <<< ((32 : Int32) &&& 0x3f).toInt64)))])) _
    refine XS.iconst X0.here hx rfl (hb hby d6_55) ?_
    show Steps p.tables e below (s₁.setTop (mkF m 56 #[.val (.ref a1), .val (.int p2)] [(.int (4 : Int32)), (.int p2), (.ref a1), (.long (((((((f o) &&& (255 : Int32)).toInt64) <<< ((56 : Int32) &&& 0x3f).toInt64) ||| ((((f (o + 1)) &&& (255 : Int32)).toInt64) <<< ((48 : Int32) &&& 0x3f).toInt64)) ||| ((((f (o + 2)) &&& (255 : Int32)).toInt64) <<< ((40 : Int32) &&& 0x3f).toInt64)) ||| ((((f (o + 3)) &&& (255 : Int32)).toInt64) <<< ((32 : Int32) &&& 0x3f).toInt64)))])) _
    refine XS.iadd X0.here hx rfl (hb hby d6_56) rfl ?_
    show Steps p.tables e below (s₁.setTop (mkF m 57 #[.val (.ref a1), .val (.int p2)] [(.int (p2 + (4 : Int32))), (.ref a1), (.long (((((((f o) &&& (255 : Int32)).toInt64) <<< ((56 : Int32) &&& 0x3f).toInt64) ||| ((((f (o + 1)) &&& (255 : Int32)).toInt64) <<< ((48 : Int32) &&& 0x3f).toInt64)) ||| ((((f (o + 2)) &&& (255 : Int32)).toInt64) <<< ((40 : Int32) &&& 0x3f).toInt64)) ||| ((((f (o + 3)) &&& (255 : Int32)).toInt64) <<< ((32 : Int32) &&& 0x3f).toInt64)))])) _
    refine own_bload X0 hx hZ e0 B0 (k := (o + 4)) (own_off ho ho8 (k := 4) (by decide) (by decide)) (by omega) (g := (mkF m 57 #[.val (.ref a1), .val (.int p2)] [(.int (p2 + (4 : Int32))), (.ref a1), (.long (((((((f o) &&& (255 : Int32)).toInt64) <<< ((56 : Int32) &&& 0x3f).toInt64) ||| ((((f (o + 1)) &&& (255 : Int32)).toInt64) <<< ((48 : Int32) &&& 0x3f).toInt64)) ||| ((((f (o + 2)) &&& (255 : Int32)).toInt64) <<< ((40 : Int32) &&& 0x3f).toInt64)) ||| ((((f (o + 3)) &&& (255 : Int32)).toInt64) <<< ((32 : Int32) &&& 0x3f).toInt64)))])) rfl rfl (hb hby d6_57) _ ?_
    show Steps p.tables e below (s₁.setTop (mkF m 58 #[.val (.ref a1), .val (.int p2)] [(.int (f (o + 4))), (.long (((((((f o) &&& (255 : Int32)).toInt64) <<< ((56 : Int32) &&& 0x3f).toInt64) ||| ((((f (o + 1)) &&& (255 : Int32)).toInt64) <<< ((48 : Int32) &&& 0x3f).toInt64)) ||| ((((f (o + 2)) &&& (255 : Int32)).toInt64) <<< ((40 : Int32) &&& 0x3f).toInt64)) ||| ((((f (o + 3)) &&& (255 : Int32)).toInt64) <<< ((32 : Int32) &&& 0x3f).toInt64)))])) _
    refine XS.sipush X0.here hx rfl (hb hby d6_58) ?_
    show Steps p.tables e below (s₁.setTop (mkF m 61 #[.val (.ref a1), .val (.int p2)] [(.int (255 : Int32)), (.int (f (o + 4))), (.long (((((((f o) &&& (255 : Int32)).toInt64) <<< ((56 : Int32) &&& 0x3f).toInt64) ||| ((((f (o + 1)) &&& (255 : Int32)).toInt64) <<< ((48 : Int32) &&& 0x3f).toInt64)) ||| ((((f (o + 2)) &&& (255 : Int32)).toInt64) <<< ((40 : Int32) &&& 0x3f).toInt64)) ||| ((((f (o + 3)) &&& (255 : Int32)).toInt64) <<< ((32 : Int32) &&& 0x3f).toInt64)))])) _
    refine XS.iand X0.here hx rfl (hb hby d6_61) rfl ?_
    show Steps p.tables e below (s₁.setTop (mkF m 62 #[.val (.ref a1), .val (.int p2)] [(.int ((f (o + 4)) &&& (255 : Int32))), (.long (((((((f o) &&& (255 : Int32)).toInt64) <<< ((56 : Int32) &&& 0x3f).toInt64) ||| ((((f (o + 1)) &&& (255 : Int32)).toInt64) <<< ((48 : Int32) &&& 0x3f).toInt64)) ||| ((((f (o + 2)) &&& (255 : Int32)).toInt64) <<< ((40 : Int32) &&& 0x3f).toInt64)) ||| ((((f (o + 3)) &&& (255 : Int32)).toInt64) <<< ((32 : Int32) &&& 0x3f).toInt64)))])) _
    refine XS.i2l X0.here hx rfl (hb hby d6_62) rfl ?_
    show Steps p.tables e below (s₁.setTop (mkF m 63 #[.val (.ref a1), .val (.int p2)] [(.long (((f (o + 4)) &&& (255 : Int32)).toInt64)), (.long (((((((f o) &&& (255 : Int32)).toInt64) <<< ((56 : Int32) &&& 0x3f).toInt64) ||| ((((f (o + 1)) &&& (255 : Int32)).toInt64) <<< ((48 : Int32) &&& 0x3f).toInt64)) ||| ((((f (o + 2)) &&& (255 : Int32)).toInt64) <<< ((40 : Int32) &&& 0x3f).toInt64)) ||| ((((f (o + 3)) &&& (255 : Int32)).toInt64) <<< ((32 : Int32) &&& 0x3f).toInt64)))])) _
    refine XS.bipush X0.here hx rfl (hb hby d6_63) ?_
    show Steps p.tables e below (s₁.setTop (mkF m 65 #[.val (.ref a1), .val (.int p2)] [(.int (24 : Int32)), (.long (((f (o + 4)) &&& (255 : Int32)).toInt64)), (.long (((((((f o) &&& (255 : Int32)).toInt64) <<< ((56 : Int32) &&& 0x3f).toInt64) ||| ((((f (o + 1)) &&& (255 : Int32)).toInt64) <<< ((48 : Int32) &&& 0x3f).toInt64)) ||| ((((f (o + 2)) &&& (255 : Int32)).toInt64) <<< ((40 : Int32) &&& 0x3f).toInt64)) ||| ((((f (o + 3)) &&& (255 : Int32)).toInt64) <<< ((32 : Int32) &&& 0x3f).toInt64)))])) _
    refine XS.lshl X0.here hx rfl (hb hby d6_65) rfl ?_
    show Steps p.tables e below (s₁.setTop (mkF m 66 #[.val (.ref a1), .val (.int p2)] [(.long ((((f (o + 4)) &&& (255 : Int32)).toInt64) <<< ((24 : Int32) &&& 0x3f).toInt64)), (.long (((((((f o) &&& (255 : Int32)).toInt64) <<< ((56 : Int32) &&& 0x3f).toInt64) ||| ((((f (o + 1)) &&& (255 : Int32)).toInt64) <<< ((48 : Int32) &&& 0x3f).toInt64)) ||| ((((f (o + 2)) &&& (255 : Int32)).toInt64) <<< ((40 : Int32) &&& 0x3f).toInt64)) ||| ((((f (o + 3)) &&& (255 : Int32)).toInt64) <<< ((32 : Int32) &&& 0x3f).toInt64)))])) _
    refine XS.lor X0.here hx rfl (hb hby d6_66) rfl ?_
    show Steps p.tables e below (s₁.setTop (mkF m 67 #[.val (.ref a1), .val (.int p2)] [(.long ((((((((f o) &&& (255 : Int32)).toInt64) <<< ((56 : Int32) &&& 0x3f).toInt64) ||| ((((f (o + 1)) &&& (255 : Int32)).toInt64) <<< ((48 : Int32) &&& 0x3f).toInt64)) ||| ((((f (o + 2)) &&& (255 : Int32)).toInt64) <<< ((40 : Int32) &&& 0x3f).toInt64)) ||| ((((f (o + 3)) &&& (255 : Int32)).toInt64) <<< ((32 : Int32) &&& 0x3f).toInt64)) ||| ((((f (o + 4)) &&& (255 : Int32)).toInt64) <<< ((24 : Int32) &&& 0x3f).toInt64)))])) _
    refine XS.aloadN X0.here hx rfl (hb hby d6_67) rfl rfl ?_
    show Steps p.tables e below (s₁.setTop (mkF m 68 #[.val (.ref a1), .val (.int p2)] [(.ref a1), (.long ((((((((f o) &&& (255 : Int32)).toInt64) <<< ((56 : Int32) &&& 0x3f).toInt64) ||| ((((f (o + 1)) &&& (255 : Int32)).toInt64) <<< ((48 : Int32) &&& 0x3f).toInt64)) ||| ((((f (o + 2)) &&& (255 : Int32)).toInt64) <<< ((40 : Int32) &&& 0x3f).toInt64)) ||| ((((f (o + 3)) &&& (255 : Int32)).toInt64) <<< ((32 : Int32) &&& 0x3f).toInt64)) ||| ((((f (o + 4)) &&& (255 : Int32)).toInt64) <<< ((24 : Int32) &&& 0x3f).toInt64)))])) _
    refine XS.iloadN X0.here hx rfl (hb hby d6_68) rfl ?_
    show Steps p.tables e below (s₁.setTop (mkF m 69 #[.val (.ref a1), .val (.int p2)] [(.int p2), (.ref a1), (.long ((((((((f o) &&& (255 : Int32)).toInt64) <<< ((56 : Int32) &&& 0x3f).toInt64) ||| ((((f (o + 1)) &&& (255 : Int32)).toInt64) <<< ((48 : Int32) &&& 0x3f).toInt64)) ||| ((((f (o + 2)) &&& (255 : Int32)).toInt64) <<< ((40 : Int32) &&& 0x3f).toInt64)) ||| ((((f (o + 3)) &&& (255 : Int32)).toInt64) <<< ((32 : Int32) &&& 0x3f).toInt64)) ||| ((((f (o + 4)) &&& (255 : Int32)).toInt64) <<< ((24 : Int32) &&& 0x3f).toInt64)))])) _
    refine XS.iconst X0.here hx rfl (hb hby d6_69) ?_
    show Steps p.tables e below (s₁.setTop (mkF m 70 #[.val (.ref a1), .val (.int p2)] [(.int (5 : Int32)), (.int p2), (.ref a1), (.long ((((((((f o) &&& (255 : Int32)).toInt64) <<< ((56 : Int32) &&& 0x3f).toInt64) ||| ((((f (o + 1)) &&& (255 : Int32)).toInt64) <<< ((48 : Int32) &&& 0x3f).toInt64)) ||| ((((f (o + 2)) &&& (255 : Int32)).toInt64) <<< ((40 : Int32) &&& 0x3f).toInt64)) ||| ((((f (o + 3)) &&& (255 : Int32)).toInt64) <<< ((32 : Int32) &&& 0x3f).toInt64)) ||| ((((f (o + 4)) &&& (255 : Int32)).toInt64) <<< ((24 : Int32) &&& 0x3f).toInt64)))])) _
    refine XS.iadd X0.here hx rfl (hb hby d6_70) rfl ?_
    show Steps p.tables e below (s₁.setTop (mkF m 71 #[.val (.ref a1), .val (.int p2)] [(.int (p2 + (5 : Int32))), (.ref a1), (.long ((((((((f o) &&& (255 : Int32)).toInt64) <<< ((56 : Int32) &&& 0x3f).toInt64) ||| ((((f (o + 1)) &&& (255 : Int32)).toInt64) <<< ((48 : Int32) &&& 0x3f).toInt64)) ||| ((((f (o + 2)) &&& (255 : Int32)).toInt64) <<< ((40 : Int32) &&& 0x3f).toInt64)) ||| ((((f (o + 3)) &&& (255 : Int32)).toInt64) <<< ((32 : Int32) &&& 0x3f).toInt64)) ||| ((((f (o + 4)) &&& (255 : Int32)).toInt64) <<< ((24 : Int32) &&& 0x3f).toInt64)))])) _
    refine own_bload X0 hx hZ e0 B0 (k := (o + 5)) (own_off ho ho8 (k := 5) (by decide) (by decide)) (by omega) (g := (mkF m 71 #[.val (.ref a1), .val (.int p2)] [(.int (p2 + (5 : Int32))), (.ref a1), (.long ((((((((f o) &&& (255 : Int32)).toInt64) <<< ((56 : Int32) &&& 0x3f).toInt64) ||| ((((f (o + 1)) &&& (255 : Int32)).toInt64) <<< ((48 : Int32) &&& 0x3f).toInt64)) ||| ((((f (o + 2)) &&& (255 : Int32)).toInt64) <<< ((40 : Int32) &&& 0x3f).toInt64)) ||| ((((f (o + 3)) &&& (255 : Int32)).toInt64) <<< ((32 : Int32) &&& 0x3f).toInt64)) ||| ((((f (o + 4)) &&& (255 : Int32)).toInt64) <<< ((24 : Int32) &&& 0x3f).toInt64)))])) rfl rfl (hb hby d6_71) _ ?_
    show Steps p.tables e below (s₁.setTop (mkF m 72 #[.val (.ref a1), .val (.int p2)] [(.int (f (o + 5))), (.long ((((((((f o) &&& (255 : Int32)).toInt64) <<< ((56 : Int32) &&& 0x3f).toInt64) ||| ((((f (o + 1)) &&& (255 : Int32)).toInt64) <<< ((48 : Int32) &&& 0x3f).toInt64)) ||| ((((f (o + 2)) &&& (255 : Int32)).toInt64) <<< ((40 : Int32) &&& 0x3f).toInt64)) ||| ((((f (o + 3)) &&& (255 : Int32)).toInt64) <<< ((32 : Int32) &&& 0x3f).toInt64)) ||| ((((f (o + 4)) &&& (255 : Int32)).toInt64) <<< ((24 : Int32) &&& 0x3f).toInt64)))])) _
    refine XS.sipush X0.here hx rfl (hb hby d6_72) ?_
    show Steps p.tables e below (s₁.setTop (mkF m 75 #[.val (.ref a1), .val (.int p2)] [(.int (255 : Int32)), (.int (f (o + 5))), (.long ((((((((f o) &&& (255 : Int32)).toInt64) <<< ((56 : Int32) &&& 0x3f).toInt64) ||| ((((f (o + 1)) &&& (255 : Int32)).toInt64) <<< ((48 : Int32) &&& 0x3f).toInt64)) ||| ((((f (o + 2)) &&& (255 : Int32)).toInt64) <<< ((40 : Int32) &&& 0x3f).toInt64)) ||| ((((f (o + 3)) &&& (255 : Int32)).toInt64) <<< ((32 : Int32) &&& 0x3f).toInt64)) ||| ((((f (o + 4)) &&& (255 : Int32)).toInt64) <<< ((24 : Int32) &&& 0x3f).toInt64)))])) _
    refine XS.iand X0.here hx rfl (hb hby d6_75) rfl ?_
    show Steps p.tables e below (s₁.setTop (mkF m 76 #[.val (.ref a1), .val (.int p2)] [(.int ((f (o + 5)) &&& (255 : Int32))), (.long ((((((((f o) &&& (255 : Int32)).toInt64) <<< ((56 : Int32) &&& 0x3f).toInt64) ||| ((((f (o + 1)) &&& (255 : Int32)).toInt64) <<< ((48 : Int32) &&& 0x3f).toInt64)) ||| ((((f (o + 2)) &&& (255 : Int32)).toInt64) <<< ((40 : Int32) &&& 0x3f).toInt64)) ||| ((((f (o + 3)) &&& (255 : Int32)).toInt64) <<< ((32 : Int32) &&& 0x3f).toInt64)) ||| ((((f (o + 4)) &&& (255 : Int32)).toInt64) <<< ((24 : Int32) &&& 0x3f).toInt64)))])) _
    refine XS.i2l X0.here hx rfl (hb hby d6_76) rfl ?_
    show Steps p.tables e below (s₁.setTop (mkF m 77 #[.val (.ref a1), .val (.int p2)] [(.long (((f (o + 5)) &&& (255 : Int32)).toInt64)), (.long ((((((((f o) &&& (255 : Int32)).toInt64) <<< ((56 : Int32) &&& 0x3f).toInt64) ||| ((((f (o + 1)) &&& (255 : Int32)).toInt64) <<< ((48 : Int32) &&& 0x3f).toInt64)) ||| ((((f (o + 2)) &&& (255 : Int32)).toInt64) <<< ((40 : Int32) &&& 0x3f).toInt64)) ||| ((((f (o + 3)) &&& (255 : Int32)).toInt64) <<< ((32 : Int32) &&& 0x3f).toInt64)) ||| ((((f (o + 4)) &&& (255 : Int32)).toInt64) <<< ((24 : Int32) &&& 0x3f).toInt64)))])) _
    refine XS.bipush X0.here hx rfl (hb hby d6_77) ?_
    show Steps p.tables e below (s₁.setTop (mkF m 79 #[.val (.ref a1), .val (.int p2)] [(.int (16 : Int32)), (.long (((f (o + 5)) &&& (255 : Int32)).toInt64)), (.long ((((((((f o) &&& (255 : Int32)).toInt64) <<< ((56 : Int32) &&& 0x3f).toInt64) ||| ((((f (o + 1)) &&& (255 : Int32)).toInt64) <<< ((48 : Int32) &&& 0x3f).toInt64)) ||| ((((f (o + 2)) &&& (255 : Int32)).toInt64) <<< ((40 : Int32) &&& 0x3f).toInt64)) ||| ((((f (o + 3)) &&& (255 : Int32)).toInt64) <<< ((32 : Int32) &&& 0x3f).toInt64)) ||| ((((f (o + 4)) &&& (255 : Int32)).toInt64) <<< ((24 : Int32) &&& 0x3f).toInt64)))])) _
    refine XS.lshl X0.here hx rfl (hb hby d6_79) rfl ?_
    show Steps p.tables e below (s₁.setTop (mkF m 80 #[.val (.ref a1), .val (.int p2)] [(.long ((((f (o + 5)) &&& (255 : Int32)).toInt64) <<< ((16 : Int32) &&& 0x3f).toInt64)), (.long ((((((((f o) &&& (255 : Int32)).toInt64) <<< ((56 : Int32) &&& 0x3f).toInt64) ||| ((((f (o + 1)) &&& (255 : Int32)).toInt64) <<< ((48 : Int32) &&& 0x3f).toInt64)) ||| ((((f (o + 2)) &&& (255 : Int32)).toInt64) <<< ((40 : Int32) &&& 0x3f).toInt64)) ||| ((((f (o + 3)) &&& (255 : Int32)).toInt64) <<< ((32 : Int32) &&& 0x3f).toInt64)) ||| ((((f (o + 4)) &&& (255 : Int32)).toInt64) <<< ((24 : Int32) &&& 0x3f).toInt64)))])) _
    refine XS.lor X0.here hx rfl (hb hby d6_80) rfl ?_
    show Steps p.tables e below (s₁.setTop (mkF m 81 #[.val (.ref a1), .val (.int p2)] [(.long (((((((((f o) &&& (255 : Int32)).toInt64) <<< ((56 : Int32) &&& 0x3f).toInt64) ||| ((((f (o + 1)) &&& (255 : Int32)).toInt64) <<< ((48 : Int32) &&& 0x3f).toInt64)) ||| ((((f (o + 2)) &&& (255 : Int32)).toInt64) <<< ((40 : Int32) &&& 0x3f).toInt64)) ||| ((((f (o + 3)) &&& (255 : Int32)).toInt64) <<< ((32 : Int32) &&& 0x3f).toInt64)) ||| ((((f (o + 4)) &&& (255 : Int32)).toInt64) <<< ((24 : Int32) &&& 0x3f).toInt64)) ||| ((((f (o + 5)) &&& (255 : Int32)).toInt64) <<< ((16 : Int32) &&& 0x3f).toInt64)))])) _
    refine XS.aloadN X0.here hx rfl (hb hby d6_81) rfl rfl ?_
    show Steps p.tables e below (s₁.setTop (mkF m 82 #[.val (.ref a1), .val (.int p2)] [(.ref a1), (.long (((((((((f o) &&& (255 : Int32)).toInt64) <<< ((56 : Int32) &&& 0x3f).toInt64) ||| ((((f (o + 1)) &&& (255 : Int32)).toInt64) <<< ((48 : Int32) &&& 0x3f).toInt64)) ||| ((((f (o + 2)) &&& (255 : Int32)).toInt64) <<< ((40 : Int32) &&& 0x3f).toInt64)) ||| ((((f (o + 3)) &&& (255 : Int32)).toInt64) <<< ((32 : Int32) &&& 0x3f).toInt64)) ||| ((((f (o + 4)) &&& (255 : Int32)).toInt64) <<< ((24 : Int32) &&& 0x3f).toInt64)) ||| ((((f (o + 5)) &&& (255 : Int32)).toInt64) <<< ((16 : Int32) &&& 0x3f).toInt64)))])) _
    refine XS.iloadN X0.here hx rfl (hb hby d6_82) rfl ?_
    show Steps p.tables e below (s₁.setTop (mkF m 83 #[.val (.ref a1), .val (.int p2)] [(.int p2), (.ref a1), (.long (((((((((f o) &&& (255 : Int32)).toInt64) <<< ((56 : Int32) &&& 0x3f).toInt64) ||| ((((f (o + 1)) &&& (255 : Int32)).toInt64) <<< ((48 : Int32) &&& 0x3f).toInt64)) ||| ((((f (o + 2)) &&& (255 : Int32)).toInt64) <<< ((40 : Int32) &&& 0x3f).toInt64)) ||| ((((f (o + 3)) &&& (255 : Int32)).toInt64) <<< ((32 : Int32) &&& 0x3f).toInt64)) ||| ((((f (o + 4)) &&& (255 : Int32)).toInt64) <<< ((24 : Int32) &&& 0x3f).toInt64)) ||| ((((f (o + 5)) &&& (255 : Int32)).toInt64) <<< ((16 : Int32) &&& 0x3f).toInt64)))])) _
    refine XS.bipush X0.here hx rfl (hb hby d6_83) ?_
    show Steps p.tables e below (s₁.setTop (mkF m 85 #[.val (.ref a1), .val (.int p2)] [(.int (6 : Int32)), (.int p2), (.ref a1), (.long (((((((((f o) &&& (255 : Int32)).toInt64) <<< ((56 : Int32) &&& 0x3f).toInt64) ||| ((((f (o + 1)) &&& (255 : Int32)).toInt64) <<< ((48 : Int32) &&& 0x3f).toInt64)) ||| ((((f (o + 2)) &&& (255 : Int32)).toInt64) <<< ((40 : Int32) &&& 0x3f).toInt64)) ||| ((((f (o + 3)) &&& (255 : Int32)).toInt64) <<< ((32 : Int32) &&& 0x3f).toInt64)) ||| ((((f (o + 4)) &&& (255 : Int32)).toInt64) <<< ((24 : Int32) &&& 0x3f).toInt64)) ||| ((((f (o + 5)) &&& (255 : Int32)).toInt64) <<< ((16 : Int32) &&& 0x3f).toInt64)))])) _
    refine XS.iadd X0.here hx rfl (hb hby d6_85) rfl ?_
    show Steps p.tables e below (s₁.setTop (mkF m 86 #[.val (.ref a1), .val (.int p2)] [(.int (p2 + (6 : Int32))), (.ref a1), (.long (((((((((f o) &&& (255 : Int32)).toInt64) <<< ((56 : Int32) &&& 0x3f).toInt64) ||| ((((f (o + 1)) &&& (255 : Int32)).toInt64) <<< ((48 : Int32) &&& 0x3f).toInt64)) ||| ((((f (o + 2)) &&& (255 : Int32)).toInt64) <<< ((40 : Int32) &&& 0x3f).toInt64)) ||| ((((f (o + 3)) &&& (255 : Int32)).toInt64) <<< ((32 : Int32) &&& 0x3f).toInt64)) ||| ((((f (o + 4)) &&& (255 : Int32)).toInt64) <<< ((24 : Int32) &&& 0x3f).toInt64)) ||| ((((f (o + 5)) &&& (255 : Int32)).toInt64) <<< ((16 : Int32) &&& 0x3f).toInt64)))])) _
    refine own_bload X0 hx hZ e0 B0 (k := (o + 6)) (own_off ho ho8 (k := 6) (by decide) (by decide)) (by omega) (g := (mkF m 86 #[.val (.ref a1), .val (.int p2)] [(.int (p2 + (6 : Int32))), (.ref a1), (.long (((((((((f o) &&& (255 : Int32)).toInt64) <<< ((56 : Int32) &&& 0x3f).toInt64) ||| ((((f (o + 1)) &&& (255 : Int32)).toInt64) <<< ((48 : Int32) &&& 0x3f).toInt64)) ||| ((((f (o + 2)) &&& (255 : Int32)).toInt64) <<< ((40 : Int32) &&& 0x3f).toInt64)) ||| ((((f (o + 3)) &&& (255 : Int32)).toInt64) <<< ((32 : Int32) &&& 0x3f).toInt64)) ||| ((((f (o + 4)) &&& (255 : Int32)).toInt64) <<< ((24 : Int32) &&& 0x3f).toInt64)) ||| ((((f (o + 5)) &&& (255 : Int32)).toInt64) <<< ((16 : Int32) &&& 0x3f).toInt64)))])) rfl rfl (hb hby d6_86) _ ?_
    show Steps p.tables e below (s₁.setTop (mkF m 87 #[.val (.ref a1), .val (.int p2)] [(.int (f (o + 6))), (.long (((((((((f o) &&& (255 : Int32)).toInt64) <<< ((56 : Int32) &&& 0x3f).toInt64) ||| ((((f (o + 1)) &&& (255 : Int32)).toInt64) <<< ((48 : Int32) &&& 0x3f).toInt64)) ||| ((((f (o + 2)) &&& (255 : Int32)).toInt64) <<< ((40 : Int32) &&& 0x3f).toInt64)) ||| ((((f (o + 3)) &&& (255 : Int32)).toInt64) <<< ((32 : Int32) &&& 0x3f).toInt64)) ||| ((((f (o + 4)) &&& (255 : Int32)).toInt64) <<< ((24 : Int32) &&& 0x3f).toInt64)) ||| ((((f (o + 5)) &&& (255 : Int32)).toInt64) <<< ((16 : Int32) &&& 0x3f).toInt64)))])) _
    refine XS.sipush X0.here hx rfl (hb hby d6_87) ?_
    show Steps p.tables e below (s₁.setTop (mkF m 90 #[.val (.ref a1), .val (.int p2)] [(.int (255 : Int32)), (.int (f (o + 6))), (.long (((((((((f o) &&& (255 : Int32)).toInt64) <<< ((56 : Int32) &&& 0x3f).toInt64) ||| ((((f (o + 1)) &&& (255 : Int32)).toInt64) <<< ((48 : Int32) &&& 0x3f).toInt64)) ||| ((((f (o + 2)) &&& (255 : Int32)).toInt64) <<< ((40 : Int32) &&& 0x3f).toInt64)) ||| ((((f (o + 3)) &&& (255 : Int32)).toInt64) <<< ((32 : Int32) &&& 0x3f).toInt64)) ||| ((((f (o + 4)) &&& (255 : Int32)).toInt64) <<< ((24 : Int32) &&& 0x3f).toInt64)) ||| ((((f (o + 5)) &&& (255 : Int32)).toInt64) <<< ((16 : Int32) &&& 0x3f).toInt64)))])) _
    refine XS.iand X0.here hx rfl (hb hby d6_90) rfl ?_
    show Steps p.tables e below (s₁.setTop (mkF m 91 #[.val (.ref a1), .val (.int p2)] [(.int ((f (o + 6)) &&& (255 : Int32))), (.long (((((((((f o) &&& (255 : Int32)).toInt64) <<< ((56 : Int32) &&& 0x3f).toInt64) ||| ((((f (o + 1)) &&& (255 : Int32)).toInt64) <<< ((48 : Int32) &&& 0x3f).toInt64)) ||| ((((f (o + 2)) &&& (255 : Int32)).toInt64) <<< ((40 : Int32) &&& 0x3f).toInt64)) ||| ((((f (o + 3)) &&& (255 : Int32)).toInt64) <<< ((32 : Int32) &&& 0x3f).toInt64)) ||| ((((f (o + 4)) &&& (255 : Int32)).toInt64) <<< ((24 : Int32) &&& 0x3f).toInt64)) ||| ((((f (o + 5)) &&& (255 : Int32)).toInt64) <<< ((16 : Int32) &&& 0x3f).toInt64)))])) _
    refine XS.i2l X0.here hx rfl (hb hby d6_91) rfl ?_
    show Steps p.tables e below (s₁.setTop (mkF m 92 #[.val (.ref a1), .val (.int p2)] [(.long (((f (o + 6)) &&& (255 : Int32)).toInt64)), (.long (((((((((f o) &&& (255 : Int32)).toInt64) <<< ((56 : Int32) &&& 0x3f).toInt64) ||| ((((f (o + 1)) &&& (255 : Int32)).toInt64) <<< ((48 : Int32) &&& 0x3f).toInt64)) ||| ((((f (o + 2)) &&& (255 : Int32)).toInt64) <<< ((40 : Int32) &&& 0x3f).toInt64)) ||| ((((f (o + 3)) &&& (255 : Int32)).toInt64) <<< ((32 : Int32) &&& 0x3f).toInt64)) ||| ((((f (o + 4)) &&& (255 : Int32)).toInt64) <<< ((24 : Int32) &&& 0x3f).toInt64)) ||| ((((f (o + 5)) &&& (255 : Int32)).toInt64) <<< ((16 : Int32) &&& 0x3f).toInt64)))])) _
    refine XS.bipush X0.here hx rfl (hb hby d6_92) ?_
    show Steps p.tables e below (s₁.setTop (mkF m 94 #[.val (.ref a1), .val (.int p2)] [(.int (8 : Int32)), (.long (((f (o + 6)) &&& (255 : Int32)).toInt64)), (.long (((((((((f o) &&& (255 : Int32)).toInt64) <<< ((56 : Int32) &&& 0x3f).toInt64) ||| ((((f (o + 1)) &&& (255 : Int32)).toInt64) <<< ((48 : Int32) &&& 0x3f).toInt64)) ||| ((((f (o + 2)) &&& (255 : Int32)).toInt64) <<< ((40 : Int32) &&& 0x3f).toInt64)) ||| ((((f (o + 3)) &&& (255 : Int32)).toInt64) <<< ((32 : Int32) &&& 0x3f).toInt64)) ||| ((((f (o + 4)) &&& (255 : Int32)).toInt64) <<< ((24 : Int32) &&& 0x3f).toInt64)) ||| ((((f (o + 5)) &&& (255 : Int32)).toInt64) <<< ((16 : Int32) &&& 0x3f).toInt64)))])) _
    refine XS.lshl X0.here hx rfl (hb hby d6_94) rfl ?_
    show Steps p.tables e below (s₁.setTop (mkF m 95 #[.val (.ref a1), .val (.int p2)] [(.long ((((f (o + 6)) &&& (255 : Int32)).toInt64) <<< ((8 : Int32) &&& 0x3f).toInt64)), (.long (((((((((f o) &&& (255 : Int32)).toInt64) <<< ((56 : Int32) &&& 0x3f).toInt64) ||| ((((f (o + 1)) &&& (255 : Int32)).toInt64) <<< ((48 : Int32) &&& 0x3f).toInt64)) ||| ((((f (o + 2)) &&& (255 : Int32)).toInt64) <<< ((40 : Int32) &&& 0x3f).toInt64)) ||| ((((f (o + 3)) &&& (255 : Int32)).toInt64) <<< ((32 : Int32) &&& 0x3f).toInt64)) ||| ((((f (o + 4)) &&& (255 : Int32)).toInt64) <<< ((24 : Int32) &&& 0x3f).toInt64)) ||| ((((f (o + 5)) &&& (255 : Int32)).toInt64) <<< ((16 : Int32) &&& 0x3f).toInt64)))])) _
    refine XS.lor X0.here hx rfl (hb hby d6_95) rfl ?_
    show Steps p.tables e below (s₁.setTop (mkF m 96 #[.val (.ref a1), .val (.int p2)] [(.long ((((((((((f o) &&& (255 : Int32)).toInt64) <<< ((56 : Int32) &&& 0x3f).toInt64) ||| ((((f (o + 1)) &&& (255 : Int32)).toInt64) <<< ((48 : Int32) &&& 0x3f).toInt64)) ||| ((((f (o + 2)) &&& (255 : Int32)).toInt64) <<< ((40 : Int32) &&& 0x3f).toInt64)) ||| ((((f (o + 3)) &&& (255 : Int32)).toInt64) <<< ((32 : Int32) &&& 0x3f).toInt64)) ||| ((((f (o + 4)) &&& (255 : Int32)).toInt64) <<< ((24 : Int32) &&& 0x3f).toInt64)) ||| ((((f (o + 5)) &&& (255 : Int32)).toInt64) <<< ((16 : Int32) &&& 0x3f).toInt64)) ||| ((((f (o + 6)) &&& (255 : Int32)).toInt64) <<< ((8 : Int32) &&& 0x3f).toInt64)))])) _
    refine XS.aloadN X0.here hx rfl (hb hby d6_96) rfl rfl ?_
    show Steps p.tables e below (s₁.setTop (mkF m 97 #[.val (.ref a1), .val (.int p2)] [(.ref a1), (.long ((((((((((f o) &&& (255 : Int32)).toInt64) <<< ((56 : Int32) &&& 0x3f).toInt64) ||| ((((f (o + 1)) &&& (255 : Int32)).toInt64) <<< ((48 : Int32) &&& 0x3f).toInt64)) ||| ((((f (o + 2)) &&& (255 : Int32)).toInt64) <<< ((40 : Int32) &&& 0x3f).toInt64)) ||| ((((f (o + 3)) &&& (255 : Int32)).toInt64) <<< ((32 : Int32) &&& 0x3f).toInt64)) ||| ((((f (o + 4)) &&& (255 : Int32)).toInt64) <<< ((24 : Int32) &&& 0x3f).toInt64)) ||| ((((f (o + 5)) &&& (255 : Int32)).toInt64) <<< ((16 : Int32) &&& 0x3f).toInt64)) ||| ((((f (o + 6)) &&& (255 : Int32)).toInt64) <<< ((8 : Int32) &&& 0x3f).toInt64)))])) _
    refine XS.iloadN X0.here hx rfl (hb hby d6_97) rfl ?_
    show Steps p.tables e below (s₁.setTop (mkF m 98 #[.val (.ref a1), .val (.int p2)] [(.int p2), (.ref a1), (.long ((((((((((f o) &&& (255 : Int32)).toInt64) <<< ((56 : Int32) &&& 0x3f).toInt64) ||| ((((f (o + 1)) &&& (255 : Int32)).toInt64) <<< ((48 : Int32) &&& 0x3f).toInt64)) ||| ((((f (o + 2)) &&& (255 : Int32)).toInt64) <<< ((40 : Int32) &&& 0x3f).toInt64)) ||| ((((f (o + 3)) &&& (255 : Int32)).toInt64) <<< ((32 : Int32) &&& 0x3f).toInt64)) ||| ((((f (o + 4)) &&& (255 : Int32)).toInt64) <<< ((24 : Int32) &&& 0x3f).toInt64)) ||| ((((f (o + 5)) &&& (255 : Int32)).toInt64) <<< ((16 : Int32) &&& 0x3f).toInt64)) ||| ((((f (o + 6)) &&& (255 : Int32)).toInt64) <<< ((8 : Int32) &&& 0x3f).toInt64)))])) _
    refine XS.bipush X0.here hx rfl (hb hby d6_98) ?_
    show Steps p.tables e below (s₁.setTop (mkF m 100 #[.val (.ref a1), .val (.int p2)] [(.int (7 : Int32)), (.int p2), (.ref a1), (.long ((((((((((f o) &&& (255 : Int32)).toInt64) <<< ((56 : Int32) &&& 0x3f).toInt64) ||| ((((f (o + 1)) &&& (255 : Int32)).toInt64) <<< ((48 : Int32) &&& 0x3f).toInt64)) ||| ((((f (o + 2)) &&& (255 : Int32)).toInt64) <<< ((40 : Int32) &&& 0x3f).toInt64)) ||| ((((f (o + 3)) &&& (255 : Int32)).toInt64) <<< ((32 : Int32) &&& 0x3f).toInt64)) ||| ((((f (o + 4)) &&& (255 : Int32)).toInt64) <<< ((24 : Int32) &&& 0x3f).toInt64)) ||| ((((f (o + 5)) &&& (255 : Int32)).toInt64) <<< ((16 : Int32) &&& 0x3f).toInt64)) ||| ((((f (o + 6)) &&& (255 : Int32)).toInt64) <<< ((8 : Int32) &&& 0x3f).toInt64)))])) _
    refine XS.iadd X0.here hx rfl (hb hby d6_100) rfl ?_
    show Steps p.tables e below (s₁.setTop (mkF m 101 #[.val (.ref a1), .val (.int p2)] [(.int (p2 + (7 : Int32))), (.ref a1), (.long ((((((((((f o) &&& (255 : Int32)).toInt64) <<< ((56 : Int32) &&& 0x3f).toInt64) ||| ((((f (o + 1)) &&& (255 : Int32)).toInt64) <<< ((48 : Int32) &&& 0x3f).toInt64)) ||| ((((f (o + 2)) &&& (255 : Int32)).toInt64) <<< ((40 : Int32) &&& 0x3f).toInt64)) ||| ((((f (o + 3)) &&& (255 : Int32)).toInt64) <<< ((32 : Int32) &&& 0x3f).toInt64)) ||| ((((f (o + 4)) &&& (255 : Int32)).toInt64) <<< ((24 : Int32) &&& 0x3f).toInt64)) ||| ((((f (o + 5)) &&& (255 : Int32)).toInt64) <<< ((16 : Int32) &&& 0x3f).toInt64)) ||| ((((f (o + 6)) &&& (255 : Int32)).toInt64) <<< ((8 : Int32) &&& 0x3f).toInt64)))])) _
    refine own_bload X0 hx hZ e0 B0 (k := (o + 7)) (own_off ho ho8 (k := 7) (by decide) (by decide)) (by omega) (g := (mkF m 101 #[.val (.ref a1), .val (.int p2)] [(.int (p2 + (7 : Int32))), (.ref a1), (.long ((((((((((f o) &&& (255 : Int32)).toInt64) <<< ((56 : Int32) &&& 0x3f).toInt64) ||| ((((f (o + 1)) &&& (255 : Int32)).toInt64) <<< ((48 : Int32) &&& 0x3f).toInt64)) ||| ((((f (o + 2)) &&& (255 : Int32)).toInt64) <<< ((40 : Int32) &&& 0x3f).toInt64)) ||| ((((f (o + 3)) &&& (255 : Int32)).toInt64) <<< ((32 : Int32) &&& 0x3f).toInt64)) ||| ((((f (o + 4)) &&& (255 : Int32)).toInt64) <<< ((24 : Int32) &&& 0x3f).toInt64)) ||| ((((f (o + 5)) &&& (255 : Int32)).toInt64) <<< ((16 : Int32) &&& 0x3f).toInt64)) ||| ((((f (o + 6)) &&& (255 : Int32)).toInt64) <<< ((8 : Int32) &&& 0x3f).toInt64)))])) rfl rfl (hb hby d6_101) _ ?_
    show Steps p.tables e below (s₁.setTop (mkF m 102 #[.val (.ref a1), .val (.int p2)] [(.int (f (o + 7))), (.long ((((((((((f o) &&& (255 : Int32)).toInt64) <<< ((56 : Int32) &&& 0x3f).toInt64) ||| ((((f (o + 1)) &&& (255 : Int32)).toInt64) <<< ((48 : Int32) &&& 0x3f).toInt64)) ||| ((((f (o + 2)) &&& (255 : Int32)).toInt64) <<< ((40 : Int32) &&& 0x3f).toInt64)) ||| ((((f (o + 3)) &&& (255 : Int32)).toInt64) <<< ((32 : Int32) &&& 0x3f).toInt64)) ||| ((((f (o + 4)) &&& (255 : Int32)).toInt64) <<< ((24 : Int32) &&& 0x3f).toInt64)) ||| ((((f (o + 5)) &&& (255 : Int32)).toInt64) <<< ((16 : Int32) &&& 0x3f).toInt64)) ||| ((((f (o + 6)) &&& (255 : Int32)).toInt64) <<< ((8 : Int32) &&& 0x3f).toInt64)))])) _
    refine XS.sipush X0.here hx rfl (hb hby d6_102) ?_
    show Steps p.tables e below (s₁.setTop (mkF m 105 #[.val (.ref a1), .val (.int p2)] [(.int (255 : Int32)), (.int (f (o + 7))), (.long ((((((((((f o) &&& (255 : Int32)).toInt64) <<< ((56 : Int32) &&& 0x3f).toInt64) ||| ((((f (o + 1)) &&& (255 : Int32)).toInt64) <<< ((48 : Int32) &&& 0x3f).toInt64)) ||| ((((f (o + 2)) &&& (255 : Int32)).toInt64) <<< ((40 : Int32) &&& 0x3f).toInt64)) ||| ((((f (o + 3)) &&& (255 : Int32)).toInt64) <<< ((32 : Int32) &&& 0x3f).toInt64)) ||| ((((f (o + 4)) &&& (255 : Int32)).toInt64) <<< ((24 : Int32) &&& 0x3f).toInt64)) ||| ((((f (o + 5)) &&& (255 : Int32)).toInt64) <<< ((16 : Int32) &&& 0x3f).toInt64)) ||| ((((f (o + 6)) &&& (255 : Int32)).toInt64) <<< ((8 : Int32) &&& 0x3f).toInt64)))])) _
    refine XS.iand X0.here hx rfl (hb hby d6_105) rfl ?_
    show Steps p.tables e below (s₁.setTop (mkF m 106 #[.val (.ref a1), .val (.int p2)] [(.int ((f (o + 7)) &&& (255 : Int32))), (.long ((((((((((f o) &&& (255 : Int32)).toInt64) <<< ((56 : Int32) &&& 0x3f).toInt64) ||| ((((f (o + 1)) &&& (255 : Int32)).toInt64) <<< ((48 : Int32) &&& 0x3f).toInt64)) ||| ((((f (o + 2)) &&& (255 : Int32)).toInt64) <<< ((40 : Int32) &&& 0x3f).toInt64)) ||| ((((f (o + 3)) &&& (255 : Int32)).toInt64) <<< ((32 : Int32) &&& 0x3f).toInt64)) ||| ((((f (o + 4)) &&& (255 : Int32)).toInt64) <<< ((24 : Int32) &&& 0x3f).toInt64)) ||| ((((f (o + 5)) &&& (255 : Int32)).toInt64) <<< ((16 : Int32) &&& 0x3f).toInt64)) ||| ((((f (o + 6)) &&& (255 : Int32)).toInt64) <<< ((8 : Int32) &&& 0x3f).toInt64)))])) _
    refine XS.i2l X0.here hx rfl (hb hby d6_106) rfl ?_
    show Steps p.tables e below (s₁.setTop (mkF m 107 #[.val (.ref a1), .val (.int p2)] [(.long (((f (o + 7)) &&& (255 : Int32)).toInt64)), (.long ((((((((((f o) &&& (255 : Int32)).toInt64) <<< ((56 : Int32) &&& 0x3f).toInt64) ||| ((((f (o + 1)) &&& (255 : Int32)).toInt64) <<< ((48 : Int32) &&& 0x3f).toInt64)) ||| ((((f (o + 2)) &&& (255 : Int32)).toInt64) <<< ((40 : Int32) &&& 0x3f).toInt64)) ||| ((((f (o + 3)) &&& (255 : Int32)).toInt64) <<< ((32 : Int32) &&& 0x3f).toInt64)) ||| ((((f (o + 4)) &&& (255 : Int32)).toInt64) <<< ((24 : Int32) &&& 0x3f).toInt64)) ||| ((((f (o + 5)) &&& (255 : Int32)).toInt64) <<< ((16 : Int32) &&& 0x3f).toInt64)) ||| ((((f (o + 6)) &&& (255 : Int32)).toInt64) <<< ((8 : Int32) &&& 0x3f).toInt64)))])) _
    refine XS.lor X0.here hx rfl (hb hby d6_107) rfl ?_
    exact kt)
  obtain ⟨fs, hr, hrun, hended, hW, hsame⟩ := X0.leave (v := some (.long (((((((((((f o) &&& (255 : Int32)).toInt64) <<< ((56 : Int32) &&& 0x3f).toInt64) ||| ((((f (o + 1)) &&& (255 : Int32)).toInt64) <<< ((48 : Int32) &&& 0x3f).toInt64)) ||| ((((f (o + 2)) &&& (255 : Int32)).toInt64) <<< ((40 : Int32) &&& 0x3f).toInt64)) ||| ((((f (o + 3)) &&& (255 : Int32)).toInt64) <<< ((32 : Int32) &&& 0x3f).toInt64)) ||| ((((f (o + 4)) &&& (255 : Int32)).toInt64) <<< ((24 : Int32) &&& 0x3f).toInt64)) ||| ((((f (o + 5)) &&& (255 : Int32)).toInt64) <<< ((16 : Int32) &&& 0x3f).toInt64)) ||| ((((f (o + 6)) &&& (255 : Int32)).toInt64) <<< ((8 : Int32) &&& 0x3f).toInt64)) ||| (((f (o + 7)) &&& (255 : Int32)).toInt64)))) (fun h => by rw [Bd.returns] at h; cases h)
  refine ⟨_, _, pre1 _ ?_, hrun, hended, _, _, rfl, ?_, ⟨_, rfl⟩, hW, hsame.mono (by decide) (by decide)⟩
  · show Steps p.tables e below (s₁.setTop (mkF m 108 #[.val (.ref a1), .val (.int p2)] [(.long (((((((((((f o) &&& (255 : Int32)).toInt64) <<< ((56 : Int32) &&& 0x3f).toInt64) ||| ((((f (o + 1)) &&& (255 : Int32)).toInt64) <<< ((48 : Int32) &&& 0x3f).toInt64)) ||| ((((f (o + 2)) &&& (255 : Int32)).toInt64) <<< ((40 : Int32) &&& 0x3f).toInt64)) ||| ((((f (o + 3)) &&& (255 : Int32)).toInt64) <<< ((32 : Int32) &&& 0x3f).toInt64)) ||| ((((f (o + 4)) &&& (255 : Int32)).toInt64) <<< ((24 : Int32) &&& 0x3f).toInt64)) ||| ((((f (o + 5)) &&& (255 : Int32)).toInt64) <<< ((16 : Int32) &&& 0x3f).toInt64)) ||| ((((f (o + 6)) &&& (255 : Int32)).toInt64) <<< ((8 : Int32) &&& 0x3f).toInt64)) ||| (((f (o + 7)) &&& (255 : Int32)).toInt64)))])) _
    exact X0.lreturnOut hx Bd.returns (hb hby d6_108) hr
  · show Q6 Z a1 p2 o f h0 n0 _ s₁.heap _
    rw [e0]
    exact ⟨rfl, N0, rfl⟩
theorem pn_0 : plainName "saltgrove/aes/CounterKeystreamIncrementPinLaw" = true := by first | (simp [plainName, overriddenIn]; done) | decide +kernel
theorem pd_0_0 : parseMethodDescriptor "(I)J" = some ⟨[.int], some .long⟩ := by decide +kernel
theorem pd_0_1 : parseMethodDescriptor "([BIJ)V" = some ⟨[(.array .byte), .int, .long], none⟩ := by decide +kernel
theorem pd_0_2 : parseMethodDescriptor "(I)V" = some ⟨[.int], none⟩ := by decide +kernel
theorem pd_0_3 : parseMethodDescriptor "([B)V" = some ⟨[(.array .byte)], none⟩ := by decide +kernel
theorem pd_0_4 : parseMethodDescriptor "([BI)J" = some ⟨[(.array .byte), .int], some .long⟩ := by decide +kernel
theorem ef_0 (m : MethodId) (x0 : Int64) (x1 : Int64) (x2 : Int32) (x3 : Int32) : entryFrame m #[(.long x0), (.long x1), (.int x2), (.int x3)] maxLocals = mkF m 0 #[.val (.long x0), .second, .val (.long x1), .second, .val (.int x2), .val (.int x3), .unset, .unset, .unset, .unset, .unset, .unset, .unset, .unset, .unset, .unset, .unset, .unset, .unset, .unset, .unset, .unset, .unset, .unset, .unset, .unset] [] := by first | (simp [entryFrame, mkF, argsToLocals, Value.category, maxLocals]; done) | rfl
def Q0 (Z : State) (q1 : Int64) (q2 : Int64) (p3 : Int32) (p4 : Int32) (h0 : Heap) (n0 : Nat) (v : Option Value) (h : Heap) (L : List Loc) : Prop := v = some (.int (1 : Int32)) ∧ Fr n0 L
set_option maxRecDepth 65536 in
set_option maxHeartbeats 40000000 in
theorem rm0 (l : Launch) (Z : State) (a0 : Array Value) (hw : ∀ d ∈ tables_1, d.before a0 Z = true) (ws : List Jvm.Cond) (q1 : Int64) (q2 : Int64) (p3 : Int32) (p4 : Int32) (h0 : Heap) (n0 : Nat) (Z0 : n0 ≤ h0.size)  :
    MetFree l x (head1 (Jvm.Cond.code x code maxLocals ret :: ws) room_1) (fun a U => a = #[(.long q1), (.long q2), (.int p3), (.int p4)] ∧ Z.Warmed39 U.vm ∧ U.heap = h0) (fun _ _ _ _ _ => True) (fun _ U ou U' => ∃ v L, ou = .returned v ∧ Q0 Z q1 q2 p3 p4 h0 n0 v U'.heap L ∧ FrameEnd U ou U' L room_1.cells room_1.slots) := by
  refine MetFree.of_bodySF (plainFor_of_name pn_0) hisR ?_
  intro p e s m args below meth c s₁ Bd hml0 hP hK
  obtain ⟨rfl, hZ, hh⟩ := hP
  have hx := Bd.exec
  have hby := Bd.bytes
  have hml : c.maxLocals = 26 := hml0
  have hown : s.vm.findClass "saltgrove/aes/CounterKeystreamIncrementPinLaw" = some m.cls := findClass_of_methodNamed Bd.named
  have hnm := (name_of_methodNamed Bd.named Bd.method).1
  have X0 : Stand p l e room_1 s m #[(.long q1), (.long q2), (.int p3), (.int p4)] below meth c s₁ [] 0 0 := Stand.of_body Bd
  have e0 : s₁.heap = h0 := by rw [← hh, Bd.state]; rfl
  have N0 := Fr.nil n0
  have pre0 : ∀ t, Steps p.tables e below (s₁.setTop (mkF m 0 #[.val (.long q1), .second, .val (.long q2), .second, .val (.int p3), .val (.int p4), .unset, .unset, .unset, .unset, .unset, .unset, .unset, .unset, .unset, .unset, .unset, .unset, .unset, .unset, .unset, .unset, .unset, .unset, .unset, .unset] [])) t → Steps p.tables e below (s₁.setTop (entryFrame m #[(.long q1), (.long q2), (.int p3), (.int p4)] maxLocals)) t := fun t k => castTop (ef_0 m (q1) (q2) (p3) (p4)) k
  have pre1 : ∀ t, Steps p.tables e below (s₁.setTop (mkF m 22 #[.val (.long q1), .second, .val (.long q2), .second, .val (.int p3), .val (.int p4), .val (.int ((p3 &&& (15 : Int32)) + (1 : Int32))), .val (.int (p4 &&& (31 : Int32))), .val (.long q1), .second, .val (.long q2), .second, .unset, .unset, .unset, .unset, .unset, .unset, .unset, .unset, .unset, .unset, .unset, .unset, .unset, .unset] [])) t → Steps p.tables e below (s₁.setTop (entryFrame m #[(.long q1), (.long q2), (.int p3), (.int p4)] maxLocals)) t := fun t kt => pre0 t (by
    show Steps p.tables e below (s₁.setTop (mkF m 0 #[.val (.long q1), .second, .val (.long q2), .second, .val (.int p3), .val (.int p4), .unset, .unset, .unset, .unset, .unset, .unset, .unset, .unset, .unset, .unset, .unset, .unset, .unset, .unset, .unset, .unset, .unset, .unset, .unset, .unset] [])) _
    refine XS.iload X0.here hx rfl (hb hby at_0) rfl ?_
    show Steps p.tables e below (s₁.setTop (mkF m 2 #[.val (.long q1), .second, .val (.long q2), .second, .val (.int p3), .val (.int p4), .unset, .unset, .unset, .unset, .unset, .unset, .unset, .unset, .unset, .unset, .unset, .unset, .unset, .unset, .unset, .unset, .unset, .unset, .unset, .unset] [(.int p3)])) _
    refine XS.bipush X0.here hx rfl (hb hby at_2) ?_
    show Steps p.tables e below (s₁.setTop (mkF m 4 #[.val (.long q1), .second, .val (.long q2), .second, .val (.int p3), .val (.int p4), .unset, .unset, .unset, .unset, .unset, .unset, .unset, .unset, .unset, .unset, .unset, .unset, .unset, .unset, .unset, .unset, .unset, .unset, .unset, .unset] [(.int (15 : Int32)), (.int p3)])) _
    refine XS.iand X0.here hx rfl (hb hby at_4) rfl ?_
    show Steps p.tables e below (s₁.setTop (mkF m 5 #[.val (.long q1), .second, .val (.long q2), .second, .val (.int p3), .val (.int p4), .unset, .unset, .unset, .unset, .unset, .unset, .unset, .unset, .unset, .unset, .unset, .unset, .unset, .unset, .unset, .unset, .unset, .unset, .unset, .unset] [(.int (p3 &&& (15 : Int32)))])) _
    refine XS.iconst X0.here hx rfl (hb hby at_5) ?_
    show Steps p.tables e below (s₁.setTop (mkF m 6 #[.val (.long q1), .second, .val (.long q2), .second, .val (.int p3), .val (.int p4), .unset, .unset, .unset, .unset, .unset, .unset, .unset, .unset, .unset, .unset, .unset, .unset, .unset, .unset, .unset, .unset, .unset, .unset, .unset, .unset] [(.int (1 : Int32)), (.int (p3 &&& (15 : Int32)))])) _
    refine XS.iadd X0.here hx rfl (hb hby at_6) rfl ?_
    show Steps p.tables e below (s₁.setTop (mkF m 7 #[.val (.long q1), .second, .val (.long q2), .second, .val (.int p3), .val (.int p4), .unset, .unset, .unset, .unset, .unset, .unset, .unset, .unset, .unset, .unset, .unset, .unset, .unset, .unset, .unset, .unset, .unset, .unset, .unset, .unset] [(.int ((p3 &&& (15 : Int32)) + (1 : Int32)))])) _
    refine XS.istore X0.here hx rfl (hb hby at_7) rfl (l' := #[.val (.long q1), .second, .val (.long q2), .second, .val (.int p3), .val (.int p4), .val (.int ((p3 &&& (15 : Int32)) + (1 : Int32))), .unset, .unset, .unset, .unset, .unset, .unset, .unset, .unset, .unset, .unset, .unset, .unset, .unset, .unset, .unset, .unset, .unset, .unset, .unset]) rfl ?_
    show Steps p.tables e below (s₁.setTop (mkF m 9 #[.val (.long q1), .second, .val (.long q2), .second, .val (.int p3), .val (.int p4), .val (.int ((p3 &&& (15 : Int32)) + (1 : Int32))), .unset, .unset, .unset, .unset, .unset, .unset, .unset, .unset, .unset, .unset, .unset, .unset, .unset, .unset, .unset, .unset, .unset, .unset, .unset] [])) _
    refine XS.iload X0.here hx rfl (hb hby at_9) rfl ?_
    show Steps p.tables e below (s₁.setTop (mkF m 11 #[.val (.long q1), .second, .val (.long q2), .second, .val (.int p3), .val (.int p4), .val (.int ((p3 &&& (15 : Int32)) + (1 : Int32))), .unset, .unset, .unset, .unset, .unset, .unset, .unset, .unset, .unset, .unset, .unset, .unset, .unset, .unset, .unset, .unset, .unset, .unset, .unset] [(.int p4)])) _
    refine XS.bipush X0.here hx rfl (hb hby at_11) ?_
    show Steps p.tables e below (s₁.setTop (mkF m 13 #[.val (.long q1), .second, .val (.long q2), .second, .val (.int p3), .val (.int p4), .val (.int ((p3 &&& (15 : Int32)) + (1 : Int32))), .unset, .unset, .unset, .unset, .unset, .unset, .unset, .unset, .unset, .unset, .unset, .unset, .unset, .unset, .unset, .unset, .unset, .unset, .unset] [(.int (31 : Int32)), (.int p4)])) _
    refine XS.iand X0.here hx rfl (hb hby at_13) rfl ?_
    show Steps p.tables e below (s₁.setTop (mkF m 14 #[.val (.long q1), .second, .val (.long q2), .second, .val (.int p3), .val (.int p4), .val (.int ((p3 &&& (15 : Int32)) + (1 : Int32))), .unset, .unset, .unset, .unset, .unset, .unset, .unset, .unset, .unset, .unset, .unset, .unset, .unset, .unset, .unset, .unset, .unset, .unset, .unset] [(.int (p4 &&& (31 : Int32)))])) _
    refine XS.istore X0.here hx rfl (hb hby at_14) rfl (l' := #[.val (.long q1), .second, .val (.long q2), .second, .val (.int p3), .val (.int p4), .val (.int ((p3 &&& (15 : Int32)) + (1 : Int32))), .val (.int (p4 &&& (31 : Int32))), .unset, .unset, .unset, .unset, .unset, .unset, .unset, .unset, .unset, .unset, .unset, .unset, .unset, .unset, .unset, .unset, .unset, .unset]) rfl ?_
    show Steps p.tables e below (s₁.setTop (mkF m 16 #[.val (.long q1), .second, .val (.long q2), .second, .val (.int p3), .val (.int p4), .val (.int ((p3 &&& (15 : Int32)) + (1 : Int32))), .val (.int (p4 &&& (31 : Int32))), .unset, .unset, .unset, .unset, .unset, .unset, .unset, .unset, .unset, .unset, .unset, .unset, .unset, .unset, .unset, .unset, .unset, .unset] [])) _
    refine XS.lloadN X0.here hx rfl (hb hby at_16) rfl ?_
    show Steps p.tables e below (s₁.setTop (mkF m 17 #[.val (.long q1), .second, .val (.long q2), .second, .val (.int p3), .val (.int p4), .val (.int ((p3 &&& (15 : Int32)) + (1 : Int32))), .val (.int (p4 &&& (31 : Int32))), .unset, .unset, .unset, .unset, .unset, .unset, .unset, .unset, .unset, .unset, .unset, .unset, .unset, .unset, .unset, .unset, .unset, .unset] [(.long q1)])) _
    refine XS.lstore X0.here hx rfl (hb hby at_17) rfl (l' := #[.val (.long q1), .second, .val (.long q2), .second, .val (.int p3), .val (.int p4), .val (.int ((p3 &&& (15 : Int32)) + (1 : Int32))), .val (.int (p4 &&& (31 : Int32))), .val (.long q1), .second, .unset, .unset, .unset, .unset, .unset, .unset, .unset, .unset, .unset, .unset, .unset, .unset, .unset, .unset, .unset, .unset]) rfl ?_
    show Steps p.tables e below (s₁.setTop (mkF m 19 #[.val (.long q1), .second, .val (.long q2), .second, .val (.int p3), .val (.int p4), .val (.int ((p3 &&& (15 : Int32)) + (1 : Int32))), .val (.int (p4 &&& (31 : Int32))), .val (.long q1), .second, .unset, .unset, .unset, .unset, .unset, .unset, .unset, .unset, .unset, .unset, .unset, .unset, .unset, .unset, .unset, .unset] [])) _
    refine XS.lloadN X0.here hx rfl (hb hby at_19) rfl ?_
    show Steps p.tables e below (s₁.setTop (mkF m 20 #[.val (.long q1), .second, .val (.long q2), .second, .val (.int p3), .val (.int p4), .val (.int ((p3 &&& (15 : Int32)) + (1 : Int32))), .val (.int (p4 &&& (31 : Int32))), .val (.long q1), .second, .unset, .unset, .unset, .unset, .unset, .unset, .unset, .unset, .unset, .unset, .unset, .unset, .unset, .unset, .unset, .unset] [(.long q2)])) _
    refine XS.lstore X0.here hx rfl (hb hby at_20) rfl (l' := #[.val (.long q1), .second, .val (.long q2), .second, .val (.int p3), .val (.int p4), .val (.int ((p3 &&& (15 : Int32)) + (1 : Int32))), .val (.int (p4 &&& (31 : Int32))), .val (.long q1), .second, .val (.long q2), .second, .unset, .unset, .unset, .unset, .unset, .unset, .unset, .unset, .unset, .unset, .unset, .unset, .unset, .unset]) rfl ?_
    exact kt)
  obtain ⟨k, hk, hk1, hk16⟩ := own_cnt p3
  obtain ⟨n, hn⟩ : ∃ z, ((p3 &&& (15 : Int32)) + (1 : Int32)) = z := ⟨_, rfl⟩
  rw [hn] at hk
  rw [hn] at pre1
  obtain ⟨tt, htt⟩ : ∃ z, (p4 &&& (31 : Int32)) = z := ⟨_, rfl⟩
  rw [htt] at pre1
  obtain ⟨T9, L9, hi, lo, X9, e9, N9, pre9⟩ : ∃ (T : State) (L : List Loc) (hi lo : Int64), Stand p l e room_1 s m #[(.long q1), (.long q2), (.int p3), (.int p4)] below meth c T L 0 0 ∧ T.heap = h0 ∧ Fr n0 L ∧ ∀ t, Steps p.tables e below (T.setTop (mkF m 67 #[.val (.long q1), .second, .val (.long q2), .second, .val (.int p3), .val (.int p4), .val (.int n), .val (.int tt), .val (.long hi), .second, .val (.long lo), .second, .unset, .unset, .unset, .unset, .unset, .unset, .unset, .unset, .unset, .unset, .unset, .unset, .unset, .unset] [])) t → Steps p.tables e below (s₁.setTop (entryFrame m #[(.long q1), (.long q2), (.int p3), (.int p4)] maxLocals)) t := by
    by_cases c1 : (16 : Int32) < tt
    · have pre2 : ∀ t, Steps p.tables e below (s₁.setTop (mkF m 67 #[.val (.long q1), .second, .val (.long q2), .second, .val (.int p3), .val (.int p4), .val (.int n), .val (.int tt), .val (.long q1), .second, .val (.long q2), .second, .unset, .unset, .unset, .unset, .unset, .unset, .unset, .unset, .unset, .unset, .unset, .unset, .unset, .unset] [])) t → Steps p.tables e below (s₁.setTop (entryFrame m #[(.long q1), (.long q2), (.int p3), (.int p4)] maxLocals)) t := fun t kt => pre1 t (by
        show Steps p.tables e below (s₁.setTop (mkF m 22 #[.val (.long q1), .second, .val (.long q2), .second, .val (.int p3), .val (.int p4), .val (.int n), .val (.int tt), .val (.long q1), .second, .val (.long q2), .second, .unset, .unset, .unset, .unset, .unset, .unset, .unset, .unset, .unset, .unset, .unset, .unset, .unset, .unset] [])) _
        refine XS.iload X0.here hx rfl (hb hby at_22) rfl ?_
        show Steps p.tables e below (s₁.setTop (mkF m 24 #[.val (.long q1), .second, .val (.long q2), .second, .val (.int p3), .val (.int p4), .val (.int n), .val (.int tt), .val (.long q1), .second, .val (.long q2), .second, .unset, .unset, .unset, .unset, .unset, .unset, .unset, .unset, .unset, .unset, .unset, .unset, .unset, .unset] [(.int tt)])) _
        refine XS.bipush X0.here hx rfl (hb hby at_24) ?_
        show Steps p.tables e below (s₁.setTop (mkF m 26 #[.val (.long q1), .second, .val (.long q2), .second, .val (.int p3), .val (.int p4), .val (.int n), .val (.int tt), .val (.long q1), .second, .val (.long q2), .second, .unset, .unset, .unset, .unset, .unset, .unset, .unset, .unset, .unset, .unset, .unset, .unset, .unset, .unset] [(.int (16 : Int32)), (.int tt)])) _
        refine XS.icmpYes X0.here hx rfl (pc0 := 26) (pc' := 67) rfl (hb hby at_26) rfl (tlt c1).2.2.1 (by decide) (by decide) ?_
        exact kt)
      exact ⟨_, _, _, _, X0, e0, N0, pre2⟩
    · by_cases c2 : tt < 8
      · have pre3 : ∀ t, Steps p.tables e below (s₁.setTop (mkF m 61 #[.val (.long q1), .second, .val (.long q2), .second, .val (.int p3), .val (.int p4), .val (.int n), .val (.int tt), .val (.long q1), .second, .val (.long q2), .second, .unset, .unset, .unset, .unset, .unset, .unset, .unset, .unset, .unset, .unset, .unset, .unset, .unset, .unset] [(.int tt), (.long q2)])) t → Steps p.tables e below (s₁.setTop (entryFrame m #[(.long q1), (.long q2), (.int p3), (.int p4)] maxLocals)) t := fun t kt => pre1 t (by
          show Steps p.tables e below (s₁.setTop (mkF m 22 #[.val (.long q1), .second, .val (.long q2), .second, .val (.int p3), .val (.int p4), .val (.int n), .val (.int tt), .val (.long q1), .second, .val (.long q2), .second, .unset, .unset, .unset, .unset, .unset, .unset, .unset, .unset, .unset, .unset, .unset, .unset, .unset, .unset] [])) _
          refine XS.iload X0.here hx rfl (hb hby at_22) rfl ?_
          show Steps p.tables e below (s₁.setTop (mkF m 24 #[.val (.long q1), .second, .val (.long q2), .second, .val (.int p3), .val (.int p4), .val (.int n), .val (.int tt), .val (.long q1), .second, .val (.long q2), .second, .unset, .unset, .unset, .unset, .unset, .unset, .unset, .unset, .unset, .unset, .unset, .unset, .unset, .unset] [(.int tt)])) _
          refine XS.bipush X0.here hx rfl (hb hby at_24) ?_
          show Steps p.tables e below (s₁.setTop (mkF m 26 #[.val (.long q1), .second, .val (.long q2), .second, .val (.int p3), .val (.int p4), .val (.int n), .val (.int tt), .val (.long q1), .second, .val (.long q2), .second, .unset, .unset, .unset, .unset, .unset, .unset, .unset, .unset, .unset, .unset, .unset, .unset, .unset, .unset] [(.int (16 : Int32)), (.int tt)])) _
          refine XS.icmpNo X0.here hx rfl (hb hby at_26) rfl (flt c1).2.2.1 ?_
          show Steps p.tables e below (s₁.setTop (mkF m 29 #[.val (.long q1), .second, .val (.long q2), .second, .val (.int p3), .val (.int p4), .val (.int n), .val (.int tt), .val (.long q1), .second, .val (.long q2), .second, .unset, .unset, .unset, .unset, .unset, .unset, .unset, .unset, .unset, .unset, .unset, .unset, .unset, .unset] [])) _
          refine XS.iload X0.here hx rfl (hb hby at_29) rfl ?_
          show Steps p.tables e below (s₁.setTop (mkF m 31 #[.val (.long q1), .second, .val (.long q2), .second, .val (.int p3), .val (.int p4), .val (.int n), .val (.int tt), .val (.long q1), .second, .val (.long q2), .second, .unset, .unset, .unset, .unset, .unset, .unset, .unset, .unset, .unset, .unset, .unset, .unset, .unset, .unset] [(.int tt)])) _
          refine XS.bipush X0.here hx rfl (hb hby at_31) ?_
          show Steps p.tables e below (s₁.setTop (mkF m 33 #[.val (.long q1), .second, .val (.long q2), .second, .val (.int p3), .val (.int p4), .val (.int n), .val (.int tt), .val (.long q1), .second, .val (.long q2), .second, .unset, .unset, .unset, .unset, .unset, .unset, .unset, .unset, .unset, .unset, .unset, .unset, .unset, .unset] [(.int (8 : Int32)), (.int tt)])) _
          refine XS.icmpYes X0.here hx rfl (pc0 := 33) (pc' := 57) rfl (hb hby at_33) rfl (tlt c2).1 (by decide) (by decide) ?_
          show Steps p.tables e below (s₁.setTop (mkF m 57 #[.val (.long q1), .second, .val (.long q2), .second, .val (.int p3), .val (.int p4), .val (.int n), .val (.int tt), .val (.long q1), .second, .val (.long q2), .second, .unset, .unset, .unset, .unset, .unset, .unset, .unset, .unset, .unset, .unset, .unset, .unset, .unset, .unset] [])) _
          refine XS.lload X0.here hx rfl (hb hby at_57) rfl ?_
          show Steps p.tables e below (s₁.setTop (mkF m 59 #[.val (.long q1), .second, .val (.long q2), .second, .val (.int p3), .val (.int p4), .val (.int n), .val (.int tt), .val (.long q1), .second, .val (.long q2), .second, .unset, .unset, .unset, .unset, .unset, .unset, .unset, .unset, .unset, .unset, .unset, .unset, .unset, .unset] [(.long q2)])) _
          refine XS.iload X0.here hx rfl (hb hby at_59) rfl ?_
          exact kt)
        obtain ⟨_, _, ⟨T4, L4, k4, n4⟩, -, X4, ⟨Lc4, hQ4, l4, y4, z4⟩, st4⟩ := Jvm.LawKit.callS X0 hx (y := (⟨"saltgrove/aes/CounterKeystreamIncrementPinLaw", "lowMask", "(I)J"⟩ : MethodName)) hown (mvT hZ (hw _ (List.mem_of_getElem? (i := 0) rfl))) (mvT hZ (hw _ (List.mem_of_getElem? (i := 1) rfl))) (mvT hZ (hw _ (List.mem_of_getElem? (i := 2) rfl))) (mvT hZ (hw _ (List.mem_of_getElem? (i := 3) rfl))) (by decide) (backOf (W := 2) (rm1 l Z a0 hw [] tt h0 n0 Z0) hZ (hw _ (List.mem_of_getElem? (i := 3) rfl)) (hw _ (List.mem_of_getElem? (i := 2) rfl)) (by decide) (by decide)) (g := (mkF m 61 #[.val (.long q1), .second, .val (.long q2), .second, .val (.int p3), .val (.int p4), .val (.int n), .val (.int tt), .val (.long q1), .second, .val (.long q2), .second, .unset, .unset, .unset, .unset, .unset, .unset, .unset, .unset, .unset, .unset, .unset, .unset, .unset, .unset] [(.int tt), (.long q2)])) rfl (by rw [hml]; rfl) (argsL := [(.int tt)]) (rest := [(.long q2)]) (lenOf pd_0_0 rfl) rfl (by show 2 * 0 + _ ≤ _; exact Nat.le_of_eq rfl) (hb hby at_61) (fun _ _ => ⟨rfl, e0, (by decide : 0 + 0 ≤ _), (by decide : 0 + 0 ≤ _)⟩)
        dsimp only [Pt.U, Pt.locs, Pt.cells, Pt.slots] at X4 l4 y4 z4 st4 hQ4
        subst l4 y4 z4
        obtain ⟨rfl, N4q, e4⟩ := hQ4
        have N4 := Fr.app N0 N4q
        have pre5 : ∀ t, Steps p.tables e below (T4.setTop (mkF m 64 #[.val (.long q1), .second, .val (.long q2), .second, .val (.int p3), .val (.int p4), .val (.int n), .val (.int tt), .val (.long q1), .second, .val (.long q2), .second, .unset, .unset, .unset, .unset, .unset, .unset, .unset, .unset, .unset, .unset, .unset, .unset, .unset, .unset] [(.long (own_lm tt)), (.long q2)])) t → Steps p.tables e below (s₁.setTop (entryFrame m #[(.long q1), (.long q2), (.int p3), (.int p4)] maxLocals)) t := fun t kt => pre3 t (st4 t kt)
        have pre6 : ∀ t, Steps p.tables e below (T4.setTop (mkF m 67 #[.val (.long q1), .second, .val (.long q2), .second, .val (.int p3), .val (.int p4), .val (.int n), .val (.int tt), .val (.long q1), .second, .val (.long (q2 ||| (own_lm tt))), .second, .unset, .unset, .unset, .unset, .unset, .unset, .unset, .unset, .unset, .unset, .unset, .unset, .unset, .unset] [])) t → Steps p.tables e below (s₁.setTop (entryFrame m #[(.long q1), (.long q2), (.int p3), (.int p4)] maxLocals)) t := fun t kt => pre5 t (by
          show Steps p.tables e below (T4.setTop (mkF m 64 #[.val (.long q1), .second, .val (.long q2), .second, .val (.int p3), .val (.int p4), .val (.int n), .val (.int tt), .val (.long q1), .second, .val (.long q2), .second, .unset, .unset, .unset, .unset, .unset, .unset, .unset, .unset, .unset, .unset, .unset, .unset, .unset, .unset] [(.long (own_lm tt)), (.long q2)])) _
          refine XS.lor X4.here hx rfl (hb hby at_64) rfl ?_
          show Steps p.tables e below (T4.setTop (mkF m 65 #[.val (.long q1), .second, .val (.long q2), .second, .val (.int p3), .val (.int p4), .val (.int n), .val (.int tt), .val (.long q1), .second, .val (.long q2), .second, .unset, .unset, .unset, .unset, .unset, .unset, .unset, .unset, .unset, .unset, .unset, .unset, .unset, .unset] [(.long (q2 ||| (own_lm tt)))])) _
          refine XS.lstore X4.here hx rfl (hb hby at_65) rfl (l' := #[.val (.long q1), .second, .val (.long q2), .second, .val (.int p3), .val (.int p4), .val (.int n), .val (.int tt), .val (.long q1), .second, .val (.long (q2 ||| (own_lm tt))), .second, .unset, .unset, .unset, .unset, .unset, .unset, .unset, .unset, .unset, .unset, .unset, .unset, .unset, .unset]) rfl ?_
          exact kt)
        exact ⟨_, _, _, _, X4, e4, N4, pre6⟩
      · have pre7 : ∀ t, Steps p.tables e below (s₁.setTop (mkF m 48 #[.val (.long q1), .second, .val (.long q2), .second, .val (.int p3), .val (.int p4), .val (.int n), .val (.int tt), .val (.long q1), .second, .val (.long (-1 : Int64)), .second, .unset, .unset, .unset, .unset, .unset, .unset, .unset, .unset, .unset, .unset, .unset, .unset, .unset, .unset] [(.int (tt - (8 : Int32))), (.long q1)])) t → Steps p.tables e below (s₁.setTop (entryFrame m #[(.long q1), (.long q2), (.int p3), (.int p4)] maxLocals)) t := fun t kt => pre1 t (by
          show Steps p.tables e below (s₁.setTop (mkF m 22 #[.val (.long q1), .second, .val (.long q2), .second, .val (.int p3), .val (.int p4), .val (.int n), .val (.int tt), .val (.long q1), .second, .val (.long q2), .second, .unset, .unset, .unset, .unset, .unset, .unset, .unset, .unset, .unset, .unset, .unset, .unset, .unset, .unset] [])) _
          refine XS.iload X0.here hx rfl (hb hby at_22) rfl ?_
          show Steps p.tables e below (s₁.setTop (mkF m 24 #[.val (.long q1), .second, .val (.long q2), .second, .val (.int p3), .val (.int p4), .val (.int n), .val (.int tt), .val (.long q1), .second, .val (.long q2), .second, .unset, .unset, .unset, .unset, .unset, .unset, .unset, .unset, .unset, .unset, .unset, .unset, .unset, .unset] [(.int tt)])) _
          refine XS.bipush X0.here hx rfl (hb hby at_24) ?_
          show Steps p.tables e below (s₁.setTop (mkF m 26 #[.val (.long q1), .second, .val (.long q2), .second, .val (.int p3), .val (.int p4), .val (.int n), .val (.int tt), .val (.long q1), .second, .val (.long q2), .second, .unset, .unset, .unset, .unset, .unset, .unset, .unset, .unset, .unset, .unset, .unset, .unset, .unset, .unset] [(.int (16 : Int32)), (.int tt)])) _
          refine XS.icmpNo X0.here hx rfl (hb hby at_26) rfl (flt c1).2.2.1 ?_
          show Steps p.tables e below (s₁.setTop (mkF m 29 #[.val (.long q1), .second, .val (.long q2), .second, .val (.int p3), .val (.int p4), .val (.int n), .val (.int tt), .val (.long q1), .second, .val (.long q2), .second, .unset, .unset, .unset, .unset, .unset, .unset, .unset, .unset, .unset, .unset, .unset, .unset, .unset, .unset] [])) _
          refine XS.iload X0.here hx rfl (hb hby at_29) rfl ?_
          show Steps p.tables e below (s₁.setTop (mkF m 31 #[.val (.long q1), .second, .val (.long q2), .second, .val (.int p3), .val (.int p4), .val (.int n), .val (.int tt), .val (.long q1), .second, .val (.long q2), .second, .unset, .unset, .unset, .unset, .unset, .unset, .unset, .unset, .unset, .unset, .unset, .unset, .unset, .unset] [(.int tt)])) _
          refine XS.bipush X0.here hx rfl (hb hby at_31) ?_
          show Steps p.tables e below (s₁.setTop (mkF m 33 #[.val (.long q1), .second, .val (.long q2), .second, .val (.int p3), .val (.int p4), .val (.int n), .val (.int tt), .val (.long q1), .second, .val (.long q2), .second, .unset, .unset, .unset, .unset, .unset, .unset, .unset, .unset, .unset, .unset, .unset, .unset, .unset, .unset] [(.int (8 : Int32)), (.int tt)])) _
          refine XS.icmpNo X0.here hx rfl (hb hby at_33) rfl (flt c2).1 ?_
          show Steps p.tables e below (s₁.setTop (mkF m 36 #[.val (.long q1), .second, .val (.long q2), .second, .val (.int p3), .val (.int p4), .val (.int n), .val (.int tt), .val (.long q1), .second, .val (.long q2), .second, .unset, .unset, .unset, .unset, .unset, .unset, .unset, .unset, .unset, .unset, .unset, .unset, .unset, .unset] [])) _
          refine X0.ldc2Long hx hown (mvT hZ (hw _ (List.mem_of_getElem? (i := 31) rfl))) (g := (mkF m 36 #[.val (.long q1), .second, .val (.long q2), .second, .val (.int p3), .val (.int p4), .val (.int n), .val (.int tt), .val (.long q1), .second, .val (.long q2), .second, .unset, .unset, .unset, .unset, .unset, .unset, .unset, .unset, .unset, .unset, .unset, .unset, .unset, .unset] [])) rfl (hb hby at_36) _ ?_
          show Steps p.tables e below (s₁.setTop (mkF m 39 #[.val (.long q1), .second, .val (.long q2), .second, .val (.int p3), .val (.int p4), .val (.int n), .val (.int tt), .val (.long q1), .second, .val (.long q2), .second, .unset, .unset, .unset, .unset, .unset, .unset, .unset, .unset, .unset, .unset, .unset, .unset, .unset, .unset] [(.long (-1 : Int64))])) _
          refine XS.lstore X0.here hx rfl (hb hby at_39) rfl (l' := #[.val (.long q1), .second, .val (.long q2), .second, .val (.int p3), .val (.int p4), .val (.int n), .val (.int tt), .val (.long q1), .second, .val (.long (-1 : Int64)), .second, .unset, .unset, .unset, .unset, .unset, .unset, .unset, .unset, .unset, .unset, .unset, .unset, .unset, .unset]) rfl ?_
          show Steps p.tables e below (s₁.setTop (mkF m 41 #[.val (.long q1), .second, .val (.long q2), .second, .val (.int p3), .val (.int p4), .val (.int n), .val (.int tt), .val (.long q1), .second, .val (.long (-1 : Int64)), .second, .unset, .unset, .unset, .unset, .unset, .unset, .unset, .unset, .unset, .unset, .unset, .unset, .unset, .unset] [])) _
          refine XS.lload X0.here hx rfl (hb hby at_41) rfl ?_
          show Steps p.tables e below (s₁.setTop (mkF m 43 #[.val (.long q1), .second, .val (.long q2), .second, .val (.int p3), .val (.int p4), .val (.int n), .val (.int tt), .val (.long q1), .second, .val (.long (-1 : Int64)), .second, .unset, .unset, .unset, .unset, .unset, .unset, .unset, .unset, .unset, .unset, .unset, .unset, .unset, .unset] [(.long q1)])) _
          refine XS.iload X0.here hx rfl (hb hby at_43) rfl ?_
          show Steps p.tables e below (s₁.setTop (mkF m 45 #[.val (.long q1), .second, .val (.long q2), .second, .val (.int p3), .val (.int p4), .val (.int n), .val (.int tt), .val (.long q1), .second, .val (.long (-1 : Int64)), .second, .unset, .unset, .unset, .unset, .unset, .unset, .unset, .unset, .unset, .unset, .unset, .unset, .unset, .unset] [(.int tt), (.long q1)])) _
          refine XS.bipush X0.here hx rfl (hb hby at_45) ?_
          show Steps p.tables e below (s₁.setTop (mkF m 47 #[.val (.long q1), .second, .val (.long q2), .second, .val (.int p3), .val (.int p4), .val (.int n), .val (.int tt), .val (.long q1), .second, .val (.long (-1 : Int64)), .second, .unset, .unset, .unset, .unset, .unset, .unset, .unset, .unset, .unset, .unset, .unset, .unset, .unset, .unset] [(.int (8 : Int32)), (.int tt), (.long q1)])) _
          refine XS.isub X0.here hx rfl (hb hby at_47) rfl ?_
          exact kt)
        obtain ⟨_, _, ⟨T8, L8, k8, n8⟩, -, X8, ⟨Lc8, hQ8, l8, y8, z8⟩, st8⟩ := Jvm.LawKit.callS X0 hx (y := (⟨"saltgrove/aes/CounterKeystreamIncrementPinLaw", "lowMask", "(I)J"⟩ : MethodName)) hown (mvT hZ (hw _ (List.mem_of_getElem? (i := 0) rfl))) (mvT hZ (hw _ (List.mem_of_getElem? (i := 1) rfl))) (mvT hZ (hw _ (List.mem_of_getElem? (i := 2) rfl))) (mvT hZ (hw _ (List.mem_of_getElem? (i := 3) rfl))) (by decide) (backOf (W := 2) (rm1 l Z a0 hw [] (tt - (8 : Int32)) h0 n0 Z0) hZ (hw _ (List.mem_of_getElem? (i := 3) rfl)) (hw _ (List.mem_of_getElem? (i := 2) rfl)) (by decide) (by decide)) (g := (mkF m 48 #[.val (.long q1), .second, .val (.long q2), .second, .val (.int p3), .val (.int p4), .val (.int n), .val (.int tt), .val (.long q1), .second, .val (.long (-1 : Int64)), .second, .unset, .unset, .unset, .unset, .unset, .unset, .unset, .unset, .unset, .unset, .unset, .unset, .unset, .unset] [(.int (tt - (8 : Int32))), (.long q1)])) rfl (by rw [hml]; rfl) (argsL := [(.int (tt - (8 : Int32)))]) (rest := [(.long q1)]) (lenOf pd_0_0 rfl) rfl (by show 2 * 0 + _ ≤ _; exact Nat.le_of_eq rfl) (hb hby at_48) (fun _ _ => ⟨rfl, e0, (by decide : 0 + 0 ≤ _), (by decide : 0 + 0 ≤ _)⟩)
        dsimp only [Pt.U, Pt.locs, Pt.cells, Pt.slots] at X8 l8 y8 z8 st8 hQ8
        subst l8 y8 z8
        obtain ⟨rfl, N8q, e8⟩ := hQ8
        have N8 := Fr.app N0 N8q
        have pre9 : ∀ t, Steps p.tables e below (T8.setTop (mkF m 51 #[.val (.long q1), .second, .val (.long q2), .second, .val (.int p3), .val (.int p4), .val (.int n), .val (.int tt), .val (.long q1), .second, .val (.long (-1 : Int64)), .second, .unset, .unset, .unset, .unset, .unset, .unset, .unset, .unset, .unset, .unset, .unset, .unset, .unset, .unset] [(.long (own_lm (tt - (8 : Int32)))), (.long q1)])) t → Steps p.tables e below (s₁.setTop (entryFrame m #[(.long q1), (.long q2), (.int p3), (.int p4)] maxLocals)) t := fun t kt => pre7 t (st8 t kt)
        have pre10 : ∀ t, Steps p.tables e below (T8.setTop (mkF m 67 #[.val (.long q1), .second, .val (.long q2), .second, .val (.int p3), .val (.int p4), .val (.int n), .val (.int tt), .val (.long (q1 ||| (own_lm (tt - (8 : Int32))))), .second, .val (.long (-1 : Int64)), .second, .unset, .unset, .unset, .unset, .unset, .unset, .unset, .unset, .unset, .unset, .unset, .unset, .unset, .unset] [])) t → Steps p.tables e below (s₁.setTop (entryFrame m #[(.long q1), (.long q2), (.int p3), (.int p4)] maxLocals)) t := fun t kt => pre9 t (by
          show Steps p.tables e below (T8.setTop (mkF m 51 #[.val (.long q1), .second, .val (.long q2), .second, .val (.int p3), .val (.int p4), .val (.int n), .val (.int tt), .val (.long q1), .second, .val (.long (-1 : Int64)), .second, .unset, .unset, .unset, .unset, .unset, .unset, .unset, .unset, .unset, .unset, .unset, .unset, .unset, .unset] [(.long (own_lm (tt - (8 : Int32)))), (.long q1)])) _
          refine XS.lor X8.here hx rfl (hb hby at_51) rfl ?_
          show Steps p.tables e below (T8.setTop (mkF m 52 #[.val (.long q1), .second, .val (.long q2), .second, .val (.int p3), .val (.int p4), .val (.int n), .val (.int tt), .val (.long q1), .second, .val (.long (-1 : Int64)), .second, .unset, .unset, .unset, .unset, .unset, .unset, .unset, .unset, .unset, .unset, .unset, .unset, .unset, .unset] [(.long (q1 ||| (own_lm (tt - (8 : Int32)))))])) _
          refine XS.lstore X8.here hx rfl (hb hby at_52) rfl (l' := #[.val (.long q1), .second, .val (.long q2), .second, .val (.int p3), .val (.int p4), .val (.int n), .val (.int tt), .val (.long (q1 ||| (own_lm (tt - (8 : Int32))))), .second, .val (.long (-1 : Int64)), .second, .unset, .unset, .unset, .unset, .unset, .unset, .unset, .unset, .unset, .unset, .unset, .unset, .unset, .unset]) rfl ?_
          show Steps p.tables e below (T8.setTop (mkF m 54 #[.val (.long q1), .second, .val (.long q2), .second, .val (.int p3), .val (.int p4), .val (.int n), .val (.int tt), .val (.long (q1 ||| (own_lm (tt - (8 : Int32))))), .second, .val (.long (-1 : Int64)), .second, .unset, .unset, .unset, .unset, .unset, .unset, .unset, .unset, .unset, .unset, .unset, .unset, .unset, .unset] [])) _
          refine XS.goto X8.here hx rfl (pc0 := 54) (pc' := 67) rfl (hb hby at_54) (by decide) (by decide) ?_
          exact kt)
        exact ⟨_, _, _, _, X8, e8, N8, pre10⟩
  have pre11 : ∀ t, Steps p.tables e below (T9.setTop (mkF m 69 #[.val (.long q1), .second, .val (.long q2), .second, .val (.int p3), .val (.int p4), .val (.int n), .val (.int tt), .val (.long hi), .second, .val (.long lo), .second, .unset, .unset, .unset, .unset, .unset, .unset, .unset, .unset, .unset, .unset, .unset, .unset, .unset, .unset] [(.int (16 : Int32))])) t → Steps p.tables e below (s₁.setTop (entryFrame m #[(.long q1), (.long q2), (.int p3), (.int p4)] maxLocals)) t := fun t kt => pre9 t (by
    show Steps p.tables e below (T9.setTop (mkF m 67 #[.val (.long q1), .second, .val (.long q2), .second, .val (.int p3), .val (.int p4), .val (.int n), .val (.int tt), .val (.long hi), .second, .val (.long lo), .second, .unset, .unset, .unset, .unset, .unset, .unset, .unset, .unset, .unset, .unset, .unset, .unset, .unset, .unset] [])) _
    refine XS.bipush X9.here hx rfl (hb hby at_67) ?_
    exact kt)
  obtain ⟨T12, h12, X12, e12, E12, B12, A12, st12⟩ := own_bnew X9 hx hZ (hw _ (List.mem_of_getElem? (i := 4) rfl)) e9 (g := (mkF m 69 #[.val (.long q1), .second, .val (.long q2), .second, .val (.int p3), .val (.int p4), .val (.int n), .val (.int tt), .val (.long hi), .second, .val (.long lo), .second, .unset, .unset, .unset, .unset, .unset, .unset, .unset, .unset, .unset, .unset, .unset, .unset, .unset, .unset] [(.int (16 : Int32))])) rfl (hb hby at_69) rfl (n := 16) (by decide) (by decide) (by decide) (by decide)
  obtain ⟨b12, g12⟩ : ∃ z, z = h0.size := ⟨_, rfl⟩
  rw [← g12] at B12 A12 st12
  have pre13 : ∀ t, Steps p.tables e below (T12.setTop (mkF m 71 #[.val (.long q1), .second, .val (.long q2), .second, .val (.int p3), .val (.int p4), .val (.int n), .val (.int tt), .val (.long hi), .second, .val (.long lo), .second, .unset, .unset, .unset, .unset, .unset, .unset, .unset, .unset, .unset, .unset, .unset, .unset, .unset, .unset] [(.ref b12)])) t → Steps p.tables e below (s₁.setTop (entryFrame m #[(.long q1), (.long q2), (.int p3), (.int p4)] maxLocals)) t := fun t kt => pre11 t (st12 t kt)
  have gb : n0 ≤ b12 := Nat.le_trans Z0 (Nat.le_of_eq g12.symm)
  have Za : n0 ≤ h12.size := Nat.le_trans Z0 E12.1
  have pre14 : ∀ t, Steps p.tables e below (T12.setTop (mkF m 78 #[.val (.long q1), .second, .val (.long q2), .second, .val (.int p3), .val (.int p4), .val (.int n), .val (.int tt), .val (.long hi), .second, .val (.long lo), .second, .val (.ref b12), .unset, .unset, .unset, .unset, .unset, .unset, .unset, .unset, .unset, .unset, .unset, .unset, .unset] [(.long hi), (.int (0 : Int32)), (.ref b12)])) t → Steps p.tables e below (s₁.setTop (entryFrame m #[(.long q1), (.long q2), (.int p3), (.int p4)] maxLocals)) t := fun t kt => pre13 t (by
    show Steps p.tables e below (T12.setTop (mkF m 71 #[.val (.long q1), .second, .val (.long q2), .second, .val (.int p3), .val (.int p4), .val (.int n), .val (.int tt), .val (.long hi), .second, .val (.long lo), .second, .unset, .unset, .unset, .unset, .unset, .unset, .unset, .unset, .unset, .unset, .unset, .unset, .unset, .unset] [(.ref b12)])) _
    refine XS.astore X12.here hx rfl (hb hby at_71) rfl rfl (l' := #[.val (.long q1), .second, .val (.long q2), .second, .val (.int p3), .val (.int p4), .val (.int n), .val (.int tt), .val (.long hi), .second, .val (.long lo), .second, .val (.ref b12), .unset, .unset, .unset, .unset, .unset, .unset, .unset, .unset, .unset, .unset, .unset, .unset, .unset]) rfl ?_
    show Steps p.tables e below (T12.setTop (mkF m 73 #[.val (.long q1), .second, .val (.long q2), .second, .val (.int p3), .val (.int p4), .val (.int n), .val (.int tt), .val (.long hi), .second, .val (.long lo), .second, .val (.ref b12), .unset, .unset, .unset, .unset, .unset, .unset, .unset, .unset, .unset, .unset, .unset, .unset, .unset] [])) _
    refine XS.aload X12.here hx rfl (hb hby at_73) rfl rfl ?_
    show Steps p.tables e below (T12.setTop (mkF m 75 #[.val (.long q1), .second, .val (.long q2), .second, .val (.int p3), .val (.int p4), .val (.int n), .val (.int tt), .val (.long hi), .second, .val (.long lo), .second, .val (.ref b12), .unset, .unset, .unset, .unset, .unset, .unset, .unset, .unset, .unset, .unset, .unset, .unset, .unset] [(.ref b12)])) _
    refine XS.iconst X12.here hx rfl (hb hby at_75) ?_
    show Steps p.tables e below (T12.setTop (mkF m 76 #[.val (.long q1), .second, .val (.long q2), .second, .val (.int p3), .val (.int p4), .val (.int n), .val (.int tt), .val (.long hi), .second, .val (.long lo), .second, .val (.ref b12), .unset, .unset, .unset, .unset, .unset, .unset, .unset, .unset, .unset, .unset, .unset, .unset, .unset] [(.int (0 : Int32)), (.ref b12)])) _
    refine XS.lload X12.here hx rfl (hb hby at_76) rfl ?_
    exact kt)
  obtain ⟨_, _, ⟨T15, L15, k15, n15⟩, -, X15, ⟨Lc15, hQ15, l15, y15, z15⟩, st15⟩ := Jvm.LawKit.callS X12 hx (y := (⟨"saltgrove/aes/CounterKeystreamIncrementPinLaw", "put", "([BIJ)V"⟩ : MethodName)) hown (mvT hZ (hw _ (List.mem_of_getElem? (i := 5) rfl))) (mvT hZ (hw _ (List.mem_of_getElem? (i := 6) rfl))) (mvT hZ (hw _ (List.mem_of_getElem? (i := 2) rfl))) (mvT hZ (hw _ (List.mem_of_getElem? (i := 7) rfl))) (by decide) (backOf (W := 0) (rm2 l Z a0 hw [] b12 (0 : Int32) hi 0 _ h12 n0 Za B12 gb (by decide) (by decide)) hZ (hw _ (List.mem_of_getElem? (i := 7) rfl)) (hw _ (List.mem_of_getElem? (i := 2) rfl)) (by decide) (by decide)) (g := (mkF m 78 #[.val (.long q1), .second, .val (.long q2), .second, .val (.int p3), .val (.int p4), .val (.int n), .val (.int tt), .val (.long hi), .second, .val (.long lo), .second, .val (.ref b12), .unset, .unset, .unset, .unset, .unset, .unset, .unset, .unset, .unset, .unset, .unset, .unset, .unset] [(.long hi), (.int (0 : Int32)), (.ref b12)])) rfl (by rw [hml]; rfl) (argsL := [(.ref b12), (.int (0 : Int32)), (.long hi)]) (rest := []) (lenOf pd_0_1 rfl) rfl (by show 2 * 0 + _ ≤ _; exact Nat.le_of_eq rfl) (hb hby at_78) (fun _ _ => ⟨rfl, e12, (by decide : 1 + 0 ≤ _), (by decide : 16 + 0 ≤ _)⟩)
  dsimp only [Pt.U, Pt.locs, Pt.cells, Pt.slots] at X15 l15 y15 z15 st15 hQ15
  subst l15 y15 z15
  obtain ⟨rfl, N15q, K15, B15⟩ := hQ15
  have N15 := Fr.app N9 N15q
  have pre16 : ∀ t, Steps p.tables e below (T15.setTop (mkF m 81 #[.val (.long q1), .second, .val (.long q2), .second, .val (.int p3), .val (.int p4), .val (.int n), .val (.int tt), .val (.long hi), .second, .val (.long lo), .second, .val (.ref b12), .unset, .unset, .unset, .unset, .unset, .unset, .unset, .unset, .unset, .unset, .unset, .unset, .unset] [])) t → Steps p.tables e below (s₁.setTop (entryFrame m #[(.long q1), (.long q2), (.int p3), (.int p4)] maxLocals)) t := fun t kt => pre14 t (st15 t kt)
  have Zb : n0 ≤ T15.heap.size := Nat.le_trans Za K15.1
  have pre17 : ∀ t, Steps p.tables e below (T15.setTop (mkF m 87 #[.val (.long q1), .second, .val (.long q2), .second, .val (.int p3), .val (.int p4), .val (.int n), .val (.int tt), .val (.long hi), .second, .val (.long lo), .second, .val (.ref b12), .unset, .unset, .unset, .unset, .unset, .unset, .unset, .unset, .unset, .unset, .unset, .unset, .unset] [(.long lo), (.int (8 : Int32)), (.ref b12)])) t → Steps p.tables e below (s₁.setTop (entryFrame m #[(.long q1), (.long q2), (.int p3), (.int p4)] maxLocals)) t := fun t kt => pre16 t (by
    show Steps p.tables e below (T15.setTop (mkF m 81 #[.val (.long q1), .second, .val (.long q2), .second, .val (.int p3), .val (.int p4), .val (.int n), .val (.int tt), .val (.long hi), .second, .val (.long lo), .second, .val (.ref b12), .unset, .unset, .unset, .unset, .unset, .unset, .unset, .unset, .unset, .unset, .unset, .unset, .unset] [])) _
    refine XS.aload X15.here hx rfl (hb hby at_81) rfl rfl ?_
    show Steps p.tables e below (T15.setTop (mkF m 83 #[.val (.long q1), .second, .val (.long q2), .second, .val (.int p3), .val (.int p4), .val (.int n), .val (.int tt), .val (.long hi), .second, .val (.long lo), .second, .val (.ref b12), .unset, .unset, .unset, .unset, .unset, .unset, .unset, .unset, .unset, .unset, .unset, .unset, .unset] [(.ref b12)])) _
    refine XS.bipush X15.here hx rfl (hb hby at_83) ?_
    show Steps p.tables e below (T15.setTop (mkF m 85 #[.val (.long q1), .second, .val (.long q2), .second, .val (.int p3), .val (.int p4), .val (.int n), .val (.int tt), .val (.long hi), .second, .val (.long lo), .second, .val (.ref b12), .unset, .unset, .unset, .unset, .unset, .unset, .unset, .unset, .unset, .unset, .unset, .unset, .unset] [(.int (8 : Int32)), (.ref b12)])) _
    refine XS.lload X15.here hx rfl (hb hby at_85) rfl ?_
    exact kt)
  obtain ⟨_, _, ⟨T18, L18, k18, n18⟩, -, X18, ⟨Lc18, hQ18, l18, y18, z18⟩, st18⟩ := Jvm.LawKit.callS X15 hx (y := (⟨"saltgrove/aes/CounterKeystreamIncrementPinLaw", "put", "([BIJ)V"⟩ : MethodName)) hown (mvT hZ (hw _ (List.mem_of_getElem? (i := 5) rfl))) (mvT hZ (hw _ (List.mem_of_getElem? (i := 6) rfl))) (mvT hZ (hw _ (List.mem_of_getElem? (i := 2) rfl))) (mvT hZ (hw _ (List.mem_of_getElem? (i := 7) rfl))) (by decide) (backOf (W := 0) (rm2 l Z a0 hw [] b12 (8 : Int32) lo 8 _ T15.heap n0 Zb B15 gb (by decide) (by decide)) hZ (hw _ (List.mem_of_getElem? (i := 7) rfl)) (hw _ (List.mem_of_getElem? (i := 2) rfl)) (by decide) (by decide)) (g := (mkF m 87 #[.val (.long q1), .second, .val (.long q2), .second, .val (.int p3), .val (.int p4), .val (.int n), .val (.int tt), .val (.long hi), .second, .val (.long lo), .second, .val (.ref b12), .unset, .unset, .unset, .unset, .unset, .unset, .unset, .unset, .unset, .unset, .unset, .unset, .unset] [(.long lo), (.int (8 : Int32)), (.ref b12)])) rfl (by rw [hml]; rfl) (argsL := [(.ref b12), (.int (8 : Int32)), (.long lo)]) (rest := []) (lenOf pd_0_1 rfl) rfl (by show 2 * 0 + _ ≤ _; exact Nat.le_of_eq rfl) (hb hby at_87) (fun _ _ => ⟨rfl, rfl, (by decide : 1 + 0 ≤ _), (by decide : 16 + 0 ≤ _)⟩)
  dsimp only [Pt.U, Pt.locs, Pt.cells, Pt.slots] at X18 l18 y18 z18 st18 hQ18
  subst l18 y18 z18
  obtain ⟨rfl, N18q, K18, B18⟩ := hQ18
  have N18 := Fr.app N15 N18q
  have pre19 : ∀ t, Steps p.tables e below (T18.setTop (mkF m 90 #[.val (.long q1), .second, .val (.long q2), .second, .val (.int p3), .val (.int p4), .val (.int n), .val (.int tt), .val (.long hi), .second, .val (.long lo), .second, .val (.ref b12), .unset, .unset, .unset, .unset, .unset, .unset, .unset, .unset, .unset, .unset, .unset, .unset, .unset] [])) t → Steps p.tables e below (s₁.setTop (entryFrame m #[(.long q1), (.long q2), (.int p3), (.int p4)] maxLocals)) t := fun t kt => pre17 t (st18 t kt)
  have Zc : n0 ≤ T18.heap.size := Nat.le_trans Zb K18.1
  obtain ⟨f, hf⟩ : ∃ z, own_put lo (own_put hi (fun _ => 0) 0) 8 = z := ⟨_, rfl⟩
  rw [hf] at B18
  have hlo : own_L 15 f 8 = lo.toInt % 18446744073709551616 := own_num lo f 8 (by rw [← hf]; exact own_put0 _ _ 8) (by rw [← hf]; exact own_put1 _ _ 8) (by rw [← hf]; exact own_put2 _ _ 8) (by rw [← hf]; exact own_put3 _ _ 8) (by rw [← hf]; exact own_put4 _ _ 8) (by rw [← hf]; exact own_put5 _ _ 8) (by rw [← hf]; exact own_put6 _ _ 8) (by rw [← hf]; exact own_put7 _ _ 8)
  have hhi : own_L 7 f 8 = hi.toInt % 18446744073709551616 := own_num hi f 0 (by rw [← hf, own_putu _ _ _ _ (by omega)]; exact own_put0 _ _ 0) (by rw [← hf, own_putu _ _ _ _ (by omega)]; exact own_put1 _ _ 0) (by rw [← hf, own_putu _ _ _ _ (by omega)]; exact own_put2 _ _ 0) (by rw [← hf, own_putu _ _ _ _ (by omega)]; exact own_put3 _ _ 0) (by rw [← hf, own_putu _ _ _ _ (by omega)]; exact own_put4 _ _ 0) (by rw [← hf, own_putu _ _ _ _ (by omega)]; exact own_put5 _ _ 0) (by rw [← hf, own_putu _ _ _ _ (by omega)]; exact own_put6 _ _ 0) (by rw [← hf, own_putu _ _ _ _ (by omega)]; exact own_put7 _ _ 0)
  obtain ⟨T20, h20, X20, e20, E20, A20, D20, -, st20⟩ := newO X18 hx hZ hown (hw _ (List.mem_of_getElem? (i := 8) rfl)) (hw _ (List.mem_of_getElem? (i := 9) rfl)) (hw _ (List.mem_of_getElem? (i := 10) rfl)) rfl (g := (mkF m 90 #[.val (.long q1), .second, .val (.long q2), .second, .val (.int p3), .val (.int p4), .val (.int n), .val (.int tt), .val (.long hi), .second, .val (.long lo), .second, .val (.ref b12), .unset, .unset, .unset, .unset, .unset, .unset, .unset, .unset, .unset, .unset, .unset, .unset, .unset] [])) rfl (hb hby at_90) (by decide) (by decide)
  obtain ⟨b20, g20⟩ : ∃ z, z = T18.heap.size := ⟨_, rfl⟩
  rw [← g20] at A20 D20 st20
  have pre21 : ∀ t, Steps p.tables e below (T20.setTop (mkF m 93 #[.val (.long q1), .second, .val (.long q2), .second, .val (.int p3), .val (.int p4), .val (.int n), .val (.int tt), .val (.long hi), .second, .val (.long lo), .second, .val (.ref b12), .unset, .unset, .unset, .unset, .unset, .unset, .unset, .unset, .unset, .unset, .unset, .unset, .unset] [(.ref b20)])) t → Steps p.tables e below (s₁.setTop (entryFrame m #[(.long q1), (.long q2), (.int p3), (.int p4)] maxLocals)) t := fun t kt => pre19 t (st20 t kt)
  have Bn := B18.ext E20
  have hne : b20 ≠ b12 := by rw [g20]; exact Nat.ne_of_gt B18.lt
  have gc : n0 ≤ b20 := Nat.le_trans Zc (Nat.le_of_eq g20.symm)
  have Zd : n0 ≤ h20.size := Nat.le_trans Zc E20.1
  have F_counter : Fld Z h20 b20 "saltgrove/aes/CounterKeystream" "counter" "[B" .null := D20 (Or.inr (hw _ (List.mem_of_getElem? (i := 18) rfl))) (ty := (.array .byte)) (by decide)
  have F_keystream : Fld Z h20 b20 "saltgrove/aes/CounterKeystream" "keystream" "[B" .null := D20 (Or.inr (hw _ (List.mem_of_getElem? (i := 20) rfl))) (ty := (.array .byte)) (by decide)
  have F_counterBytes : Fld Z h20 b20 "saltgrove/aes/CounterKeystream" "counterBytes" "I" (.int (0 : Int32)) := D20 (Or.inr (hw _ (List.mem_of_getElem? (i := 22) rfl))) (ty := .int) (by decide)
  have c1 : ¬ n < 1 := own_n1 hk hk1
  have c2 : ¬ (16 : Int32) < n := own_n16 hk hk16
  have pre22 : ∀ t, Steps p.tables e below (T20.setTop (mkF m 96 #[.val (.long q1), .second, .val (.long q2), .second, .val (.int p3), .val (.int p4), .val (.int n), .val (.int tt), .val (.long hi), .second, .val (.long lo), .second, .val (.ref b12), .unset, .unset, .unset, .unset, .unset, .unset, .unset, .unset, .unset, .unset, .unset, .unset, .unset] [(.int n), (.ref b20), (.ref b20)])) t → Steps p.tables e below (s₁.setTop (entryFrame m #[(.long q1), (.long q2), (.int p3), (.int p4)] maxLocals)) t := fun t kt => pre21 t (by
    show Steps p.tables e below (T20.setTop (mkF m 93 #[.val (.long q1), .second, .val (.long q2), .second, .val (.int p3), .val (.int p4), .val (.int n), .val (.int tt), .val (.long hi), .second, .val (.long lo), .second, .val (.ref b12), .unset, .unset, .unset, .unset, .unset, .unset, .unset, .unset, .unset, .unset, .unset, .unset, .unset] [(.ref b20)])) _
    refine XS.dup X20.here hx rfl (hb hby at_93) rfl rfl ?_
    show Steps p.tables e below (T20.setTop (mkF m 94 #[.val (.long q1), .second, .val (.long q2), .second, .val (.int p3), .val (.int p4), .val (.int n), .val (.int tt), .val (.long hi), .second, .val (.long lo), .second, .val (.ref b12), .unset, .unset, .unset, .unset, .unset, .unset, .unset, .unset, .unset, .unset, .unset, .unset, .unset] [(.ref b20), (.ref b20)])) _
    refine XS.iload X20.here hx rfl (hb hby at_94) rfl ?_
    exact kt)
  obtain ⟨_, _, ⟨T23, L23, k23, n23⟩, -, X23, ⟨Lc23, hQ23, l23, y23, z23⟩, st23⟩ := X20.specialBack hx (y := (⟨"saltgrove/aes/CounterKeystream", "<init>", "(I)V"⟩ : MethodName)) rfl hown (mvT hZ (hw _ (List.mem_of_getElem? (i := 11) rfl))) (mvT hZ (hw _ (List.mem_of_getElem? (i := 12) rfl))) (mvT hZ (hw _ (List.mem_of_getElem? (i := 13) rfl))) (by decide) (backOf (W := 1) (rm3 l Z a0 hw [] b20 n h20 n0 Zd A20 F_counter F_keystream F_counterBytes gc c1 c2) hZ (hw _ (List.mem_of_getElem? (i := 13) rfl)) (hw _ (List.mem_of_getElem? (i := 10) rfl)) (by decide) (by decide)) (g := (mkF m 96 #[.val (.long q1), .second, .val (.long q2), .second, .val (.int p3), .val (.int p4), .val (.int n), .val (.int tt), .val (.long hi), .second, .val (.long lo), .second, .val (.ref b12), .unset, .unset, .unset, .unset, .unset, .unset, .unset, .unset, .unset, .unset, .unset, .unset, .unset] [(.int n), (.ref b20), (.ref b20)])) rfl (by rw [hml]; rfl) (Steps.refl _) (a := b20) (argsL := [(.int n)]) (rest := [(.ref b20)]) (lenOf pd_0_2 rfl) rfl (by show 2 * 0 + _ ≤ _; exact Nat.le_of_eq rfl) (hb hby at_96) (fun _ _ => ⟨rfl, e20, (by decide : 2 + 2 ≤ _), (by decide : 22 + 528 ≤ _)⟩)
  dsimp only [Pt.U, Pt.locs, Pt.cells, Pt.slots] at X23 l23 y23 z23 st23 hQ23
  subst l23 y23 z23
  obtain ⟨rfl, N23q, K23, Ex23, Fx23⟩ := hQ23
  have N23 := Fr.app N18 N23q
  have pre24 : ∀ t, Steps p.tables e below (T23.setTop (mkF m 99 #[.val (.long q1), .second, .val (.long q2), .second, .val (.int p3), .val (.int p4), .val (.int n), .val (.int tt), .val (.long hi), .second, .val (.long lo), .second, .val (.ref b12), .unset, .unset, .unset, .unset, .unset, .unset, .unset, .unset, .unset, .unset, .unset, .unset, .unset] [(.ref b20)])) t → Steps p.tables e below (s₁.setTop (entryFrame m #[(.long q1), (.long q2), (.int p3), (.int p4)] maxLocals)) t := fun t kt => pre22 t (st23.trans kt)
  have Bo := Bn.keep K23 (ninS (Ne.symm hne) nin0)
  have Ze : n0 ≤ T23.heap.size := Nat.le_trans Zd K23.1
  have pre25 : ∀ t, Steps p.tables e below (T23.setTop (mkF m 105 #[.val (.long q1), .second, .val (.long q2), .second, .val (.int p3), .val (.int p4), .val (.int n), .val (.int tt), .val (.long hi), .second, .val (.long lo), .second, .val (.ref b12), .val (.ref b20), .unset, .unset, .unset, .unset, .unset, .unset, .unset, .unset, .unset, .unset, .unset, .unset] [(.ref b12), (.ref b20)])) t → Steps p.tables e below (s₁.setTop (entryFrame m #[(.long q1), (.long q2), (.int p3), (.int p4)] maxLocals)) t := fun t kt => pre24 t (by
    show Steps p.tables e below (T23.setTop (mkF m 99 #[.val (.long q1), .second, .val (.long q2), .second, .val (.int p3), .val (.int p4), .val (.int n), .val (.int tt), .val (.long hi), .second, .val (.long lo), .second, .val (.ref b12), .unset, .unset, .unset, .unset, .unset, .unset, .unset, .unset, .unset, .unset, .unset, .unset, .unset] [(.ref b20)])) _
    refine XS.astore X23.here hx rfl (hb hby at_99) rfl rfl (l' := #[.val (.long q1), .second, .val (.long q2), .second, .val (.int p3), .val (.int p4), .val (.int n), .val (.int tt), .val (.long hi), .second, .val (.long lo), .second, .val (.ref b12), .val (.ref b20), .unset, .unset, .unset, .unset, .unset, .unset, .unset, .unset, .unset, .unset, .unset, .unset]) rfl ?_
    show Steps p.tables e below (T23.setTop (mkF m 101 #[.val (.long q1), .second, .val (.long q2), .second, .val (.int p3), .val (.int p4), .val (.int n), .val (.int tt), .val (.long hi), .second, .val (.long lo), .second, .val (.ref b12), .val (.ref b20), .unset, .unset, .unset, .unset, .unset, .unset, .unset, .unset, .unset, .unset, .unset, .unset] [])) _
    refine XS.aload X23.here hx rfl (hb hby at_101) rfl rfl ?_
    show Steps p.tables e below (T23.setTop (mkF m 103 #[.val (.long q1), .second, .val (.long q2), .second, .val (.int p3), .val (.int p4), .val (.int n), .val (.int tt), .val (.long hi), .second, .val (.long lo), .second, .val (.ref b12), .val (.ref b20), .unset, .unset, .unset, .unset, .unset, .unset, .unset, .unset, .unset, .unset, .unset, .unset] [(.ref b20)])) _
    refine XS.aload X23.here hx rfl (hb hby at_103) rfl rfl ?_
    exact kt)
  obtain ⟨cq26, kq26, q26a, q26b, q26c⟩ := isOf hZ rfl Ex23
  obtain ⟨_, _, ⟨T26, L26, k26, n26⟩, -, X26, ⟨Lc26, hQ26, l26, y26, z26⟩, st26⟩ := X23.virtualBack hx (y := (⟨"saltgrove/aes/CounterKeystream", "increment", "([B)V"⟩ : MethodName)) (z := (⟨"saltgrove/aes/CounterKeystream", "increment", "([B)V"⟩ : MethodName)) hown (mvT hZ (hw _ (List.mem_of_getElem? (i := 23) rfl))) (mvT hZ (hw _ (List.mem_of_getElem? (i := 24) rfl))) (notFace_of_selects (args := #[]) (mvT hZ (hw _ (List.mem_of_getElem? (i := 26) rfl)))) (mvT hZ (hw _ (List.mem_of_getElem? (i := 26) rfl))) (mvT hZ (hw _ (List.mem_of_getElem? (i := 25) rfl))) (by decide) (backOf (W := 0) (rm5 l Z a0 hw [] b20 b12 n k f T23.heap n0 Ze Fx23 Bo hne gb hk hk16) hZ (hw _ (List.mem_of_getElem? (i := 27) rfl)) (hw _ (List.mem_of_getElem? (i := 10) rfl)) (by decide) (by decide)) q26a q26c (g := (mkF m 105 #[.val (.long q1), .second, .val (.long q2), .second, .val (.int p3), .val (.int p4), .val (.int n), .val (.int tt), .val (.long hi), .second, .val (.long lo), .second, .val (.ref b12), .val (.ref b20), .unset, .unset, .unset, .unset, .unset, .unset, .unset, .unset, .unset, .unset, .unset, .unset] [(.ref b12), (.ref b20)])) rfl (by rw [hml]; rfl) (Steps.refl _) (argsL := [(.ref b12)]) (rest := []) (lenOf pd_0_3 rfl) rfl (by show 2 * 0 + _ ≤ _; exact Nat.le_of_eq rfl) (hb hby at_105) (fun _ _ => ⟨rfl, rfl, (by decide : 4 + 0 ≤ _), (by decide : 550 + 0 ≤ _)⟩)
  dsimp only [Pt.U, Pt.locs, Pt.cells, Pt.slots] at X26 l26 y26 z26 st26 hQ26
  subst l26 y26 z26
  obtain ⟨rfl, N26q, ⟨g, cy, B26, P26⟩, K26⟩ := hQ26
  have N26 := Fr.app N23 N26q
  have pre27 : ∀ t, Steps p.tables e below (T26.setTop (mkF m 108 #[.val (.long q1), .second, .val (.long q2), .second, .val (.int p3), .val (.int p4), .val (.int n), .val (.int tt), .val (.long hi), .second, .val (.long lo), .second, .val (.ref b12), .val (.ref b20), .unset, .unset, .unset, .unset, .unset, .unset, .unset, .unset, .unset, .unset, .unset, .unset] [])) t → Steps p.tables e below (s₁.setTop (entryFrame m #[(.long q1), (.long q2), (.int p3), (.int p4)] maxLocals)) t := fun t kt => pre25 t (st26.trans kt)
  have Zf : n0 ≤ T26.heap.size := Nat.le_trans Ze K26.1
  have pre28 : ∀ t, Steps p.tables e below (T26.setTop (mkF m 111 #[.val (.long q1), .second, .val (.long q2), .second, .val (.int p3), .val (.int p4), .val (.int n), .val (.int tt), .val (.long hi), .second, .val (.long lo), .second, .val (.ref b12), .val (.ref b20), .unset, .unset, .unset, .unset, .unset, .unset, .unset, .unset, .unset, .unset, .unset, .unset] [(.int (0 : Int32)), (.ref b12)])) t → Steps p.tables e below (s₁.setTop (entryFrame m #[(.long q1), (.long q2), (.int p3), (.int p4)] maxLocals)) t := fun t kt => pre27 t (by
    show Steps p.tables e below (T26.setTop (mkF m 108 #[.val (.long q1), .second, .val (.long q2), .second, .val (.int p3), .val (.int p4), .val (.int n), .val (.int tt), .val (.long hi), .second, .val (.long lo), .second, .val (.ref b12), .val (.ref b20), .unset, .unset, .unset, .unset, .unset, .unset, .unset, .unset, .unset, .unset, .unset, .unset] [])) _
    refine XS.aload X26.here hx rfl (hb hby at_108) rfl rfl ?_
    show Steps p.tables e below (T26.setTop (mkF m 110 #[.val (.long q1), .second, .val (.long q2), .second, .val (.int p3), .val (.int p4), .val (.int n), .val (.int tt), .val (.long hi), .second, .val (.long lo), .second, .val (.ref b12), .val (.ref b20), .unset, .unset, .unset, .unset, .unset, .unset, .unset, .unset, .unset, .unset, .unset, .unset] [(.ref b12)])) _
    refine XS.iconst X26.here hx rfl (hb hby at_110) ?_
    exact kt)
  obtain ⟨_, _, ⟨T29, L29, k29, n29⟩, -, X29, ⟨Lc29, hQ29, l29, y29, z29⟩, st29⟩ := Jvm.LawKit.callS X26 hx (y := (⟨"saltgrove/aes/CounterKeystreamIncrementPinLaw", "get", "([BI)J"⟩ : MethodName)) hown (mvT hZ (hw _ (List.mem_of_getElem? (i := 28) rfl))) (mvT hZ (hw _ (List.mem_of_getElem? (i := 29) rfl))) (mvT hZ (hw _ (List.mem_of_getElem? (i := 2) rfl))) (mvT hZ (hw _ (List.mem_of_getElem? (i := 30) rfl))) (by decide) (backOf (W := 0) (rm6 l Z a0 hw [] b12 (0 : Int32) 0 _ T26.heap n0 Zf B26 (by decide) (by decide)) hZ (hw _ (List.mem_of_getElem? (i := 30) rfl)) (hw _ (List.mem_of_getElem? (i := 2) rfl)) (by decide) (by decide)) (g := (mkF m 111 #[.val (.long q1), .second, .val (.long q2), .second, .val (.int p3), .val (.int p4), .val (.int n), .val (.int tt), .val (.long hi), .second, .val (.long lo), .second, .val (.ref b12), .val (.ref b20), .unset, .unset, .unset, .unset, .unset, .unset, .unset, .unset, .unset, .unset, .unset, .unset] [(.int (0 : Int32)), (.ref b12)])) rfl (by rw [hml]; rfl) (argsL := [(.ref b12), (.int (0 : Int32))]) (rest := []) (lenOf pd_0_4 rfl) rfl (by show 2 * 0 + _ ≤ _; exact Nat.le_of_eq rfl) (hb hby at_111) (fun _ _ => ⟨rfl, rfl, (by decide : 4 + 0 ≤ _), (by decide : 550 + 0 ≤ _)⟩)
  dsimp only [Pt.U, Pt.locs, Pt.cells, Pt.slots] at X29 l29 y29 z29 st29 hQ29
  subst l29 y29 z29
  obtain ⟨rfl, N29q, e29⟩ := hQ29
  have N29 := Fr.app N26 N29q
  have pre30 : ∀ t, Steps p.tables e below (T29.setTop (mkF m 114 #[.val (.long q1), .second, .val (.long q2), .second, .val (.int p3), .val (.int p4), .val (.int n), .val (.int tt), .val (.long hi), .second, .val (.long lo), .second, .val (.ref b12), .val (.ref b20), .unset, .unset, .unset, .unset, .unset, .unset, .unset, .unset, .unset, .unset, .unset, .unset] [(.long (own_get g 0))])) t → Steps p.tables e below (s₁.setTop (entryFrame m #[(.long q1), (.long q2), (.int p3), (.int p4)] maxLocals)) t := fun t kt => pre28 t (st29 t kt)
  have pre31 : ∀ t, Steps p.tables e below (T29.setTop (mkF m 120 #[.val (.long q1), .second, .val (.long q2), .second, .val (.int p3), .val (.int p4), .val (.int n), .val (.int tt), .val (.long hi), .second, .val (.long lo), .second, .val (.ref b12), .val (.ref b20), .val (.long (own_get g 0)), .second, .unset, .unset, .unset, .unset, .unset, .unset, .unset, .unset, .unset, .unset] [(.int (8 : Int32)), (.ref b12)])) t → Steps p.tables e below (s₁.setTop (entryFrame m #[(.long q1), (.long q2), (.int p3), (.int p4)] maxLocals)) t := fun t kt => pre30 t (by
    show Steps p.tables e below (T29.setTop (mkF m 114 #[.val (.long q1), .second, .val (.long q2), .second, .val (.int p3), .val (.int p4), .val (.int n), .val (.int tt), .val (.long hi), .second, .val (.long lo), .second, .val (.ref b12), .val (.ref b20), .unset, .unset, .unset, .unset, .unset, .unset, .unset, .unset, .unset, .unset, .unset, .unset] [(.long (own_get g 0))])) _
    refine XS.lstore X29.here hx rfl (hb hby at_114) rfl (l' := #[.val (.long q1), .second, .val (.long q2), .second, .val (.int p3), .val (.int p4), .val (.int n), .val (.int tt), .val (.long hi), .second, .val (.long lo), .second, .val (.ref b12), .val (.ref b20), .val (.long (own_get g 0)), .second, .unset, .unset, .unset, .unset, .unset, .unset, .unset, .unset, .unset, .unset]) rfl ?_
    show Steps p.tables e below (T29.setTop (mkF m 116 #[.val (.long q1), .second, .val (.long q2), .second, .val (.int p3), .val (.int p4), .val (.int n), .val (.int tt), .val (.long hi), .second, .val (.long lo), .second, .val (.ref b12), .val (.ref b20), .val (.long (own_get g 0)), .second, .unset, .unset, .unset, .unset, .unset, .unset, .unset, .unset, .unset, .unset] [])) _
    refine XS.aload X29.here hx rfl (hb hby at_116) rfl rfl ?_
    show Steps p.tables e below (T29.setTop (mkF m 118 #[.val (.long q1), .second, .val (.long q2), .second, .val (.int p3), .val (.int p4), .val (.int n), .val (.int tt), .val (.long hi), .second, .val (.long lo), .second, .val (.ref b12), .val (.ref b20), .val (.long (own_get g 0)), .second, .unset, .unset, .unset, .unset, .unset, .unset, .unset, .unset, .unset, .unset] [(.ref b12)])) _
    refine XS.bipush X29.here hx rfl (hb hby at_118) ?_
    exact kt)
  obtain ⟨_, _, ⟨T32, L32, k32, n32⟩, -, X32, ⟨Lc32, hQ32, l32, y32, z32⟩, st32⟩ := Jvm.LawKit.callS X29 hx (y := (⟨"saltgrove/aes/CounterKeystreamIncrementPinLaw", "get", "([BI)J"⟩ : MethodName)) hown (mvT hZ (hw _ (List.mem_of_getElem? (i := 28) rfl))) (mvT hZ (hw _ (List.mem_of_getElem? (i := 29) rfl))) (mvT hZ (hw _ (List.mem_of_getElem? (i := 2) rfl))) (mvT hZ (hw _ (List.mem_of_getElem? (i := 30) rfl))) (by decide) (backOf (W := 0) (rm6 l Z a0 hw [] b12 (8 : Int32) 8 _ T26.heap n0 Zf B26 (by decide) (by decide)) hZ (hw _ (List.mem_of_getElem? (i := 30) rfl)) (hw _ (List.mem_of_getElem? (i := 2) rfl)) (by decide) (by decide)) (g := (mkF m 120 #[.val (.long q1), .second, .val (.long q2), .second, .val (.int p3), .val (.int p4), .val (.int n), .val (.int tt), .val (.long hi), .second, .val (.long lo), .second, .val (.ref b12), .val (.ref b20), .val (.long (own_get g 0)), .second, .unset, .unset, .unset, .unset, .unset, .unset, .unset, .unset, .unset, .unset] [(.int (8 : Int32)), (.ref b12)])) rfl (by rw [hml]; rfl) (argsL := [(.ref b12), (.int (8 : Int32))]) (rest := []) (lenOf pd_0_4 rfl) rfl (by show 2 * 0 + _ ≤ _; exact Nat.le_of_eq rfl) (hb hby at_120) (fun _ _ => ⟨rfl, e29, (by decide : 4 + 0 ≤ _), (by decide : 550 + 0 ≤ _)⟩)
  dsimp only [Pt.U, Pt.locs, Pt.cells, Pt.slots] at X32 l32 y32 z32 st32 hQ32
  subst l32 y32 z32
  obtain ⟨rfl, N32q, e32⟩ := hQ32
  have N32 := Fr.app N29 N32q
  have pre33 : ∀ t, Steps p.tables e below (T32.setTop (mkF m 123 #[.val (.long q1), .second, .val (.long q2), .second, .val (.int p3), .val (.int p4), .val (.int n), .val (.int tt), .val (.long hi), .second, .val (.long lo), .second, .val (.ref b12), .val (.ref b20), .val (.long (own_get g 0)), .second, .unset, .unset, .unset, .unset, .unset, .unset, .unset, .unset, .unset, .unset] [(.long (own_get g 8))])) t → Steps p.tables e below (s₁.setTop (entryFrame m #[(.long q1), (.long q2), (.int p3), (.int p4)] maxLocals)) t := fun t kt => pre31 t (st32 t kt)
  have pre34 : ∀ t, Steps p.tables e below (T32.setTop (mkF m 125 #[.val (.long q1), .second, .val (.long q2), .second, .val (.int p3), .val (.int p4), .val (.int n), .val (.int tt), .val (.long hi), .second, .val (.long lo), .second, .val (.ref b12), .val (.ref b20), .val (.long (own_get g 0)), .second, .val (.long (own_get g 8)), .second, .unset, .unset, .unset, .unset, .unset, .unset, .unset, .unset] [])) t → Steps p.tables e below (s₁.setTop (entryFrame m #[(.long q1), (.long q2), (.int p3), (.int p4)] maxLocals)) t := fun t kt => pre33 t (by
    show Steps p.tables e below (T32.setTop (mkF m 123 #[.val (.long q1), .second, .val (.long q2), .second, .val (.int p3), .val (.int p4), .val (.int n), .val (.int tt), .val (.long hi), .second, .val (.long lo), .second, .val (.ref b12), .val (.ref b20), .val (.long (own_get g 0)), .second, .unset, .unset, .unset, .unset, .unset, .unset, .unset, .unset, .unset, .unset] [(.long (own_get g 8))])) _
    refine XS.lstore X32.here hx rfl (hb hby at_123) rfl (l' := #[.val (.long q1), .second, .val (.long q2), .second, .val (.int p3), .val (.int p4), .val (.int n), .val (.int tt), .val (.long hi), .second, .val (.long lo), .second, .val (.ref b12), .val (.ref b20), .val (.long (own_get g 0)), .second, .val (.long (own_get g 8)), .second, .unset, .unset, .unset, .unset, .unset, .unset, .unset, .unset]) rfl ?_
    exact kt)
  by_cases c8 : (8 : Int32) < n
  · have k8 : 8 < k := (own_n8 hk).mp c8
    have pre35 : ∀ t, Steps p.tables e below (T32.setTop (mkF m 170 #[.val (.long q1), .second, .val (.long q2), .second, .val (.int p3), .val (.int p4), .val (.int n), .val (.int tt), .val (.long hi), .second, .val (.long lo), .second, .val (.ref b12), .val (.ref b20), .val (.long (own_get g 0)), .second, .val (.long (own_get g 8)), .second, .unset, .unset, .unset, .unset, .unset, .unset, .unset, .unset] [(.int (n - (8 : Int32)))])) t → Steps p.tables e below (s₁.setTop (entryFrame m #[(.long q1), (.long q2), (.int p3), (.int p4)] maxLocals)) t := fun t kt => pre34 t (by
      show Steps p.tables e below (T32.setTop (mkF m 125 #[.val (.long q1), .second, .val (.long q2), .second, .val (.int p3), .val (.int p4), .val (.int n), .val (.int tt), .val (.long hi), .second, .val (.long lo), .second, .val (.ref b12), .val (.ref b20), .val (.long (own_get g 0)), .second, .val (.long (own_get g 8)), .second, .unset, .unset, .unset, .unset, .unset, .unset, .unset, .unset] [])) _
      refine XS.iload X32.here hx rfl (hb hby at_125) rfl ?_
      show Steps p.tables e below (T32.setTop (mkF m 127 #[.val (.long q1), .second, .val (.long q2), .second, .val (.int p3), .val (.int p4), .val (.int n), .val (.int tt), .val (.long hi), .second, .val (.long lo), .second, .val (.ref b12), .val (.ref b20), .val (.long (own_get g 0)), .second, .val (.long (own_get g 8)), .second, .unset, .unset, .unset, .unset, .unset, .unset, .unset, .unset] [(.int n)])) _
      refine XS.bipush X32.here hx rfl (hb hby at_127) ?_
      show Steps p.tables e below (T32.setTop (mkF m 129 #[.val (.long q1), .second, .val (.long q2), .second, .val (.int p3), .val (.int p4), .val (.int n), .val (.int tt), .val (.long hi), .second, .val (.long lo), .second, .val (.ref b12), .val (.ref b20), .val (.long (own_get g 0)), .second, .val (.long (own_get g 8)), .second, .unset, .unset, .unset, .unset, .unset, .unset, .unset, .unset] [(.int (8 : Int32)), (.int n)])) _
      refine XS.icmpYes X32.here hx rfl (pc0 := 129) (pc' := 165) rfl (hb hby at_129) rfl (tlt c8).2.2.1 (by decide) (by decide) ?_
      show Steps p.tables e below (T32.setTop (mkF m 165 #[.val (.long q1), .second, .val (.long q2), .second, .val (.int p3), .val (.int p4), .val (.int n), .val (.int tt), .val (.long hi), .second, .val (.long lo), .second, .val (.ref b12), .val (.ref b20), .val (.long (own_get g 0)), .second, .val (.long (own_get g 8)), .second, .unset, .unset, .unset, .unset, .unset, .unset, .unset, .unset] [])) _
      refine XS.iload X32.here hx rfl (hb hby at_165) rfl ?_
      show Steps p.tables e below (T32.setTop (mkF m 167 #[.val (.long q1), .second, .val (.long q2), .second, .val (.int p3), .val (.int p4), .val (.int n), .val (.int tt), .val (.long hi), .second, .val (.long lo), .second, .val (.ref b12), .val (.ref b20), .val (.long (own_get g 0)), .second, .val (.long (own_get g 8)), .second, .unset, .unset, .unset, .unset, .unset, .unset, .unset, .unset] [(.int n)])) _
      refine XS.bipush X32.here hx rfl (hb hby at_167) ?_
      show Steps p.tables e below (T32.setTop (mkF m 169 #[.val (.long q1), .second, .val (.long q2), .second, .val (.int p3), .val (.int p4), .val (.int n), .val (.int tt), .val (.long hi), .second, .val (.long lo), .second, .val (.ref b12), .val (.ref b20), .val (.long (own_get g 0)), .second, .val (.long (own_get g 8)), .second, .unset, .unset, .unset, .unset, .unset, .unset, .unset, .unset] [(.int (8 : Int32)), (.int n)])) _
      refine XS.isub X32.here hx rfl (hb hby at_169) rfl ?_
      exact kt)
    obtain ⟨_, _, ⟨T36, L36, k36, n36⟩, -, X36, ⟨Lc36, hQ36, l36, y36, z36⟩, st36⟩ := Jvm.LawKit.callS X32 hx (y := (⟨"saltgrove/aes/CounterKeystreamIncrementPinLaw", "lowMask", "(I)J"⟩ : MethodName)) hown (mvT hZ (hw _ (List.mem_of_getElem? (i := 0) rfl))) (mvT hZ (hw _ (List.mem_of_getElem? (i := 1) rfl))) (mvT hZ (hw _ (List.mem_of_getElem? (i := 2) rfl))) (mvT hZ (hw _ (List.mem_of_getElem? (i := 3) rfl))) (by decide) (backOf (W := 0) (rm1 l Z a0 hw [] (n - (8 : Int32)) T26.heap n0 Zf) hZ (hw _ (List.mem_of_getElem? (i := 3) rfl)) (hw _ (List.mem_of_getElem? (i := 2) rfl)) (by decide) (by decide)) (g := (mkF m 170 #[.val (.long q1), .second, .val (.long q2), .second, .val (.int p3), .val (.int p4), .val (.int n), .val (.int tt), .val (.long hi), .second, .val (.long lo), .second, .val (.ref b12), .val (.ref b20), .val (.long (own_get g 0)), .second, .val (.long (own_get g 8)), .second, .unset, .unset, .unset, .unset, .unset, .unset, .unset, .unset] [(.int (n - (8 : Int32)))])) rfl (by rw [hml]; rfl) (argsL := [(.int (n - (8 : Int32)))]) (rest := []) (lenOf pd_0_0 rfl) rfl (by show 2 * 0 + _ ≤ _; exact Nat.le_of_eq rfl) (hb hby at_170) (fun _ _ => ⟨rfl, e32, (by decide : 4 + 0 ≤ _), (by decide : 550 + 0 ≤ _)⟩)
    dsimp only [Pt.U, Pt.locs, Pt.cells, Pt.slots] at X36 l36 y36 z36 st36 hQ36
    subst l36 y36 z36
    obtain ⟨rfl, N36q, e36⟩ := hQ36
    have N36 := Fr.app N32 N36q
    have pre37 : ∀ t, Steps p.tables e below (T36.setTop (mkF m 173 #[.val (.long q1), .second, .val (.long q2), .second, .val (.int p3), .val (.int p4), .val (.int n), .val (.int tt), .val (.long hi), .second, .val (.long lo), .second, .val (.ref b12), .val (.ref b20), .val (.long (own_get g 0)), .second, .val (.long (own_get g 8)), .second, .unset, .unset, .unset, .unset, .unset, .unset, .unset, .unset] [(.long (own_lm (n - (8 : Int32))))])) t → Steps p.tables e below (s₁.setTop (entryFrame m #[(.long q1), (.long q2), (.int p3), (.int p4)] maxLocals)) t := fun t kt => pre35 t (st36 t kt)
    by_cases cl : lo = (-1 : Int64)
    · obtain ⟨r1, r2⟩ := own_finB (d := 1) hk k8 hk16 hlo hhi P26 (Or.inl ⟨cl, rfl⟩)
      have pre38 : ∀ t, Steps p.tables e below (T36.setTop (mkF m 238 #[.val (.long q1), .second, .val (.long q2), .second, .val (.int p3), .val (.int p4), .val (.int n), .val (.int tt), .val (.long hi), .second, .val (.long lo), .second, .val (.ref b12), .val (.ref b20), .val (.long (own_get g 0)), .second, .val (.long (own_get g 8)), .second, .val (.long ((hi &&& ((own_lm (n - (8 : Int32))) ^^^ (-1 : Int64))) ||| ((hi + (1 : Int64)) &&& (own_lm (n - (8 : Int32)))))), .second, .val (.long (lo + (1 : Int64))), .second, .val (.long (own_lm (n - (8 : Int32)))), .second, .val (.long (1 : Int64)), .second] [(.int (1 : Int32))])) t → Steps p.tables e below (s₁.setTop (entryFrame m #[(.long q1), (.long q2), (.int p3), (.int p4)] maxLocals)) t := fun t kt => pre37 t (by
        show Steps p.tables e below (T36.setTop (mkF m 173 #[.val (.long q1), .second, .val (.long q2), .second, .val (.int p3), .val (.int p4), .val (.int n), .val (.int tt), .val (.long hi), .second, .val (.long lo), .second, .val (.ref b12), .val (.ref b20), .val (.long (own_get g 0)), .second, .val (.long (own_get g 8)), .second, .unset, .unset, .unset, .unset, .unset, .unset, .unset, .unset] [(.long (own_lm (n - (8 : Int32))))])) _
        refine XS.lstore X36.here hx rfl (hb hby at_173) rfl (l' := #[.val (.long q1), .second, .val (.long q2), .second, .val (.int p3), .val (.int p4), .val (.int n), .val (.int tt), .val (.long hi), .second, .val (.long lo), .second, .val (.ref b12), .val (.ref b20), .val (.long (own_get g 0)), .second, .val (.long (own_get g 8)), .second, .unset, .unset, .unset, .unset, .val (.long (own_lm (n - (8 : Int32)))), .second, .unset, .unset]) rfl ?_
        show Steps p.tables e below (T36.setTop (mkF m 175 #[.val (.long q1), .second, .val (.long q2), .second, .val (.int p3), .val (.int p4), .val (.int n), .val (.int tt), .val (.long hi), .second, .val (.long lo), .second, .val (.ref b12), .val (.ref b20), .val (.long (own_get g 0)), .second, .val (.long (own_get g 8)), .second, .unset, .unset, .unset, .unset, .val (.long (own_lm (n - (8 : Int32)))), .second, .unset, .unset] [])) _
        refine XS.lload X36.here hx rfl (hb hby at_175) rfl ?_
        show Steps p.tables e below (T36.setTop (mkF m 177 #[.val (.long q1), .second, .val (.long q2), .second, .val (.int p3), .val (.int p4), .val (.int n), .val (.int tt), .val (.long hi), .second, .val (.long lo), .second, .val (.ref b12), .val (.ref b20), .val (.long (own_get g 0)), .second, .val (.long (own_get g 8)), .second, .unset, .unset, .unset, .unset, .val (.long (own_lm (n - (8 : Int32)))), .second, .unset, .unset] [(.long lo)])) _
        refine X36.ldc2Long hx hown (mvT hZ (hw _ (List.mem_of_getElem? (i := 31) rfl))) (g := (mkF m 177 #[.val (.long q1), .second, .val (.long q2), .second, .val (.int p3), .val (.int p4), .val (.int n), .val (.int tt), .val (.long hi), .second, .val (.long lo), .second, .val (.ref b12), .val (.ref b20), .val (.long (own_get g 0)), .second, .val (.long (own_get g 8)), .second, .unset, .unset, .unset, .unset, .val (.long (own_lm (n - (8 : Int32)))), .second, .unset, .unset] [(.long lo)])) rfl (hb hby at_177) _ ?_
        show Steps p.tables e below (T36.setTop (mkF m 180 #[.val (.long q1), .second, .val (.long q2), .second, .val (.int p3), .val (.int p4), .val (.int n), .val (.int tt), .val (.long hi), .second, .val (.long lo), .second, .val (.ref b12), .val (.ref b20), .val (.long (own_get g 0)), .second, .val (.long (own_get g 8)), .second, .unset, .unset, .unset, .unset, .val (.long (own_lm (n - (8 : Int32)))), .second, .unset, .unset] [(.long (-1 : Int64)), (.long lo)])) _
        refine XS.lcmp X36.here hx rfl (hb hby at_180) rfl ?_
        show Steps p.tables e below (T36.setTop (mkF m 181 #[.val (.long q1), .second, .val (.long q2), .second, .val (.int p3), .val (.int p4), .val (.int n), .val (.int tt), .val (.long hi), .second, .val (.long lo), .second, .val (.ref b12), .val (.ref b20), .val (.long (own_get g 0)), .second, .val (.long (own_get g 8)), .second, .unset, .unset, .unset, .unset, .val (.long (own_lm (n - (8 : Int32)))), .second, .unset, .unset] [(.int (lcmpW lo (-1 : Int64)))])) _
        refine XS.ifNo X36.here hx rfl (hb hby at_181) rfl ((if0 _ _).trans (teq ((lw_eq _ _).mpr cl)).2) ?_
        show Steps p.tables e below (T36.setTop (mkF m 184 #[.val (.long q1), .second, .val (.long q2), .second, .val (.int p3), .val (.int p4), .val (.int n), .val (.int tt), .val (.long hi), .second, .val (.long lo), .second, .val (.ref b12), .val (.ref b20), .val (.long (own_get g 0)), .second, .val (.long (own_get g 8)), .second, .unset, .unset, .unset, .unset, .val (.long (own_lm (n - (8 : Int32)))), .second, .unset, .unset] [])) _
        refine XS.lconst X36.here hx rfl (hb hby at_184) ?_
        show Steps p.tables e below (T36.setTop (mkF m 185 #[.val (.long q1), .second, .val (.long q2), .second, .val (.int p3), .val (.int p4), .val (.int n), .val (.int tt), .val (.long hi), .second, .val (.long lo), .second, .val (.ref b12), .val (.ref b20), .val (.long (own_get g 0)), .second, .val (.long (own_get g 8)), .second, .unset, .unset, .unset, .unset, .val (.long (own_lm (n - (8 : Int32)))), .second, .unset, .unset] [(.long (1 : Int64))])) _
        refine XS.goto X36.here hx rfl (pc0 := 185) (pc' := 189) rfl (hb hby at_185) (by decide) (by decide) ?_
        show Steps p.tables e below (T36.setTop (mkF m 189 #[.val (.long q1), .second, .val (.long q2), .second, .val (.int p3), .val (.int p4), .val (.int n), .val (.int tt), .val (.long hi), .second, .val (.long lo), .second, .val (.ref b12), .val (.ref b20), .val (.long (own_get g 0)), .second, .val (.long (own_get g 8)), .second, .unset, .unset, .unset, .unset, .val (.long (own_lm (n - (8 : Int32)))), .second, .unset, .unset] [(.long (1 : Int64))])) _
        refine XS.lstore X36.here hx rfl (hb hby at_189) rfl (l' := #[.val (.long q1), .second, .val (.long q2), .second, .val (.int p3), .val (.int p4), .val (.int n), .val (.int tt), .val (.long hi), .second, .val (.long lo), .second, .val (.ref b12), .val (.ref b20), .val (.long (own_get g 0)), .second, .val (.long (own_get g 8)), .second, .unset, .unset, .unset, .unset, .val (.long (own_lm (n - (8 : Int32)))), .second, .val (.long (1 : Int64)), .second]) rfl ?_
        show Steps p.tables e below (T36.setTop (mkF m 191 #[.val (.long q1), .second, .val (.long q2), .second, .val (.int p3), .val (.int p4), .val (.int n), .val (.int tt), .val (.long hi), .second, .val (.long lo), .second, .val (.ref b12), .val (.ref b20), .val (.long (own_get g 0)), .second, .val (.long (own_get g 8)), .second, .unset, .unset, .unset, .unset, .val (.long (own_lm (n - (8 : Int32)))), .second, .val (.long (1 : Int64)), .second] [])) _
        refine XS.lload X36.here hx rfl (hb hby at_191) rfl ?_
        show Steps p.tables e below (T36.setTop (mkF m 193 #[.val (.long q1), .second, .val (.long q2), .second, .val (.int p3), .val (.int p4), .val (.int n), .val (.int tt), .val (.long hi), .second, .val (.long lo), .second, .val (.ref b12), .val (.ref b20), .val (.long (own_get g 0)), .second, .val (.long (own_get g 8)), .second, .unset, .unset, .unset, .unset, .val (.long (own_lm (n - (8 : Int32)))), .second, .val (.long (1 : Int64)), .second] [(.long lo)])) _
        refine XS.lconst X36.here hx rfl (hb hby at_193) ?_
        show Steps p.tables e below (T36.setTop (mkF m 194 #[.val (.long q1), .second, .val (.long q2), .second, .val (.int p3), .val (.int p4), .val (.int n), .val (.int tt), .val (.long hi), .second, .val (.long lo), .second, .val (.ref b12), .val (.ref b20), .val (.long (own_get g 0)), .second, .val (.long (own_get g 8)), .second, .unset, .unset, .unset, .unset, .val (.long (own_lm (n - (8 : Int32)))), .second, .val (.long (1 : Int64)), .second] [(.long (1 : Int64)), (.long lo)])) _
        refine XS.ladd X36.here hx rfl (hb hby at_194) rfl ?_
        show Steps p.tables e below (T36.setTop (mkF m 195 #[.val (.long q1), .second, .val (.long q2), .second, .val (.int p3), .val (.int p4), .val (.int n), .val (.int tt), .val (.long hi), .second, .val (.long lo), .second, .val (.ref b12), .val (.ref b20), .val (.long (own_get g 0)), .second, .val (.long (own_get g 8)), .second, .unset, .unset, .unset, .unset, .val (.long (own_lm (n - (8 : Int32)))), .second, .val (.long (1 : Int64)), .second] [(.long (lo + (1 : Int64)))])) _
        refine XS.lstore X36.here hx rfl (hb hby at_195) rfl (l' := #[.val (.long q1), .second, .val (.long q2), .second, .val (.int p3), .val (.int p4), .val (.int n), .val (.int tt), .val (.long hi), .second, .val (.long lo), .second, .val (.ref b12), .val (.ref b20), .val (.long (own_get g 0)), .second, .val (.long (own_get g 8)), .second, .unset, .unset, .val (.long (lo + (1 : Int64))), .second, .val (.long (own_lm (n - (8 : Int32)))), .second, .val (.long (1 : Int64)), .second]) rfl ?_
        show Steps p.tables e below (T36.setTop (mkF m 197 #[.val (.long q1), .second, .val (.long q2), .second, .val (.int p3), .val (.int p4), .val (.int n), .val (.int tt), .val (.long hi), .second, .val (.long lo), .second, .val (.ref b12), .val (.ref b20), .val (.long (own_get g 0)), .second, .val (.long (own_get g 8)), .second, .unset, .unset, .val (.long (lo + (1 : Int64))), .second, .val (.long (own_lm (n - (8 : Int32)))), .second, .val (.long (1 : Int64)), .second] [])) _
        refine XS.lload X36.here hx rfl (hb hby at_197) rfl ?_
        show Steps p.tables e below (T36.setTop (mkF m 199 #[.val (.long q1), .second, .val (.long q2), .second, .val (.int p3), .val (.int p4), .val (.int n), .val (.int tt), .val (.long hi), .second, .val (.long lo), .second, .val (.ref b12), .val (.ref b20), .val (.long (own_get g 0)), .second, .val (.long (own_get g 8)), .second, .unset, .unset, .val (.long (lo + (1 : Int64))), .second, .val (.long (own_lm (n - (8 : Int32)))), .second, .val (.long (1 : Int64)), .second] [(.long hi)])) _
        refine XS.lload X36.here hx rfl (hb hby at_199) rfl ?_
        show Steps p.tables e below (T36.setTop (mkF m 201 #[.val (.long q1), .second, .val (.long q2), .second, .val (.int p3), .val (.int p4), .val (.int n), .val (.int tt), .val (.long hi), .second, .val (.long lo), .second, .val (.ref b12), .val (.ref b20), .val (.long (own_get g 0)), .second, .val (.long (own_get g 8)), .second, .unset, .unset, .val (.long (lo + (1 : Int64))), .second, .val (.long (own_lm (n - (8 : Int32)))), .second, .val (.long (1 : Int64)), .second] [(.long (own_lm (n - (8 : Int32)))), (.long hi)])) _
        refine X36.ldc2Long hx hown (mvT hZ (hw _ (List.mem_of_getElem? (i := 31) rfl))) (g := (mkF m 201 #[.val (.long q1), .second, .val (.long q2), .second, .val (.int p3), .val (.int p4), .val (.int n), .val (.int tt), .val (.long hi), .second, .val (.long lo), .second, .val (.ref b12), .val (.ref b20), .val (.long (own_get g 0)), .second, .val (.long (own_get g 8)), .second, .unset, .unset, .val (.long (lo + (1 : Int64))), .second, .val (.long (own_lm (n - (8 : Int32)))), .second, .val (.long (1 : Int64)), .second] [(.long (own_lm (n - (8 : Int32)))), (.long hi)])) rfl (hb hby at_201) _ ?_
        show Steps p.tables e below (T36.setTop (mkF m 204 #[.val (.long q1), .second, .val (.long q2), .second, .val (.int p3), .val (.int p4), .val (.int n), .val (.int tt), .val (.long hi), .second, .val (.long lo), .second, .val (.ref b12), .val (.ref b20), .val (.long (own_get g 0)), .second, .val (.long (own_get g 8)), .second, .unset, .unset, .val (.long (lo + (1 : Int64))), .second, .val (.long (own_lm (n - (8 : Int32)))), .second, .val (.long (1 : Int64)), .second] [(.long (-1 : Int64)), (.long (own_lm (n - (8 : Int32)))), (.long hi)])) _
        refine XS.lxor X36.here hx rfl (hb hby at_204) rfl ?_
        show Steps p.tables e below (T36.setTop (mkF m 205 #[.val (.long q1), .second, .val (.long q2), .second, .val (.int p3), .val (.int p4), .val (.int n), .val (.int tt), .val (.long hi), .second, .val (.long lo), .second, .val (.ref b12), .val (.ref b20), .val (.long (own_get g 0)), .second, .val (.long (own_get g 8)), .second, .unset, .unset, .val (.long (lo + (1 : Int64))), .second, .val (.long (own_lm (n - (8 : Int32)))), .second, .val (.long (1 : Int64)), .second] [(.long ((own_lm (n - (8 : Int32))) ^^^ (-1 : Int64))), (.long hi)])) _
        refine XS.land X36.here hx rfl (hb hby at_205) rfl ?_
        show Steps p.tables e below (T36.setTop (mkF m 206 #[.val (.long q1), .second, .val (.long q2), .second, .val (.int p3), .val (.int p4), .val (.int n), .val (.int tt), .val (.long hi), .second, .val (.long lo), .second, .val (.ref b12), .val (.ref b20), .val (.long (own_get g 0)), .second, .val (.long (own_get g 8)), .second, .unset, .unset, .val (.long (lo + (1 : Int64))), .second, .val (.long (own_lm (n - (8 : Int32)))), .second, .val (.long (1 : Int64)), .second] [(.long (hi &&& ((own_lm (n - (8 : Int32))) ^^^ (-1 : Int64))))])) _
        refine XS.lload X36.here hx rfl (hb hby at_206) rfl ?_
        show Steps p.tables e below (T36.setTop (mkF m 208 #[.val (.long q1), .second, .val (.long q2), .second, .val (.int p3), .val (.int p4), .val (.int n), .val (.int tt), .val (.long hi), .second, .val (.long lo), .second, .val (.ref b12), .val (.ref b20), .val (.long (own_get g 0)), .second, .val (.long (own_get g 8)), .second, .unset, .unset, .val (.long (lo + (1 : Int64))), .second, .val (.long (own_lm (n - (8 : Int32)))), .second, .val (.long (1 : Int64)), .second] [(.long hi), (.long (hi &&& ((own_lm (n - (8 : Int32))) ^^^ (-1 : Int64))))])) _
        refine XS.lload X36.here hx rfl (hb hby at_208) rfl ?_
        show Steps p.tables e below (T36.setTop (mkF m 210 #[.val (.long q1), .second, .val (.long q2), .second, .val (.int p3), .val (.int p4), .val (.int n), .val (.int tt), .val (.long hi), .second, .val (.long lo), .second, .val (.ref b12), .val (.ref b20), .val (.long (own_get g 0)), .second, .val (.long (own_get g 8)), .second, .unset, .unset, .val (.long (lo + (1 : Int64))), .second, .val (.long (own_lm (n - (8 : Int32)))), .second, .val (.long (1 : Int64)), .second] [(.long (1 : Int64)), (.long hi), (.long (hi &&& ((own_lm (n - (8 : Int32))) ^^^ (-1 : Int64))))])) _
        refine XS.ladd X36.here hx rfl (hb hby at_210) rfl ?_
        show Steps p.tables e below (T36.setTop (mkF m 211 #[.val (.long q1), .second, .val (.long q2), .second, .val (.int p3), .val (.int p4), .val (.int n), .val (.int tt), .val (.long hi), .second, .val (.long lo), .second, .val (.ref b12), .val (.ref b20), .val (.long (own_get g 0)), .second, .val (.long (own_get g 8)), .second, .unset, .unset, .val (.long (lo + (1 : Int64))), .second, .val (.long (own_lm (n - (8 : Int32)))), .second, .val (.long (1 : Int64)), .second] [(.long (hi + (1 : Int64))), (.long (hi &&& ((own_lm (n - (8 : Int32))) ^^^ (-1 : Int64))))])) _
        refine XS.lload X36.here hx rfl (hb hby at_211) rfl ?_
        show Steps p.tables e below (T36.setTop (mkF m 213 #[.val (.long q1), .second, .val (.long q2), .second, .val (.int p3), .val (.int p4), .val (.int n), .val (.int tt), .val (.long hi), .second, .val (.long lo), .second, .val (.ref b12), .val (.ref b20), .val (.long (own_get g 0)), .second, .val (.long (own_get g 8)), .second, .unset, .unset, .val (.long (lo + (1 : Int64))), .second, .val (.long (own_lm (n - (8 : Int32)))), .second, .val (.long (1 : Int64)), .second] [(.long (own_lm (n - (8 : Int32)))), (.long (hi + (1 : Int64))), (.long (hi &&& ((own_lm (n - (8 : Int32))) ^^^ (-1 : Int64))))])) _
        refine XS.land X36.here hx rfl (hb hby at_213) rfl ?_
        show Steps p.tables e below (T36.setTop (mkF m 214 #[.val (.long q1), .second, .val (.long q2), .second, .val (.int p3), .val (.int p4), .val (.int n), .val (.int tt), .val (.long hi), .second, .val (.long lo), .second, .val (.ref b12), .val (.ref b20), .val (.long (own_get g 0)), .second, .val (.long (own_get g 8)), .second, .unset, .unset, .val (.long (lo + (1 : Int64))), .second, .val (.long (own_lm (n - (8 : Int32)))), .second, .val (.long (1 : Int64)), .second] [(.long ((hi + (1 : Int64)) &&& (own_lm (n - (8 : Int32))))), (.long (hi &&& ((own_lm (n - (8 : Int32))) ^^^ (-1 : Int64))))])) _
        refine XS.lor X36.here hx rfl (hb hby at_214) rfl ?_
        show Steps p.tables e below (T36.setTop (mkF m 215 #[.val (.long q1), .second, .val (.long q2), .second, .val (.int p3), .val (.int p4), .val (.int n), .val (.int tt), .val (.long hi), .second, .val (.long lo), .second, .val (.ref b12), .val (.ref b20), .val (.long (own_get g 0)), .second, .val (.long (own_get g 8)), .second, .unset, .unset, .val (.long (lo + (1 : Int64))), .second, .val (.long (own_lm (n - (8 : Int32)))), .second, .val (.long (1 : Int64)), .second] [(.long ((hi &&& ((own_lm (n - (8 : Int32))) ^^^ (-1 : Int64))) ||| ((hi + (1 : Int64)) &&& (own_lm (n - (8 : Int32))))))])) _
        refine XS.lstore X36.here hx rfl (hb hby at_215) rfl (l' := #[.val (.long q1), .second, .val (.long q2), .second, .val (.int p3), .val (.int p4), .val (.int n), .val (.int tt), .val (.long hi), .second, .val (.long lo), .second, .val (.ref b12), .val (.ref b20), .val (.long (own_get g 0)), .second, .val (.long (own_get g 8)), .second, .val (.long ((hi &&& ((own_lm (n - (8 : Int32))) ^^^ (-1 : Int64))) ||| ((hi + (1 : Int64)) &&& (own_lm (n - (8 : Int32)))))), .second, .val (.long (lo + (1 : Int64))), .second, .val (.long (own_lm (n - (8 : Int32)))), .second, .val (.long (1 : Int64)), .second]) rfl ?_
        show Steps p.tables e below (T36.setTop (mkF m 217 #[.val (.long q1), .second, .val (.long q2), .second, .val (.int p3), .val (.int p4), .val (.int n), .val (.int tt), .val (.long hi), .second, .val (.long lo), .second, .val (.ref b12), .val (.ref b20), .val (.long (own_get g 0)), .second, .val (.long (own_get g 8)), .second, .val (.long ((hi &&& ((own_lm (n - (8 : Int32))) ^^^ (-1 : Int64))) ||| ((hi + (1 : Int64)) &&& (own_lm (n - (8 : Int32)))))), .second, .val (.long (lo + (1 : Int64))), .second, .val (.long (own_lm (n - (8 : Int32)))), .second, .val (.long (1 : Int64)), .second] [])) _
        refine XS.lload X36.here hx rfl (hb hby at_217) rfl ?_
        show Steps p.tables e below (T36.setTop (mkF m 219 #[.val (.long q1), .second, .val (.long q2), .second, .val (.int p3), .val (.int p4), .val (.int n), .val (.int tt), .val (.long hi), .second, .val (.long lo), .second, .val (.ref b12), .val (.ref b20), .val (.long (own_get g 0)), .second, .val (.long (own_get g 8)), .second, .val (.long ((hi &&& ((own_lm (n - (8 : Int32))) ^^^ (-1 : Int64))) ||| ((hi + (1 : Int64)) &&& (own_lm (n - (8 : Int32)))))), .second, .val (.long (lo + (1 : Int64))), .second, .val (.long (own_lm (n - (8 : Int32)))), .second, .val (.long (1 : Int64)), .second] [(.long (own_get g 0))])) _
        refine XS.lload X36.here hx rfl (hb hby at_219) rfl ?_
        show Steps p.tables e below (T36.setTop (mkF m 221 #[.val (.long q1), .second, .val (.long q2), .second, .val (.int p3), .val (.int p4), .val (.int n), .val (.int tt), .val (.long hi), .second, .val (.long lo), .second, .val (.ref b12), .val (.ref b20), .val (.long (own_get g 0)), .second, .val (.long (own_get g 8)), .second, .val (.long ((hi &&& ((own_lm (n - (8 : Int32))) ^^^ (-1 : Int64))) ||| ((hi + (1 : Int64)) &&& (own_lm (n - (8 : Int32)))))), .second, .val (.long (lo + (1 : Int64))), .second, .val (.long (own_lm (n - (8 : Int32)))), .second, .val (.long (1 : Int64)), .second] [(.long ((hi &&& ((own_lm (n - (8 : Int32))) ^^^ (-1 : Int64))) ||| ((hi + (1 : Int64)) &&& (own_lm (n - (8 : Int32)))))), (.long (own_get g 0))])) _
        refine XS.lcmp X36.here hx rfl (hb hby at_221) rfl ?_
        show Steps p.tables e below (T36.setTop (mkF m 222 #[.val (.long q1), .second, .val (.long q2), .second, .val (.int p3), .val (.int p4), .val (.int n), .val (.int tt), .val (.long hi), .second, .val (.long lo), .second, .val (.ref b12), .val (.ref b20), .val (.long (own_get g 0)), .second, .val (.long (own_get g 8)), .second, .val (.long ((hi &&& ((own_lm (n - (8 : Int32))) ^^^ (-1 : Int64))) ||| ((hi + (1 : Int64)) &&& (own_lm (n - (8 : Int32)))))), .second, .val (.long (lo + (1 : Int64))), .second, .val (.long (own_lm (n - (8 : Int32)))), .second, .val (.long (1 : Int64)), .second] [(.int (lcmpW (own_get g 0) ((hi &&& ((own_lm (n - (8 : Int32))) ^^^ (-1 : Int64))) ||| ((hi + (1 : Int64)) &&& (own_lm (n - (8 : Int32)))))))])) _
        refine XS.ifNo X36.here hx rfl (hb hby at_222) rfl ((if0 _ _).trans (teq ((lw_eq _ _).mpr r2)).2) ?_
        show Steps p.tables e below (T36.setTop (mkF m 225 #[.val (.long q1), .second, .val (.long q2), .second, .val (.int p3), .val (.int p4), .val (.int n), .val (.int tt), .val (.long hi), .second, .val (.long lo), .second, .val (.ref b12), .val (.ref b20), .val (.long (own_get g 0)), .second, .val (.long (own_get g 8)), .second, .val (.long ((hi &&& ((own_lm (n - (8 : Int32))) ^^^ (-1 : Int64))) ||| ((hi + (1 : Int64)) &&& (own_lm (n - (8 : Int32)))))), .second, .val (.long (lo + (1 : Int64))), .second, .val (.long (own_lm (n - (8 : Int32)))), .second, .val (.long (1 : Int64)), .second] [])) _
        refine XS.lload X36.here hx rfl (hb hby at_225) rfl ?_
        show Steps p.tables e below (T36.setTop (mkF m 227 #[.val (.long q1), .second, .val (.long q2), .second, .val (.int p3), .val (.int p4), .val (.int n), .val (.int tt), .val (.long hi), .second, .val (.long lo), .second, .val (.ref b12), .val (.ref b20), .val (.long (own_get g 0)), .second, .val (.long (own_get g 8)), .second, .val (.long ((hi &&& ((own_lm (n - (8 : Int32))) ^^^ (-1 : Int64))) ||| ((hi + (1 : Int64)) &&& (own_lm (n - (8 : Int32)))))), .second, .val (.long (lo + (1 : Int64))), .second, .val (.long (own_lm (n - (8 : Int32)))), .second, .val (.long (1 : Int64)), .second] [(.long (own_get g 8))])) _
        refine XS.lload X36.here hx rfl (hb hby at_227) rfl ?_
        show Steps p.tables e below (T36.setTop (mkF m 229 #[.val (.long q1), .second, .val (.long q2), .second, .val (.int p3), .val (.int p4), .val (.int n), .val (.int tt), .val (.long hi), .second, .val (.long lo), .second, .val (.ref b12), .val (.ref b20), .val (.long (own_get g 0)), .second, .val (.long (own_get g 8)), .second, .val (.long ((hi &&& ((own_lm (n - (8 : Int32))) ^^^ (-1 : Int64))) ||| ((hi + (1 : Int64)) &&& (own_lm (n - (8 : Int32)))))), .second, .val (.long (lo + (1 : Int64))), .second, .val (.long (own_lm (n - (8 : Int32)))), .second, .val (.long (1 : Int64)), .second] [(.long (lo + (1 : Int64))), (.long (own_get g 8))])) _
        refine XS.lcmp X36.here hx rfl (hb hby at_229) rfl ?_
        show Steps p.tables e below (T36.setTop (mkF m 230 #[.val (.long q1), .second, .val (.long q2), .second, .val (.int p3), .val (.int p4), .val (.int n), .val (.int tt), .val (.long hi), .second, .val (.long lo), .second, .val (.ref b12), .val (.ref b20), .val (.long (own_get g 0)), .second, .val (.long (own_get g 8)), .second, .val (.long ((hi &&& ((own_lm (n - (8 : Int32))) ^^^ (-1 : Int64))) ||| ((hi + (1 : Int64)) &&& (own_lm (n - (8 : Int32)))))), .second, .val (.long (lo + (1 : Int64))), .second, .val (.long (own_lm (n - (8 : Int32)))), .second, .val (.long (1 : Int64)), .second] [(.int (lcmpW (own_get g 8) (lo + (1 : Int64))))])) _
        refine XS.ifNo X36.here hx rfl (hb hby at_230) rfl ((if0 _ _).trans (teq ((lw_eq _ _).mpr r1)).2) ?_
        show Steps p.tables e below (T36.setTop (mkF m 233 #[.val (.long q1), .second, .val (.long q2), .second, .val (.int p3), .val (.int p4), .val (.int n), .val (.int tt), .val (.long hi), .second, .val (.long lo), .second, .val (.ref b12), .val (.ref b20), .val (.long (own_get g 0)), .second, .val (.long (own_get g 8)), .second, .val (.long ((hi &&& ((own_lm (n - (8 : Int32))) ^^^ (-1 : Int64))) ||| ((hi + (1 : Int64)) &&& (own_lm (n - (8 : Int32)))))), .second, .val (.long (lo + (1 : Int64))), .second, .val (.long (own_lm (n - (8 : Int32)))), .second, .val (.long (1 : Int64)), .second] [])) _
        refine XS.iconst X36.here hx rfl (hb hby at_233) ?_
        show Steps p.tables e below (T36.setTop (mkF m 234 #[.val (.long q1), .second, .val (.long q2), .second, .val (.int p3), .val (.int p4), .val (.int n), .val (.int tt), .val (.long hi), .second, .val (.long lo), .second, .val (.ref b12), .val (.ref b20), .val (.long (own_get g 0)), .second, .val (.long (own_get g 8)), .second, .val (.long ((hi &&& ((own_lm (n - (8 : Int32))) ^^^ (-1 : Int64))) ||| ((hi + (1 : Int64)) &&& (own_lm (n - (8 : Int32)))))), .second, .val (.long (lo + (1 : Int64))), .second, .val (.long (own_lm (n - (8 : Int32)))), .second, .val (.long (1 : Int64)), .second] [(.int (1 : Int32))])) _
        refine XS.goto X36.here hx rfl (pc0 := 234) (pc' := 238) rfl (hb hby at_234) (by decide) (by decide) ?_
        exact kt)
      obtain ⟨fs, hr, hrun, hended, hW, hsame⟩ := X36.leave (v := some (.int (1 : Int32))) (fun h => by rw [Bd.returns] at h; cases h)
      refine ⟨_, _, pre38 _ ?_, hrun, hended, _, _, rfl, ?_, ⟨_, rfl⟩, hW, hsame.mono (by decide) (by decide)⟩
      · show Steps p.tables e below (T36.setTop (mkF m 238 #[.val (.long q1), .second, .val (.long q2), .second, .val (.int p3), .val (.int p4), .val (.int n), .val (.int tt), .val (.long hi), .second, .val (.long lo), .second, .val (.ref b12), .val (.ref b20), .val (.long (own_get g 0)), .second, .val (.long (own_get g 8)), .second, .val (.long ((hi &&& ((own_lm (n - (8 : Int32))) ^^^ (-1 : Int64))) ||| ((hi + (1 : Int64)) &&& (own_lm (n - (8 : Int32)))))), .second, .val (.long (lo + (1 : Int64))), .second, .val (.long (own_lm (n - (8 : Int32)))), .second, .val (.long (1 : Int64)), .second] [(.int (1 : Int32))])) _
        exact retN X36 hx (t := .boolean) Bd.returns (by simp) (hb hby at_238) hr
      · show Q0 Z q1 q2 p3 p4 h0 n0 _ T36.heap _
        rw [e36]
        exact ⟨rfl, N36⟩
    · obtain ⟨r1, r2⟩ := own_finB (d := 0) hk k8 hk16 hlo hhi P26 (Or.inr ⟨cl, rfl⟩)
      have pre39 : ∀ t, Steps p.tables e below (T36.setTop (mkF m 238 #[.val (.long q1), .second, .val (.long q2), .second, .val (.int p3), .val (.int p4), .val (.int n), .val (.int tt), .val (.long hi), .second, .val (.long lo), .second, .val (.ref b12), .val (.ref b20), .val (.long (own_get g 0)), .second, .val (.long (own_get g 8)), .second, .val (.long ((hi &&& ((own_lm (n - (8 : Int32))) ^^^ (-1 : Int64))) ||| ((hi + (0 : Int64)) &&& (own_lm (n - (8 : Int32)))))), .second, .val (.long (lo + (1 : Int64))), .second, .val (.long (own_lm (n - (8 : Int32)))), .second, .val (.long (0 : Int64)), .second] [(.int (1 : Int32))])) t → Steps p.tables e below (s₁.setTop (entryFrame m #[(.long q1), (.long q2), (.int p3), (.int p4)] maxLocals)) t := fun t kt => pre37 t (by
        show Steps p.tables e below (T36.setTop (mkF m 173 #[.val (.long q1), .second, .val (.long q2), .second, .val (.int p3), .val (.int p4), .val (.int n), .val (.int tt), .val (.long hi), .second, .val (.long lo), .second, .val (.ref b12), .val (.ref b20), .val (.long (own_get g 0)), .second, .val (.long (own_get g 8)), .second, .unset, .unset, .unset, .unset, .unset, .unset, .unset, .unset] [(.long (own_lm (n - (8 : Int32))))])) _
        refine XS.lstore X36.here hx rfl (hb hby at_173) rfl (l' := #[.val (.long q1), .second, .val (.long q2), .second, .val (.int p3), .val (.int p4), .val (.int n), .val (.int tt), .val (.long hi), .second, .val (.long lo), .second, .val (.ref b12), .val (.ref b20), .val (.long (own_get g 0)), .second, .val (.long (own_get g 8)), .second, .unset, .unset, .unset, .unset, .val (.long (own_lm (n - (8 : Int32)))), .second, .unset, .unset]) rfl ?_
        show Steps p.tables e below (T36.setTop (mkF m 175 #[.val (.long q1), .second, .val (.long q2), .second, .val (.int p3), .val (.int p4), .val (.int n), .val (.int tt), .val (.long hi), .second, .val (.long lo), .second, .val (.ref b12), .val (.ref b20), .val (.long (own_get g 0)), .second, .val (.long (own_get g 8)), .second, .unset, .unset, .unset, .unset, .val (.long (own_lm (n - (8 : Int32)))), .second, .unset, .unset] [])) _
        refine XS.lload X36.here hx rfl (hb hby at_175) rfl ?_
        show Steps p.tables e below (T36.setTop (mkF m 177 #[.val (.long q1), .second, .val (.long q2), .second, .val (.int p3), .val (.int p4), .val (.int n), .val (.int tt), .val (.long hi), .second, .val (.long lo), .second, .val (.ref b12), .val (.ref b20), .val (.long (own_get g 0)), .second, .val (.long (own_get g 8)), .second, .unset, .unset, .unset, .unset, .val (.long (own_lm (n - (8 : Int32)))), .second, .unset, .unset] [(.long lo)])) _
        refine X36.ldc2Long hx hown (mvT hZ (hw _ (List.mem_of_getElem? (i := 31) rfl))) (g := (mkF m 177 #[.val (.long q1), .second, .val (.long q2), .second, .val (.int p3), .val (.int p4), .val (.int n), .val (.int tt), .val (.long hi), .second, .val (.long lo), .second, .val (.ref b12), .val (.ref b20), .val (.long (own_get g 0)), .second, .val (.long (own_get g 8)), .second, .unset, .unset, .unset, .unset, .val (.long (own_lm (n - (8 : Int32)))), .second, .unset, .unset] [(.long lo)])) rfl (hb hby at_177) _ ?_
        show Steps p.tables e below (T36.setTop (mkF m 180 #[.val (.long q1), .second, .val (.long q2), .second, .val (.int p3), .val (.int p4), .val (.int n), .val (.int tt), .val (.long hi), .second, .val (.long lo), .second, .val (.ref b12), .val (.ref b20), .val (.long (own_get g 0)), .second, .val (.long (own_get g 8)), .second, .unset, .unset, .unset, .unset, .val (.long (own_lm (n - (8 : Int32)))), .second, .unset, .unset] [(.long (-1 : Int64)), (.long lo)])) _
        refine XS.lcmp X36.here hx rfl (hb hby at_180) rfl ?_
        show Steps p.tables e below (T36.setTop (mkF m 181 #[.val (.long q1), .second, .val (.long q2), .second, .val (.int p3), .val (.int p4), .val (.int n), .val (.int tt), .val (.long hi), .second, .val (.long lo), .second, .val (.ref b12), .val (.ref b20), .val (.long (own_get g 0)), .second, .val (.long (own_get g 8)), .second, .unset, .unset, .unset, .unset, .val (.long (own_lm (n - (8 : Int32)))), .second, .unset, .unset] [(.int (lcmpW lo (-1 : Int64)))])) _
        refine XS.ifYes X36.here hx rfl (pc0 := 181) (pc' := 188) rfl (hb hby at_181) rfl ((if0 _ _).trans (feq (fun z => cl ((lw_eq _ _).mp z))).2) (by decide) (by decide) ?_
        show Steps p.tables e below (T36.setTop (mkF m 188 #[.val (.long q1), .second, .val (.long q2), .second, .val (.int p3), .val (.int p4), .val (.int n), .val (.int tt), .val (.long hi), .second, .val (.long lo), .second, .val (.ref b12), .val (.ref b20), .val (.long (own_get g 0)), .second, .val (.long (own_get g 8)), .second, .unset, .unset, .unset, .unset, .val (.long (own_lm (n - (8 : Int32)))), .second, .unset, .unset] [])) _
        refine XS.lconst X36.here hx rfl (hb hby at_188) ?_
        show Steps p.tables e below (T36.setTop (mkF m 189 #[.val (.long q1), .second, .val (.long q2), .second, .val (.int p3), .val (.int p4), .val (.int n), .val (.int tt), .val (.long hi), .second, .val (.long lo), .second, .val (.ref b12), .val (.ref b20), .val (.long (own_get g 0)), .second, .val (.long (own_get g 8)), .second, .unset, .unset, .unset, .unset, .val (.long (own_lm (n - (8 : Int32)))), .second, .unset, .unset] [(.long (0 : Int64))])) _
        refine XS.lstore X36.here hx rfl (hb hby at_189) rfl (l' := #[.val (.long q1), .second, .val (.long q2), .second, .val (.int p3), .val (.int p4), .val (.int n), .val (.int tt), .val (.long hi), .second, .val (.long lo), .second, .val (.ref b12), .val (.ref b20), .val (.long (own_get g 0)), .second, .val (.long (own_get g 8)), .second, .unset, .unset, .unset, .unset, .val (.long (own_lm (n - (8 : Int32)))), .second, .val (.long (0 : Int64)), .second]) rfl ?_
        show Steps p.tables e below (T36.setTop (mkF m 191 #[.val (.long q1), .second, .val (.long q2), .second, .val (.int p3), .val (.int p4), .val (.int n), .val (.int tt), .val (.long hi), .second, .val (.long lo), .second, .val (.ref b12), .val (.ref b20), .val (.long (own_get g 0)), .second, .val (.long (own_get g 8)), .second, .unset, .unset, .unset, .unset, .val (.long (own_lm (n - (8 : Int32)))), .second, .val (.long (0 : Int64)), .second] [])) _
        refine XS.lload X36.here hx rfl (hb hby at_191) rfl ?_
        show Steps p.tables e below (T36.setTop (mkF m 193 #[.val (.long q1), .second, .val (.long q2), .second, .val (.int p3), .val (.int p4), .val (.int n), .val (.int tt), .val (.long hi), .second, .val (.long lo), .second, .val (.ref b12), .val (.ref b20), .val (.long (own_get g 0)), .second, .val (.long (own_get g 8)), .second, .unset, .unset, .unset, .unset, .val (.long (own_lm (n - (8 : Int32)))), .second, .val (.long (0 : Int64)), .second] [(.long lo)])) _
        refine XS.lconst X36.here hx rfl (hb hby at_193) ?_
        show Steps p.tables e below (T36.setTop (mkF m 194 #[.val (.long q1), .second, .val (.long q2), .second, .val (.int p3), .val (.int p4), .val (.int n), .val (.int tt), .val (.long hi), .second, .val (.long lo), .second, .val (.ref b12), .val (.ref b20), .val (.long (own_get g 0)), .second, .val (.long (own_get g 8)), .second, .unset, .unset, .unset, .unset, .val (.long (own_lm (n - (8 : Int32)))), .second, .val (.long (0 : Int64)), .second] [(.long (1 : Int64)), (.long lo)])) _
        refine XS.ladd X36.here hx rfl (hb hby at_194) rfl ?_
        show Steps p.tables e below (T36.setTop (mkF m 195 #[.val (.long q1), .second, .val (.long q2), .second, .val (.int p3), .val (.int p4), .val (.int n), .val (.int tt), .val (.long hi), .second, .val (.long lo), .second, .val (.ref b12), .val (.ref b20), .val (.long (own_get g 0)), .second, .val (.long (own_get g 8)), .second, .unset, .unset, .unset, .unset, .val (.long (own_lm (n - (8 : Int32)))), .second, .val (.long (0 : Int64)), .second] [(.long (lo + (1 : Int64)))])) _
        refine XS.lstore X36.here hx rfl (hb hby at_195) rfl (l' := #[.val (.long q1), .second, .val (.long q2), .second, .val (.int p3), .val (.int p4), .val (.int n), .val (.int tt), .val (.long hi), .second, .val (.long lo), .second, .val (.ref b12), .val (.ref b20), .val (.long (own_get g 0)), .second, .val (.long (own_get g 8)), .second, .unset, .unset, .val (.long (lo + (1 : Int64))), .second, .val (.long (own_lm (n - (8 : Int32)))), .second, .val (.long (0 : Int64)), .second]) rfl ?_
        show Steps p.tables e below (T36.setTop (mkF m 197 #[.val (.long q1), .second, .val (.long q2), .second, .val (.int p3), .val (.int p4), .val (.int n), .val (.int tt), .val (.long hi), .second, .val (.long lo), .second, .val (.ref b12), .val (.ref b20), .val (.long (own_get g 0)), .second, .val (.long (own_get g 8)), .second, .unset, .unset, .val (.long (lo + (1 : Int64))), .second, .val (.long (own_lm (n - (8 : Int32)))), .second, .val (.long (0 : Int64)), .second] [])) _
        refine XS.lload X36.here hx rfl (hb hby at_197) rfl ?_
        show Steps p.tables e below (T36.setTop (mkF m 199 #[.val (.long q1), .second, .val (.long q2), .second, .val (.int p3), .val (.int p4), .val (.int n), .val (.int tt), .val (.long hi), .second, .val (.long lo), .second, .val (.ref b12), .val (.ref b20), .val (.long (own_get g 0)), .second, .val (.long (own_get g 8)), .second, .unset, .unset, .val (.long (lo + (1 : Int64))), .second, .val (.long (own_lm (n - (8 : Int32)))), .second, .val (.long (0 : Int64)), .second] [(.long hi)])) _
        refine XS.lload X36.here hx rfl (hb hby at_199) rfl ?_
        show Steps p.tables e below (T36.setTop (mkF m 201 #[.val (.long q1), .second, .val (.long q2), .second, .val (.int p3), .val (.int p4), .val (.int n), .val (.int tt), .val (.long hi), .second, .val (.long lo), .second, .val (.ref b12), .val (.ref b20), .val (.long (own_get g 0)), .second, .val (.long (own_get g 8)), .second, .unset, .unset, .val (.long (lo + (1 : Int64))), .second, .val (.long (own_lm (n - (8 : Int32)))), .second, .val (.long (0 : Int64)), .second] [(.long (own_lm (n - (8 : Int32)))), (.long hi)])) _
        refine X36.ldc2Long hx hown (mvT hZ (hw _ (List.mem_of_getElem? (i := 31) rfl))) (g := (mkF m 201 #[.val (.long q1), .second, .val (.long q2), .second, .val (.int p3), .val (.int p4), .val (.int n), .val (.int tt), .val (.long hi), .second, .val (.long lo), .second, .val (.ref b12), .val (.ref b20), .val (.long (own_get g 0)), .second, .val (.long (own_get g 8)), .second, .unset, .unset, .val (.long (lo + (1 : Int64))), .second, .val (.long (own_lm (n - (8 : Int32)))), .second, .val (.long (0 : Int64)), .second] [(.long (own_lm (n - (8 : Int32)))), (.long hi)])) rfl (hb hby at_201) _ ?_
        show Steps p.tables e below (T36.setTop (mkF m 204 #[.val (.long q1), .second, .val (.long q2), .second, .val (.int p3), .val (.int p4), .val (.int n), .val (.int tt), .val (.long hi), .second, .val (.long lo), .second, .val (.ref b12), .val (.ref b20), .val (.long (own_get g 0)), .second, .val (.long (own_get g 8)), .second, .unset, .unset, .val (.long (lo + (1 : Int64))), .second, .val (.long (own_lm (n - (8 : Int32)))), .second, .val (.long (0 : Int64)), .second] [(.long (-1 : Int64)), (.long (own_lm (n - (8 : Int32)))), (.long hi)])) _
        refine XS.lxor X36.here hx rfl (hb hby at_204) rfl ?_
        show Steps p.tables e below (T36.setTop (mkF m 205 #[.val (.long q1), .second, .val (.long q2), .second, .val (.int p3), .val (.int p4), .val (.int n), .val (.int tt), .val (.long hi), .second, .val (.long lo), .second, .val (.ref b12), .val (.ref b20), .val (.long (own_get g 0)), .second, .val (.long (own_get g 8)), .second, .unset, .unset, .val (.long (lo + (1 : Int64))), .second, .val (.long (own_lm (n - (8 : Int32)))), .second, .val (.long (0 : Int64)), .second] [(.long ((own_lm (n - (8 : Int32))) ^^^ (-1 : Int64))), (.long hi)])) _
        refine XS.land X36.here hx rfl (hb hby at_205) rfl ?_
        show Steps p.tables e below (T36.setTop (mkF m 206 #[.val (.long q1), .second, .val (.long q2), .second, .val (.int p3), .val (.int p4), .val (.int n), .val (.int tt), .val (.long hi), .second, .val (.long lo), .second, .val (.ref b12), .val (.ref b20), .val (.long (own_get g 0)), .second, .val (.long (own_get g 8)), .second, .unset, .unset, .val (.long (lo + (1 : Int64))), .second, .val (.long (own_lm (n - (8 : Int32)))), .second, .val (.long (0 : Int64)), .second] [(.long (hi &&& ((own_lm (n - (8 : Int32))) ^^^ (-1 : Int64))))])) _
        refine XS.lload X36.here hx rfl (hb hby at_206) rfl ?_
        show Steps p.tables e below (T36.setTop (mkF m 208 #[.val (.long q1), .second, .val (.long q2), .second, .val (.int p3), .val (.int p4), .val (.int n), .val (.int tt), .val (.long hi), .second, .val (.long lo), .second, .val (.ref b12), .val (.ref b20), .val (.long (own_get g 0)), .second, .val (.long (own_get g 8)), .second, .unset, .unset, .val (.long (lo + (1 : Int64))), .second, .val (.long (own_lm (n - (8 : Int32)))), .second, .val (.long (0 : Int64)), .second] [(.long hi), (.long (hi &&& ((own_lm (n - (8 : Int32))) ^^^ (-1 : Int64))))])) _
        refine XS.lload X36.here hx rfl (hb hby at_208) rfl ?_
        show Steps p.tables e below (T36.setTop (mkF m 210 #[.val (.long q1), .second, .val (.long q2), .second, .val (.int p3), .val (.int p4), .val (.int n), .val (.int tt), .val (.long hi), .second, .val (.long lo), .second, .val (.ref b12), .val (.ref b20), .val (.long (own_get g 0)), .second, .val (.long (own_get g 8)), .second, .unset, .unset, .val (.long (lo + (1 : Int64))), .second, .val (.long (own_lm (n - (8 : Int32)))), .second, .val (.long (0 : Int64)), .second] [(.long (0 : Int64)), (.long hi), (.long (hi &&& ((own_lm (n - (8 : Int32))) ^^^ (-1 : Int64))))])) _
        refine XS.ladd X36.here hx rfl (hb hby at_210) rfl ?_
        show Steps p.tables e below (T36.setTop (mkF m 211 #[.val (.long q1), .second, .val (.long q2), .second, .val (.int p3), .val (.int p4), .val (.int n), .val (.int tt), .val (.long hi), .second, .val (.long lo), .second, .val (.ref b12), .val (.ref b20), .val (.long (own_get g 0)), .second, .val (.long (own_get g 8)), .second, .unset, .unset, .val (.long (lo + (1 : Int64))), .second, .val (.long (own_lm (n - (8 : Int32)))), .second, .val (.long (0 : Int64)), .second] [(.long (hi + (0 : Int64))), (.long (hi &&& ((own_lm (n - (8 : Int32))) ^^^ (-1 : Int64))))])) _
        refine XS.lload X36.here hx rfl (hb hby at_211) rfl ?_
        show Steps p.tables e below (T36.setTop (mkF m 213 #[.val (.long q1), .second, .val (.long q2), .second, .val (.int p3), .val (.int p4), .val (.int n), .val (.int tt), .val (.long hi), .second, .val (.long lo), .second, .val (.ref b12), .val (.ref b20), .val (.long (own_get g 0)), .second, .val (.long (own_get g 8)), .second, .unset, .unset, .val (.long (lo + (1 : Int64))), .second, .val (.long (own_lm (n - (8 : Int32)))), .second, .val (.long (0 : Int64)), .second] [(.long (own_lm (n - (8 : Int32)))), (.long (hi + (0 : Int64))), (.long (hi &&& ((own_lm (n - (8 : Int32))) ^^^ (-1 : Int64))))])) _
        refine XS.land X36.here hx rfl (hb hby at_213) rfl ?_
        show Steps p.tables e below (T36.setTop (mkF m 214 #[.val (.long q1), .second, .val (.long q2), .second, .val (.int p3), .val (.int p4), .val (.int n), .val (.int tt), .val (.long hi), .second, .val (.long lo), .second, .val (.ref b12), .val (.ref b20), .val (.long (own_get g 0)), .second, .val (.long (own_get g 8)), .second, .unset, .unset, .val (.long (lo + (1 : Int64))), .second, .val (.long (own_lm (n - (8 : Int32)))), .second, .val (.long (0 : Int64)), .second] [(.long ((hi + (0 : Int64)) &&& (own_lm (n - (8 : Int32))))), (.long (hi &&& ((own_lm (n - (8 : Int32))) ^^^ (-1 : Int64))))])) _
        refine XS.lor X36.here hx rfl (hb hby at_214) rfl ?_
        show Steps p.tables e below (T36.setTop (mkF m 215 #[.val (.long q1), .second, .val (.long q2), .second, .val (.int p3), .val (.int p4), .val (.int n), .val (.int tt), .val (.long hi), .second, .val (.long lo), .second, .val (.ref b12), .val (.ref b20), .val (.long (own_get g 0)), .second, .val (.long (own_get g 8)), .second, .unset, .unset, .val (.long (lo + (1 : Int64))), .second, .val (.long (own_lm (n - (8 : Int32)))), .second, .val (.long (0 : Int64)), .second] [(.long ((hi &&& ((own_lm (n - (8 : Int32))) ^^^ (-1 : Int64))) ||| ((hi + (0 : Int64)) &&& (own_lm (n - (8 : Int32))))))])) _
        refine XS.lstore X36.here hx rfl (hb hby at_215) rfl (l' := #[.val (.long q1), .second, .val (.long q2), .second, .val (.int p3), .val (.int p4), .val (.int n), .val (.int tt), .val (.long hi), .second, .val (.long lo), .second, .val (.ref b12), .val (.ref b20), .val (.long (own_get g 0)), .second, .val (.long (own_get g 8)), .second, .val (.long ((hi &&& ((own_lm (n - (8 : Int32))) ^^^ (-1 : Int64))) ||| ((hi + (0 : Int64)) &&& (own_lm (n - (8 : Int32)))))), .second, .val (.long (lo + (1 : Int64))), .second, .val (.long (own_lm (n - (8 : Int32)))), .second, .val (.long (0 : Int64)), .second]) rfl ?_
        show Steps p.tables e below (T36.setTop (mkF m 217 #[.val (.long q1), .second, .val (.long q2), .second, .val (.int p3), .val (.int p4), .val (.int n), .val (.int tt), .val (.long hi), .second, .val (.long lo), .second, .val (.ref b12), .val (.ref b20), .val (.long (own_get g 0)), .second, .val (.long (own_get g 8)), .second, .val (.long ((hi &&& ((own_lm (n - (8 : Int32))) ^^^ (-1 : Int64))) ||| ((hi + (0 : Int64)) &&& (own_lm (n - (8 : Int32)))))), .second, .val (.long (lo + (1 : Int64))), .second, .val (.long (own_lm (n - (8 : Int32)))), .second, .val (.long (0 : Int64)), .second] [])) _
        refine XS.lload X36.here hx rfl (hb hby at_217) rfl ?_
        show Steps p.tables e below (T36.setTop (mkF m 219 #[.val (.long q1), .second, .val (.long q2), .second, .val (.int p3), .val (.int p4), .val (.int n), .val (.int tt), .val (.long hi), .second, .val (.long lo), .second, .val (.ref b12), .val (.ref b20), .val (.long (own_get g 0)), .second, .val (.long (own_get g 8)), .second, .val (.long ((hi &&& ((own_lm (n - (8 : Int32))) ^^^ (-1 : Int64))) ||| ((hi + (0 : Int64)) &&& (own_lm (n - (8 : Int32)))))), .second, .val (.long (lo + (1 : Int64))), .second, .val (.long (own_lm (n - (8 : Int32)))), .second, .val (.long (0 : Int64)), .second] [(.long (own_get g 0))])) _
        refine XS.lload X36.here hx rfl (hb hby at_219) rfl ?_
        show Steps p.tables e below (T36.setTop (mkF m 221 #[.val (.long q1), .second, .val (.long q2), .second, .val (.int p3), .val (.int p4), .val (.int n), .val (.int tt), .val (.long hi), .second, .val (.long lo), .second, .val (.ref b12), .val (.ref b20), .val (.long (own_get g 0)), .second, .val (.long (own_get g 8)), .second, .val (.long ((hi &&& ((own_lm (n - (8 : Int32))) ^^^ (-1 : Int64))) ||| ((hi + (0 : Int64)) &&& (own_lm (n - (8 : Int32)))))), .second, .val (.long (lo + (1 : Int64))), .second, .val (.long (own_lm (n - (8 : Int32)))), .second, .val (.long (0 : Int64)), .second] [(.long ((hi &&& ((own_lm (n - (8 : Int32))) ^^^ (-1 : Int64))) ||| ((hi + (0 : Int64)) &&& (own_lm (n - (8 : Int32)))))), (.long (own_get g 0))])) _
        refine XS.lcmp X36.here hx rfl (hb hby at_221) rfl ?_
        show Steps p.tables e below (T36.setTop (mkF m 222 #[.val (.long q1), .second, .val (.long q2), .second, .val (.int p3), .val (.int p4), .val (.int n), .val (.int tt), .val (.long hi), .second, .val (.long lo), .second, .val (.ref b12), .val (.ref b20), .val (.long (own_get g 0)), .second, .val (.long (own_get g 8)), .second, .val (.long ((hi &&& ((own_lm (n - (8 : Int32))) ^^^ (-1 : Int64))) ||| ((hi + (0 : Int64)) &&& (own_lm (n - (8 : Int32)))))), .second, .val (.long (lo + (1 : Int64))), .second, .val (.long (own_lm (n - (8 : Int32)))), .second, .val (.long (0 : Int64)), .second] [(.int (lcmpW (own_get g 0) ((hi &&& ((own_lm (n - (8 : Int32))) ^^^ (-1 : Int64))) ||| ((hi + (0 : Int64)) &&& (own_lm (n - (8 : Int32)))))))])) _
        refine XS.ifNo X36.here hx rfl (hb hby at_222) rfl ((if0 _ _).trans (teq ((lw_eq _ _).mpr r2)).2) ?_
        show Steps p.tables e below (T36.setTop (mkF m 225 #[.val (.long q1), .second, .val (.long q2), .second, .val (.int p3), .val (.int p4), .val (.int n), .val (.int tt), .val (.long hi), .second, .val (.long lo), .second, .val (.ref b12), .val (.ref b20), .val (.long (own_get g 0)), .second, .val (.long (own_get g 8)), .second, .val (.long ((hi &&& ((own_lm (n - (8 : Int32))) ^^^ (-1 : Int64))) ||| ((hi + (0 : Int64)) &&& (own_lm (n - (8 : Int32)))))), .second, .val (.long (lo + (1 : Int64))), .second, .val (.long (own_lm (n - (8 : Int32)))), .second, .val (.long (0 : Int64)), .second] [])) _
        refine XS.lload X36.here hx rfl (hb hby at_225) rfl ?_
        show Steps p.tables e below (T36.setTop (mkF m 227 #[.val (.long q1), .second, .val (.long q2), .second, .val (.int p3), .val (.int p4), .val (.int n), .val (.int tt), .val (.long hi), .second, .val (.long lo), .second, .val (.ref b12), .val (.ref b20), .val (.long (own_get g 0)), .second, .val (.long (own_get g 8)), .second, .val (.long ((hi &&& ((own_lm (n - (8 : Int32))) ^^^ (-1 : Int64))) ||| ((hi + (0 : Int64)) &&& (own_lm (n - (8 : Int32)))))), .second, .val (.long (lo + (1 : Int64))), .second, .val (.long (own_lm (n - (8 : Int32)))), .second, .val (.long (0 : Int64)), .second] [(.long (own_get g 8))])) _
        refine XS.lload X36.here hx rfl (hb hby at_227) rfl ?_
        show Steps p.tables e below (T36.setTop (mkF m 229 #[.val (.long q1), .second, .val (.long q2), .second, .val (.int p3), .val (.int p4), .val (.int n), .val (.int tt), .val (.long hi), .second, .val (.long lo), .second, .val (.ref b12), .val (.ref b20), .val (.long (own_get g 0)), .second, .val (.long (own_get g 8)), .second, .val (.long ((hi &&& ((own_lm (n - (8 : Int32))) ^^^ (-1 : Int64))) ||| ((hi + (0 : Int64)) &&& (own_lm (n - (8 : Int32)))))), .second, .val (.long (lo + (1 : Int64))), .second, .val (.long (own_lm (n - (8 : Int32)))), .second, .val (.long (0 : Int64)), .second] [(.long (lo + (1 : Int64))), (.long (own_get g 8))])) _
        refine XS.lcmp X36.here hx rfl (hb hby at_229) rfl ?_
        show Steps p.tables e below (T36.setTop (mkF m 230 #[.val (.long q1), .second, .val (.long q2), .second, .val (.int p3), .val (.int p4), .val (.int n), .val (.int tt), .val (.long hi), .second, .val (.long lo), .second, .val (.ref b12), .val (.ref b20), .val (.long (own_get g 0)), .second, .val (.long (own_get g 8)), .second, .val (.long ((hi &&& ((own_lm (n - (8 : Int32))) ^^^ (-1 : Int64))) ||| ((hi + (0 : Int64)) &&& (own_lm (n - (8 : Int32)))))), .second, .val (.long (lo + (1 : Int64))), .second, .val (.long (own_lm (n - (8 : Int32)))), .second, .val (.long (0 : Int64)), .second] [(.int (lcmpW (own_get g 8) (lo + (1 : Int64))))])) _
        refine XS.ifNo X36.here hx rfl (hb hby at_230) rfl ((if0 _ _).trans (teq ((lw_eq _ _).mpr r1)).2) ?_
        show Steps p.tables e below (T36.setTop (mkF m 233 #[.val (.long q1), .second, .val (.long q2), .second, .val (.int p3), .val (.int p4), .val (.int n), .val (.int tt), .val (.long hi), .second, .val (.long lo), .second, .val (.ref b12), .val (.ref b20), .val (.long (own_get g 0)), .second, .val (.long (own_get g 8)), .second, .val (.long ((hi &&& ((own_lm (n - (8 : Int32))) ^^^ (-1 : Int64))) ||| ((hi + (0 : Int64)) &&& (own_lm (n - (8 : Int32)))))), .second, .val (.long (lo + (1 : Int64))), .second, .val (.long (own_lm (n - (8 : Int32)))), .second, .val (.long (0 : Int64)), .second] [])) _
        refine XS.iconst X36.here hx rfl (hb hby at_233) ?_
        show Steps p.tables e below (T36.setTop (mkF m 234 #[.val (.long q1), .second, .val (.long q2), .second, .val (.int p3), .val (.int p4), .val (.int n), .val (.int tt), .val (.long hi), .second, .val (.long lo), .second, .val (.ref b12), .val (.ref b20), .val (.long (own_get g 0)), .second, .val (.long (own_get g 8)), .second, .val (.long ((hi &&& ((own_lm (n - (8 : Int32))) ^^^ (-1 : Int64))) ||| ((hi + (0 : Int64)) &&& (own_lm (n - (8 : Int32)))))), .second, .val (.long (lo + (1 : Int64))), .second, .val (.long (own_lm (n - (8 : Int32)))), .second, .val (.long (0 : Int64)), .second] [(.int (1 : Int32))])) _
        refine XS.goto X36.here hx rfl (pc0 := 234) (pc' := 238) rfl (hb hby at_234) (by decide) (by decide) ?_
        exact kt)
      obtain ⟨fs, hr, hrun, hended, hW, hsame⟩ := X36.leave (v := some (.int (1 : Int32))) (fun h => by rw [Bd.returns] at h; cases h)
      refine ⟨_, _, pre39 _ ?_, hrun, hended, _, _, rfl, ?_, ⟨_, rfl⟩, hW, hsame.mono (by decide) (by decide)⟩
      · show Steps p.tables e below (T36.setTop (mkF m 238 #[.val (.long q1), .second, .val (.long q2), .second, .val (.int p3), .val (.int p4), .val (.int n), .val (.int tt), .val (.long hi), .second, .val (.long lo), .second, .val (.ref b12), .val (.ref b20), .val (.long (own_get g 0)), .second, .val (.long (own_get g 8)), .second, .val (.long ((hi &&& ((own_lm (n - (8 : Int32))) ^^^ (-1 : Int64))) ||| ((hi + (0 : Int64)) &&& (own_lm (n - (8 : Int32)))))), .second, .val (.long (lo + (1 : Int64))), .second, .val (.long (own_lm (n - (8 : Int32)))), .second, .val (.long (0 : Int64)), .second] [(.int (1 : Int32))])) _
        exact retN X36 hx (t := .boolean) Bd.returns (by simp) (hb hby at_238) hr
      · show Q0 Z q1 q2 p3 p4 h0 n0 _ T36.heap _
        rw [e36]
        exact ⟨rfl, N36⟩
  · have k8 : k ≤ 8 := Nat.le_of_not_lt (fun q => c8 ((own_n8 hk).mpr q))
    obtain ⟨r1, r2⟩ := own_finA hk hk1 k8 hlo hhi P26
    have pre40 : ∀ t, Steps p.tables e below (T32.setTop (mkF m 134 #[.val (.long q1), .second, .val (.long q2), .second, .val (.int p3), .val (.int p4), .val (.int n), .val (.int tt), .val (.long hi), .second, .val (.long lo), .second, .val (.ref b12), .val (.ref b20), .val (.long (own_get g 0)), .second, .val (.long (own_get g 8)), .second, .unset, .unset, .unset, .unset, .unset, .unset, .unset, .unset] [(.int n)])) t → Steps p.tables e below (s₁.setTop (entryFrame m #[(.long q1), (.long q2), (.int p3), (.int p4)] maxLocals)) t := fun t kt => pre34 t (by
      show Steps p.tables e below (T32.setTop (mkF m 125 #[.val (.long q1), .second, .val (.long q2), .second, .val (.int p3), .val (.int p4), .val (.int n), .val (.int tt), .val (.long hi), .second, .val (.long lo), .second, .val (.ref b12), .val (.ref b20), .val (.long (own_get g 0)), .second, .val (.long (own_get g 8)), .second, .unset, .unset, .unset, .unset, .unset, .unset, .unset, .unset] [])) _
      refine XS.iload X32.here hx rfl (hb hby at_125) rfl ?_
      show Steps p.tables e below (T32.setTop (mkF m 127 #[.val (.long q1), .second, .val (.long q2), .second, .val (.int p3), .val (.int p4), .val (.int n), .val (.int tt), .val (.long hi), .second, .val (.long lo), .second, .val (.ref b12), .val (.ref b20), .val (.long (own_get g 0)), .second, .val (.long (own_get g 8)), .second, .unset, .unset, .unset, .unset, .unset, .unset, .unset, .unset] [(.int n)])) _
      refine XS.bipush X32.here hx rfl (hb hby at_127) ?_
      show Steps p.tables e below (T32.setTop (mkF m 129 #[.val (.long q1), .second, .val (.long q2), .second, .val (.int p3), .val (.int p4), .val (.int n), .val (.int tt), .val (.long hi), .second, .val (.long lo), .second, .val (.ref b12), .val (.ref b20), .val (.long (own_get g 0)), .second, .val (.long (own_get g 8)), .second, .unset, .unset, .unset, .unset, .unset, .unset, .unset, .unset] [(.int (8 : Int32)), (.int n)])) _
      refine XS.icmpNo X32.here hx rfl (hb hby at_129) rfl (flt c8).2.2.1 ?_
      show Steps p.tables e below (T32.setTop (mkF m 132 #[.val (.long q1), .second, .val (.long q2), .second, .val (.int p3), .val (.int p4), .val (.int n), .val (.int tt), .val (.long hi), .second, .val (.long lo), .second, .val (.ref b12), .val (.ref b20), .val (.long (own_get g 0)), .second, .val (.long (own_get g 8)), .second, .unset, .unset, .unset, .unset, .unset, .unset, .unset, .unset] [])) _
      refine XS.iload X32.here hx rfl (hb hby at_132) rfl ?_
      exact kt)
    obtain ⟨_, _, ⟨T41, L41, k41, n41⟩, -, X41, ⟨Lc41, hQ41, l41, y41, z41⟩, st41⟩ := Jvm.LawKit.callS X32 hx (y := (⟨"saltgrove/aes/CounterKeystreamIncrementPinLaw", "lowMask", "(I)J"⟩ : MethodName)) hown (mvT hZ (hw _ (List.mem_of_getElem? (i := 0) rfl))) (mvT hZ (hw _ (List.mem_of_getElem? (i := 1) rfl))) (mvT hZ (hw _ (List.mem_of_getElem? (i := 2) rfl))) (mvT hZ (hw _ (List.mem_of_getElem? (i := 3) rfl))) (by decide) (backOf (W := 0) (rm1 l Z a0 hw [] n T26.heap n0 Zf) hZ (hw _ (List.mem_of_getElem? (i := 3) rfl)) (hw _ (List.mem_of_getElem? (i := 2) rfl)) (by decide) (by decide)) (g := (mkF m 134 #[.val (.long q1), .second, .val (.long q2), .second, .val (.int p3), .val (.int p4), .val (.int n), .val (.int tt), .val (.long hi), .second, .val (.long lo), .second, .val (.ref b12), .val (.ref b20), .val (.long (own_get g 0)), .second, .val (.long (own_get g 8)), .second, .unset, .unset, .unset, .unset, .unset, .unset, .unset, .unset] [(.int n)])) rfl (by rw [hml]; rfl) (argsL := [(.int n)]) (rest := []) (lenOf pd_0_0 rfl) rfl (by show 2 * 0 + _ ≤ _; exact Nat.le_of_eq rfl) (hb hby at_134) (fun _ _ => ⟨rfl, e32, (by decide : 4 + 0 ≤ _), (by decide : 550 + 0 ≤ _)⟩)
    dsimp only [Pt.U, Pt.locs, Pt.cells, Pt.slots] at X41 l41 y41 z41 st41 hQ41
    subst l41 y41 z41
    obtain ⟨rfl, N41q, e41⟩ := hQ41
    have N41 := Fr.app N32 N41q
    have pre42 : ∀ t, Steps p.tables e below (T41.setTop (mkF m 137 #[.val (.long q1), .second, .val (.long q2), .second, .val (.int p3), .val (.int p4), .val (.int n), .val (.int tt), .val (.long hi), .second, .val (.long lo), .second, .val (.ref b12), .val (.ref b20), .val (.long (own_get g 0)), .second, .val (.long (own_get g 8)), .second, .unset, .unset, .unset, .unset, .unset, .unset, .unset, .unset] [(.long (own_lm n))])) t → Steps p.tables e below (s₁.setTop (entryFrame m #[(.long q1), (.long q2), (.int p3), (.int p4)] maxLocals)) t := fun t kt => pre40 t (st41 t kt)
    have pre43 : ∀ t, Steps p.tables e below (T41.setTop (mkF m 238 #[.val (.long q1), .second, .val (.long q2), .second, .val (.int p3), .val (.int p4), .val (.int n), .val (.int tt), .val (.long hi), .second, .val (.long lo), .second, .val (.ref b12), .val (.ref b20), .val (.long (own_get g 0)), .second, .val (.long (own_get g 8)), .second, .val (.long hi), .second, .val (.long ((lo &&& ((own_lm n) ^^^ (-1 : Int64))) ||| ((lo + (1 : Int64)) &&& (own_lm n)))), .second, .val (.long (own_lm n)), .second, .unset, .unset] [(.int (1 : Int32))])) t → Steps p.tables e below (s₁.setTop (entryFrame m #[(.long q1), (.long q2), (.int p3), (.int p4)] maxLocals)) t := fun t kt => pre42 t (by
      show Steps p.tables e below (T41.setTop (mkF m 137 #[.val (.long q1), .second, .val (.long q2), .second, .val (.int p3), .val (.int p4), .val (.int n), .val (.int tt), .val (.long hi), .second, .val (.long lo), .second, .val (.ref b12), .val (.ref b20), .val (.long (own_get g 0)), .second, .val (.long (own_get g 8)), .second, .unset, .unset, .unset, .unset, .unset, .unset, .unset, .unset] [(.long (own_lm n))])) _
      refine XS.lstore X41.here hx rfl (hb hby at_137) rfl (l' := #[.val (.long q1), .second, .val (.long q2), .second, .val (.int p3), .val (.int p4), .val (.int n), .val (.int tt), .val (.long hi), .second, .val (.long lo), .second, .val (.ref b12), .val (.ref b20), .val (.long (own_get g 0)), .second, .val (.long (own_get g 8)), .second, .unset, .unset, .unset, .unset, .val (.long (own_lm n)), .second, .unset, .unset]) rfl ?_
      show Steps p.tables e below (T41.setTop (mkF m 139 #[.val (.long q1), .second, .val (.long q2), .second, .val (.int p3), .val (.int p4), .val (.int n), .val (.int tt), .val (.long hi), .second, .val (.long lo), .second, .val (.ref b12), .val (.ref b20), .val (.long (own_get g 0)), .second, .val (.long (own_get g 8)), .second, .unset, .unset, .unset, .unset, .val (.long (own_lm n)), .second, .unset, .unset] [])) _
      refine XS.lload X41.here hx rfl (hb hby at_139) rfl ?_
      show Steps p.tables e below (T41.setTop (mkF m 141 #[.val (.long q1), .second, .val (.long q2), .second, .val (.int p3), .val (.int p4), .val (.int n), .val (.int tt), .val (.long hi), .second, .val (.long lo), .second, .val (.ref b12), .val (.ref b20), .val (.long (own_get g 0)), .second, .val (.long (own_get g 8)), .second, .unset, .unset, .unset, .unset, .val (.long (own_lm n)), .second, .unset, .unset] [(.long lo)])) _
      refine XS.lload X41.here hx rfl (hb hby at_141) rfl ?_
      show Steps p.tables e below (T41.setTop (mkF m 143 #[.val (.long q1), .second, .val (.long q2), .second, .val (.int p3), .val (.int p4), .val (.int n), .val (.int tt), .val (.long hi), .second, .val (.long lo), .second, .val (.ref b12), .val (.ref b20), .val (.long (own_get g 0)), .second, .val (.long (own_get g 8)), .second, .unset, .unset, .unset, .unset, .val (.long (own_lm n)), .second, .unset, .unset] [(.long (own_lm n)), (.long lo)])) _
      refine X41.ldc2Long hx hown (mvT hZ (hw _ (List.mem_of_getElem? (i := 31) rfl))) (g := (mkF m 143 #[.val (.long q1), .second, .val (.long q2), .second, .val (.int p3), .val (.int p4), .val (.int n), .val (.int tt), .val (.long hi), .second, .val (.long lo), .second, .val (.ref b12), .val (.ref b20), .val (.long (own_get g 0)), .second, .val (.long (own_get g 8)), .second, .unset, .unset, .unset, .unset, .val (.long (own_lm n)), .second, .unset, .unset] [(.long (own_lm n)), (.long lo)])) rfl (hb hby at_143) _ ?_
      show Steps p.tables e below (T41.setTop (mkF m 146 #[.val (.long q1), .second, .val (.long q2), .second, .val (.int p3), .val (.int p4), .val (.int n), .val (.int tt), .val (.long hi), .second, .val (.long lo), .second, .val (.ref b12), .val (.ref b20), .val (.long (own_get g 0)), .second, .val (.long (own_get g 8)), .second, .unset, .unset, .unset, .unset, .val (.long (own_lm n)), .second, .unset, .unset] [(.long (-1 : Int64)), (.long (own_lm n)), (.long lo)])) _
      refine XS.lxor X41.here hx rfl (hb hby at_146) rfl ?_
      show Steps p.tables e below (T41.setTop (mkF m 147 #[.val (.long q1), .second, .val (.long q2), .second, .val (.int p3), .val (.int p4), .val (.int n), .val (.int tt), .val (.long hi), .second, .val (.long lo), .second, .val (.ref b12), .val (.ref b20), .val (.long (own_get g 0)), .second, .val (.long (own_get g 8)), .second, .unset, .unset, .unset, .unset, .val (.long (own_lm n)), .second, .unset, .unset] [(.long ((own_lm n) ^^^ (-1 : Int64))), (.long lo)])) _
      refine XS.land X41.here hx rfl (hb hby at_147) rfl ?_
      show Steps p.tables e below (T41.setTop (mkF m 148 #[.val (.long q1), .second, .val (.long q2), .second, .val (.int p3), .val (.int p4), .val (.int n), .val (.int tt), .val (.long hi), .second, .val (.long lo), .second, .val (.ref b12), .val (.ref b20), .val (.long (own_get g 0)), .second, .val (.long (own_get g 8)), .second, .unset, .unset, .unset, .unset, .val (.long (own_lm n)), .second, .unset, .unset] [(.long (lo &&& ((own_lm n) ^^^ (-1 : Int64))))])) _
      refine XS.lload X41.here hx rfl (hb hby at_148) rfl ?_
      show Steps p.tables e below (T41.setTop (mkF m 150 #[.val (.long q1), .second, .val (.long q2), .second, .val (.int p3), .val (.int p4), .val (.int n), .val (.int tt), .val (.long hi), .second, .val (.long lo), .second, .val (.ref b12), .val (.ref b20), .val (.long (own_get g 0)), .second, .val (.long (own_get g 8)), .second, .unset, .unset, .unset, .unset, .val (.long (own_lm n)), .second, .unset, .unset] [(.long lo), (.long (lo &&& ((own_lm n) ^^^ (-1 : Int64))))])) _
      refine XS.lconst X41.here hx rfl (hb hby at_150) ?_
      show Steps p.tables e below (T41.setTop (mkF m 151 #[.val (.long q1), .second, .val (.long q2), .second, .val (.int p3), .val (.int p4), .val (.int n), .val (.int tt), .val (.long hi), .second, .val (.long lo), .second, .val (.ref b12), .val (.ref b20), .val (.long (own_get g 0)), .second, .val (.long (own_get g 8)), .second, .unset, .unset, .unset, .unset, .val (.long (own_lm n)), .second, .unset, .unset] [(.long (1 : Int64)), (.long lo), (.long (lo &&& ((own_lm n) ^^^ (-1 : Int64))))])) _
      refine XS.ladd X41.here hx rfl (hb hby at_151) rfl ?_
      show Steps p.tables e below (T41.setTop (mkF m 152 #[.val (.long q1), .second, .val (.long q2), .second, .val (.int p3), .val (.int p4), .val (.int n), .val (.int tt), .val (.long hi), .second, .val (.long lo), .second, .val (.ref b12), .val (.ref b20), .val (.long (own_get g 0)), .second, .val (.long (own_get g 8)), .second, .unset, .unset, .unset, .unset, .val (.long (own_lm n)), .second, .unset, .unset] [(.long (lo + (1 : Int64))), (.long (lo &&& ((own_lm n) ^^^ (-1 : Int64))))])) _
      refine XS.lload X41.here hx rfl (hb hby at_152) rfl ?_
      show Steps p.tables e below (T41.setTop (mkF m 154 #[.val (.long q1), .second, .val (.long q2), .second, .val (.int p3), .val (.int p4), .val (.int n), .val (.int tt), .val (.long hi), .second, .val (.long lo), .second, .val (.ref b12), .val (.ref b20), .val (.long (own_get g 0)), .second, .val (.long (own_get g 8)), .second, .unset, .unset, .unset, .unset, .val (.long (own_lm n)), .second, .unset, .unset] [(.long (own_lm n)), (.long (lo + (1 : Int64))), (.long (lo &&& ((own_lm n) ^^^ (-1 : Int64))))])) _
      refine XS.land X41.here hx rfl (hb hby at_154) rfl ?_
      show Steps p.tables e below (T41.setTop (mkF m 155 #[.val (.long q1), .second, .val (.long q2), .second, .val (.int p3), .val (.int p4), .val (.int n), .val (.int tt), .val (.long hi), .second, .val (.long lo), .second, .val (.ref b12), .val (.ref b20), .val (.long (own_get g 0)), .second, .val (.long (own_get g 8)), .second, .unset, .unset, .unset, .unset, .val (.long (own_lm n)), .second, .unset, .unset] [(.long ((lo + (1 : Int64)) &&& (own_lm n))), (.long (lo &&& ((own_lm n) ^^^ (-1 : Int64))))])) _
      refine XS.lor X41.here hx rfl (hb hby at_155) rfl ?_
      show Steps p.tables e below (T41.setTop (mkF m 156 #[.val (.long q1), .second, .val (.long q2), .second, .val (.int p3), .val (.int p4), .val (.int n), .val (.int tt), .val (.long hi), .second, .val (.long lo), .second, .val (.ref b12), .val (.ref b20), .val (.long (own_get g 0)), .second, .val (.long (own_get g 8)), .second, .unset, .unset, .unset, .unset, .val (.long (own_lm n)), .second, .unset, .unset] [(.long ((lo &&& ((own_lm n) ^^^ (-1 : Int64))) ||| ((lo + (1 : Int64)) &&& (own_lm n))))])) _
      refine XS.lstore X41.here hx rfl (hb hby at_156) rfl (l' := #[.val (.long q1), .second, .val (.long q2), .second, .val (.int p3), .val (.int p4), .val (.int n), .val (.int tt), .val (.long hi), .second, .val (.long lo), .second, .val (.ref b12), .val (.ref b20), .val (.long (own_get g 0)), .second, .val (.long (own_get g 8)), .second, .unset, .unset, .val (.long ((lo &&& ((own_lm n) ^^^ (-1 : Int64))) ||| ((lo + (1 : Int64)) &&& (own_lm n)))), .second, .val (.long (own_lm n)), .second, .unset, .unset]) rfl ?_
      show Steps p.tables e below (T41.setTop (mkF m 158 #[.val (.long q1), .second, .val (.long q2), .second, .val (.int p3), .val (.int p4), .val (.int n), .val (.int tt), .val (.long hi), .second, .val (.long lo), .second, .val (.ref b12), .val (.ref b20), .val (.long (own_get g 0)), .second, .val (.long (own_get g 8)), .second, .unset, .unset, .val (.long ((lo &&& ((own_lm n) ^^^ (-1 : Int64))) ||| ((lo + (1 : Int64)) &&& (own_lm n)))), .second, .val (.long (own_lm n)), .second, .unset, .unset] [])) _
      refine XS.lload X41.here hx rfl (hb hby at_158) rfl ?_
      show Steps p.tables e below (T41.setTop (mkF m 160 #[.val (.long q1), .second, .val (.long q2), .second, .val (.int p3), .val (.int p4), .val (.int n), .val (.int tt), .val (.long hi), .second, .val (.long lo), .second, .val (.ref b12), .val (.ref b20), .val (.long (own_get g 0)), .second, .val (.long (own_get g 8)), .second, .unset, .unset, .val (.long ((lo &&& ((own_lm n) ^^^ (-1 : Int64))) ||| ((lo + (1 : Int64)) &&& (own_lm n)))), .second, .val (.long (own_lm n)), .second, .unset, .unset] [(.long hi)])) _
      refine XS.lstore X41.here hx rfl (hb hby at_160) rfl (l' := #[.val (.long q1), .second, .val (.long q2), .second, .val (.int p3), .val (.int p4), .val (.int n), .val (.int tt), .val (.long hi), .second, .val (.long lo), .second, .val (.ref b12), .val (.ref b20), .val (.long (own_get g 0)), .second, .val (.long (own_get g 8)), .second, .val (.long hi), .second, .val (.long ((lo &&& ((own_lm n) ^^^ (-1 : Int64))) ||| ((lo + (1 : Int64)) &&& (own_lm n)))), .second, .val (.long (own_lm n)), .second, .unset, .unset]) rfl ?_
      show Steps p.tables e below (T41.setTop (mkF m 162 #[.val (.long q1), .second, .val (.long q2), .second, .val (.int p3), .val (.int p4), .val (.int n), .val (.int tt), .val (.long hi), .second, .val (.long lo), .second, .val (.ref b12), .val (.ref b20), .val (.long (own_get g 0)), .second, .val (.long (own_get g 8)), .second, .val (.long hi), .second, .val (.long ((lo &&& ((own_lm n) ^^^ (-1 : Int64))) ||| ((lo + (1 : Int64)) &&& (own_lm n)))), .second, .val (.long (own_lm n)), .second, .unset, .unset] [])) _
      refine XS.goto X41.here hx rfl (pc0 := 162) (pc' := 217) rfl (hb hby at_162) (by decide) (by decide) ?_
      show Steps p.tables e below (T41.setTop (mkF m 217 #[.val (.long q1), .second, .val (.long q2), .second, .val (.int p3), .val (.int p4), .val (.int n), .val (.int tt), .val (.long hi), .second, .val (.long lo), .second, .val (.ref b12), .val (.ref b20), .val (.long (own_get g 0)), .second, .val (.long (own_get g 8)), .second, .val (.long hi), .second, .val (.long ((lo &&& ((own_lm n) ^^^ (-1 : Int64))) ||| ((lo + (1 : Int64)) &&& (own_lm n)))), .second, .val (.long (own_lm n)), .second, .unset, .unset] [])) _
      refine XS.lload X41.here hx rfl (hb hby at_217) rfl ?_
      show Steps p.tables e below (T41.setTop (mkF m 219 #[.val (.long q1), .second, .val (.long q2), .second, .val (.int p3), .val (.int p4), .val (.int n), .val (.int tt), .val (.long hi), .second, .val (.long lo), .second, .val (.ref b12), .val (.ref b20), .val (.long (own_get g 0)), .second, .val (.long (own_get g 8)), .second, .val (.long hi), .second, .val (.long ((lo &&& ((own_lm n) ^^^ (-1 : Int64))) ||| ((lo + (1 : Int64)) &&& (own_lm n)))), .second, .val (.long (own_lm n)), .second, .unset, .unset] [(.long (own_get g 0))])) _
      refine XS.lload X41.here hx rfl (hb hby at_219) rfl ?_
      show Steps p.tables e below (T41.setTop (mkF m 221 #[.val (.long q1), .second, .val (.long q2), .second, .val (.int p3), .val (.int p4), .val (.int n), .val (.int tt), .val (.long hi), .second, .val (.long lo), .second, .val (.ref b12), .val (.ref b20), .val (.long (own_get g 0)), .second, .val (.long (own_get g 8)), .second, .val (.long hi), .second, .val (.long ((lo &&& ((own_lm n) ^^^ (-1 : Int64))) ||| ((lo + (1 : Int64)) &&& (own_lm n)))), .second, .val (.long (own_lm n)), .second, .unset, .unset] [(.long hi), (.long (own_get g 0))])) _
      refine XS.lcmp X41.here hx rfl (hb hby at_221) rfl ?_
      show Steps p.tables e below (T41.setTop (mkF m 222 #[.val (.long q1), .second, .val (.long q2), .second, .val (.int p3), .val (.int p4), .val (.int n), .val (.int tt), .val (.long hi), .second, .val (.long lo), .second, .val (.ref b12), .val (.ref b20), .val (.long (own_get g 0)), .second, .val (.long (own_get g 8)), .second, .val (.long hi), .second, .val (.long ((lo &&& ((own_lm n) ^^^ (-1 : Int64))) ||| ((lo + (1 : Int64)) &&& (own_lm n)))), .second, .val (.long (own_lm n)), .second, .unset, .unset] [(.int (lcmpW (own_get g 0) hi))])) _
      refine XS.ifNo X41.here hx rfl (hb hby at_222) rfl ((if0 _ _).trans (teq ((lw_eq _ _).mpr r1)).2) ?_
      show Steps p.tables e below (T41.setTop (mkF m 225 #[.val (.long q1), .second, .val (.long q2), .second, .val (.int p3), .val (.int p4), .val (.int n), .val (.int tt), .val (.long hi), .second, .val (.long lo), .second, .val (.ref b12), .val (.ref b20), .val (.long (own_get g 0)), .second, .val (.long (own_get g 8)), .second, .val (.long hi), .second, .val (.long ((lo &&& ((own_lm n) ^^^ (-1 : Int64))) ||| ((lo + (1 : Int64)) &&& (own_lm n)))), .second, .val (.long (own_lm n)), .second, .unset, .unset] [])) _
      refine XS.lload X41.here hx rfl (hb hby at_225) rfl ?_
      show Steps p.tables e below (T41.setTop (mkF m 227 #[.val (.long q1), .second, .val (.long q2), .second, .val (.int p3), .val (.int p4), .val (.int n), .val (.int tt), .val (.long hi), .second, .val (.long lo), .second, .val (.ref b12), .val (.ref b20), .val (.long (own_get g 0)), .second, .val (.long (own_get g 8)), .second, .val (.long hi), .second, .val (.long ((lo &&& ((own_lm n) ^^^ (-1 : Int64))) ||| ((lo + (1 : Int64)) &&& (own_lm n)))), .second, .val (.long (own_lm n)), .second, .unset, .unset] [(.long (own_get g 8))])) _
      refine XS.lload X41.here hx rfl (hb hby at_227) rfl ?_
      show Steps p.tables e below (T41.setTop (mkF m 229 #[.val (.long q1), .second, .val (.long q2), .second, .val (.int p3), .val (.int p4), .val (.int n), .val (.int tt), .val (.long hi), .second, .val (.long lo), .second, .val (.ref b12), .val (.ref b20), .val (.long (own_get g 0)), .second, .val (.long (own_get g 8)), .second, .val (.long hi), .second, .val (.long ((lo &&& ((own_lm n) ^^^ (-1 : Int64))) ||| ((lo + (1 : Int64)) &&& (own_lm n)))), .second, .val (.long (own_lm n)), .second, .unset, .unset] [(.long ((lo &&& ((own_lm n) ^^^ (-1 : Int64))) ||| ((lo + (1 : Int64)) &&& (own_lm n)))), (.long (own_get g 8))])) _
      refine XS.lcmp X41.here hx rfl (hb hby at_229) rfl ?_
      show Steps p.tables e below (T41.setTop (mkF m 230 #[.val (.long q1), .second, .val (.long q2), .second, .val (.int p3), .val (.int p4), .val (.int n), .val (.int tt), .val (.long hi), .second, .val (.long lo), .second, .val (.ref b12), .val (.ref b20), .val (.long (own_get g 0)), .second, .val (.long (own_get g 8)), .second, .val (.long hi), .second, .val (.long ((lo &&& ((own_lm n) ^^^ (-1 : Int64))) ||| ((lo + (1 : Int64)) &&& (own_lm n)))), .second, .val (.long (own_lm n)), .second, .unset, .unset] [(.int (lcmpW (own_get g 8) ((lo &&& ((own_lm n) ^^^ (-1 : Int64))) ||| ((lo + (1 : Int64)) &&& (own_lm n)))))])) _
      refine XS.ifNo X41.here hx rfl (hb hby at_230) rfl ((if0 _ _).trans (teq ((lw_eq _ _).mpr r2)).2) ?_
      show Steps p.tables e below (T41.setTop (mkF m 233 #[.val (.long q1), .second, .val (.long q2), .second, .val (.int p3), .val (.int p4), .val (.int n), .val (.int tt), .val (.long hi), .second, .val (.long lo), .second, .val (.ref b12), .val (.ref b20), .val (.long (own_get g 0)), .second, .val (.long (own_get g 8)), .second, .val (.long hi), .second, .val (.long ((lo &&& ((own_lm n) ^^^ (-1 : Int64))) ||| ((lo + (1 : Int64)) &&& (own_lm n)))), .second, .val (.long (own_lm n)), .second, .unset, .unset] [])) _
      refine XS.iconst X41.here hx rfl (hb hby at_233) ?_
      show Steps p.tables e below (T41.setTop (mkF m 234 #[.val (.long q1), .second, .val (.long q2), .second, .val (.int p3), .val (.int p4), .val (.int n), .val (.int tt), .val (.long hi), .second, .val (.long lo), .second, .val (.ref b12), .val (.ref b20), .val (.long (own_get g 0)), .second, .val (.long (own_get g 8)), .second, .val (.long hi), .second, .val (.long ((lo &&& ((own_lm n) ^^^ (-1 : Int64))) ||| ((lo + (1 : Int64)) &&& (own_lm n)))), .second, .val (.long (own_lm n)), .second, .unset, .unset] [(.int (1 : Int32))])) _
      refine XS.goto X41.here hx rfl (pc0 := 234) (pc' := 238) rfl (hb hby at_234) (by decide) (by decide) ?_
      exact kt)
    obtain ⟨fs, hr, hrun, hended, hW, hsame⟩ := X41.leave (v := some (.int (1 : Int32))) (fun h => by rw [Bd.returns] at h; cases h)
    refine ⟨_, _, pre43 _ ?_, hrun, hended, _, _, rfl, ?_, ⟨_, rfl⟩, hW, hsame.mono (by decide) (by decide)⟩
    · show Steps p.tables e below (T41.setTop (mkF m 238 #[.val (.long q1), .second, .val (.long q2), .second, .val (.int p3), .val (.int p4), .val (.int n), .val (.int tt), .val (.long hi), .second, .val (.long lo), .second, .val (.ref b12), .val (.ref b20), .val (.long (own_get g 0)), .second, .val (.long (own_get g 8)), .second, .val (.long hi), .second, .val (.long ((lo &&& ((own_lm n) ^^^ (-1 : Int64))) ||| ((lo + (1 : Int64)) &&& (own_lm n)))), .second, .val (.long (own_lm n)), .second, .unset, .unset] [(.int (1 : Int32))])) _
      exact retN X41 hx (t := .boolean) Bd.returns (by simp) (hb hby at_238) hr
    · show Q0 Z q1 q2 p3 p4 h0 n0 _ T41.heap _
      rw [e41]
      exact ⟨rfl, N41⟩
set_option maxRecDepth 65536 in
set_option maxHeartbeats 40000000 in
theorem comes_1 {Post : Tables → Env → Array Value → State → Outcome → State → Prop} (hpost : ∀ tb e args s v u, (limb_1_1.after args s (.returned v) u = true ∧ limb_1_2.after args s (.returned v) u = true ∧ True) → FrameEnd s (.returned v) u (Jvm.fieldLocs frame_1_writes args s ++ Jvm.arrayLocs frame_1_arrays args s ++ Jvm.staticLocs frame_1_statics s) 16 1216 → Post tb e args s (.returned v) u) :
    ArmFor flags0 classFile x code maxLocals ret World_1 tables_1 room_1 Calls_1 rest_1 Pre_1 Post := by
  intro l hfl _ _ p e ha hc hk s m args below hf hA hF happ hP
  obtain ⟨hcalls, hrest, hpre⟩ := hP
  obtain ⟨-, -, -, hnamed, -, -, -, hat⟩ := (Spec.applies_iff hf).mp happ
  obtain ⟨hg, hn⟩ := and_e (Cond.before_iff.mp (show (Jvm.Cond.and given_1 narrow_1).before args s = true from hpre))
  obtain ⟨hcnt, g0⟩ := and_e hg
  obtain ⟨ha0, g1⟩ := and_e g0
  obtain ⟨ha1, g2⟩ := and_e g1
  obtain ⟨ha2, g3⟩ := and_e g2
  obtain ⟨w0, w1, w2, w3, rfl⟩ : ∃ w0 w1 w2 w3 : Value, args = #[w0, w1, w2, w3] := by
    have hs : args.size = 4 := by simpa [Cond.value, given_1] using hcnt
    obtain ⟨L⟩ := args
    match L, hs with
    | [w0, w1, w2, w3], _ => exact ⟨w0, w1, w2, w3, rfl⟩
  have hw := fun d (hd : d ∈ tables_1) => atoms_spec (ws := Jvm.Cond.code x code maxLocals ret :: tables_1) hat d (List.mem_cons_of_mem _ hd)
  obtain ⟨i0, ei0⟩ := isL_v ha0
  obtain rfl : w0 = (.long i0) := Option.some.inj ei0
  obtain ⟨i1, ei1⟩ := isL_v ha1
  obtain rfl : w1 = (.long i1) := Option.some.inj ei1
  obtain ⟨i2, ei2⟩ := is_v ha2
  obtain rfl : w2 = (.int i2) := Option.some.inj ei2
  obtain ⟨i3, ei3⟩ := is_v g3
  obtain rfl : w3 = (.int i3) := Option.some.inj ei3
  obtain ⟨n, o, h1, h2, h3, _, L, rfl, ⟨rfl, N⟩, hq⟩ := rm0 l s _ hw tables_1 i0 i1 i2 i3 s.heap s.heap.size (Nat.le_refl _)  p e ha hc hk s m _ below hf ((Spec.applies_iff_loose hf).mp happ).1 ⟨rfl, State.Warmed39.refl s, rfl⟩ trivial
  refine ⟨n, _, h1, h2, h3, hpost _ _ _ _ _ _ ⟨Cond.after_iff.mpr rfl, Cond.after_iff.mpr (eq_i res_at (Term.int_eval (1)) rfl), trivial⟩ ⟨hq.1, hq.2.1, (hq.2.2.sift fun y hy => Or.inr (N y hy)).mono (by decide) (by decide)⟩⟩
theorem main_1_1 : Claimed_1_1 := comes_1 fun _ _ _ _ _ _ h hF => ⟨h.1, hF⟩
theorem main_1_2 : Claimed_1_2 := comes_1 fun _ _ _ _ _ _ h hF => ⟨h.2.1, hF⟩
end Jvm.Pilot.@@N@@
namespace Jvm.Pilot.@@N@@
open Jvm Jvm.ClassFile Sem Op Lib Jvm.Free Jvm.Stand Jvm.Pilot.@@N@@.Jvm.D
/-! MADE BY PROGRAM (witnessworld.py) out of the Statement's table words and the real class files: 9 classes; the members and pool entries that the words name. The judged class is class 1, her method 4. -/
namespace start1
open Jvm.ClassFile
def u (s : String) : CpInfo := .utf8 (stringToUtf16 s)
/-- a pool by its gaps: so many unusable entries, then the entry; so many at the end -/
def gap : Nat → List CpInfo → List CpInfo
  | 0, r => r
  | n + 1, r => .unusable :: gap n r
def poolList (es : List (Nat × CpInfo)) (last : Nat) : List CpInfo := es.foldr (fun e r => gap e.1 (e.2 :: r)) (gap last [])
def pool (es : List (Nat × CpInfo)) (last : Nat) : Array CpInfo := ⟨poolList es last⟩
def fileOf (pool : Array CpInfo) (this : Nat) (attrs : Array Attribute := #[]) (ms : Array MethodInfo := #[]) (fl : Nat := 33) (sup : Nat := 0) (ifs : Array Nat := #[]) (fds : Array FieldInfo := #[]) : ClassFile where
  minorVersion := 0
  majorVersion := 65
  constantPool := pool
  accessFlags := fl
  thisClass := this
  superClass := sup
  interfaces := ifs
  fields := fds
  methods := ms
  attributes := attrs
def plain (name : String) (sup : Option ClassId) : Class where
  name := name
  kind := .ordinary
  loader := none
  accessFlags := 33
  super := sup
  interfaces := #[]
  cf := none
  fields := #[]
  methods := #[]
  instanceTypes := #[]
  staticTypes := #[]
  resolved := #[]
  callSites := []
  init := .initialized
  statics := none
  mirror := none

def pool0 : Array CpInfo := pool [(5, u "<init>"), (0, u "()V"), (1, .class_ 10), (1, u "java/lang/Object")] 113

def k0c0 : Code := { maxStack := 0, maxLocals := 1, code := object_method_1_code, exceptionTable := #[], attributes := #[] }
def k0m0 : Method := { name := "<init>", desc := "()V", sig := { parameters := [], returnType := none }, accessFlags := 1, code := some k0c0 }
/-- java/lang/Object -/
def k0 : Class := { plain "java/lang/Object" none with
  accessFlags := 33
  interfaces := #[]
  cf := some (fileOf pool0 8 #[] #[{ accessFlags := 1, nameIndex := 5, descriptorIndex := 6, attributes := #[] }] 33 0 #[] #[])
  fields := #[]
  methods := #[k0m0]
  instanceTypes := #[]
  staticTypes := #[]
  resolved := Array.replicate 124 none
  statics := none }

def pool1 : Array CpInfo := pool [(2, .class_ 4), (1, u "java/lang/Object"), (0, u "<init>"), (0, u "()V"), (0, .long 18446744073709551615), (1, .methodref 10 11), (0, .class_ 12), (0, .nameAndType 13 14), (0, u "saltgrove/aes/CounterKeystreamIncrementPinLaw"), (0, u "lowMask"), (0, u "(I)J"), (0, .methodref 10 16), (0, .nameAndType 17 18), (0, u "put"), (0, u "([BIJ)V"), (0, .class_ 20), (0, u "saltgrove/aes/CounterKeystream"), (0, .methodref 19 22), (0, .nameAndType 5 23), (0, u "(I)V"), (0, .methodref 19 25), (0, .nameAndType 26 27), (0, u "increment"), (0, u "([B)V"), (0, .methodref 10 29), (0, .nameAndType 30 31), (0, u "get"), (0, u "([BI)J"), (3, u "law"), (0, u "(JJII)Z")] 4

def k1m0 : Method := { name := "<init>", desc := "()V", sig := { parameters := [], returnType := none }, accessFlags := 2, code := none }
def k1c1 : Code := { maxStack := 4, maxLocals := 1, code := method_2_code, exceptionTable := #[], attributes := #[] }
def k1m1 : Method := { name := "lowMask", desc := "(I)J", sig := { parameters := [.int], returnType := some .long }, accessFlags := 10, code := some k1c1 }
def k1c2 : Code := { maxStack := 5, maxLocals := 4, code := method_3_code, exceptionTable := #[], attributes := #[] }
def k1m2 : Method := { name := "put", desc := "([BIJ)V", sig := { parameters := [(.array .byte), .int, .long], returnType := none }, accessFlags := 10, code := some k1c2 }
def k1c3 : Code := { maxStack := 5, maxLocals := 2, code := method_4_code, exceptionTable := #[], attributes := #[] }
def k1m3 : Method := { name := "get", desc := "([BI)J", sig := { parameters := [(.array .byte), .int], returnType := some .long }, accessFlags := 10, code := some k1c3 }
def k1c4 : Code := { maxStack := 6, maxLocals := 26, code := code, exceptionTable := #[], attributes := #[] }
def k1m4 : Method := { name := "law", desc := "(JJII)Z", sig := { parameters := [.long, .long, .int, .int], returnType := some .boolean }, accessFlags := 9, code := some k1c4 }
/-- saltgrove/aes/CounterKeystreamIncrementPinLaw -/
def k1 : Class := { plain "saltgrove/aes/CounterKeystreamIncrementPinLaw" (some 0) with
  accessFlags := 49
  interfaces := #[]
  cf := some (fileOf pool1 10 #[] #[{ accessFlags := 2, nameIndex := 5, descriptorIndex := 6, attributes := #[] }, { accessFlags := 10, nameIndex := 13, descriptorIndex := 14, attributes := #[] }, { accessFlags := 10, nameIndex := 17, descriptorIndex := 18, attributes := #[] }, { accessFlags := 10, nameIndex := 30, descriptorIndex := 31, attributes := #[] }, { accessFlags := 9, nameIndex := 35, descriptorIndex := 36, attributes := #[] }] 49 2 #[] #[])
  fields := #[]
  methods := #[k1m0, k1m1, k1m2, k1m3, k1m4]
  instanceTypes := #[]
  staticTypes := #[]
  resolved := Array.replicate 41 none
  statics := none }

def pool2 : Array CpInfo := pool [(3, .methodref 4 5), (0, .class_ 6), (0, .nameAndType 7 8), (0, u "java/lang/Object"), (0, u "<init>"), (0, u "()V"), (0, .class_ 10), (0, u "saltgrove/aes/CounterKeystream"), (0, .fieldref 9 12), (0, .nameAndType 13 14), (0, u "counter"), (0, u "[B"), (0, .fieldref 9 16), (0, .nameAndType 17 14), (0, u "keystream"), (9, .fieldref 9 28), (0, .nameAndType 29 30), (0, u "counterBytes"), (0, u "I"), (2, u "aes"), (0, u "Lsaltgrove/aes/Aes;"), (11, u "used"), (2, u "length"), (3, u "(I)V"), (25, u "increment"), (0, u "([B)V"), (4, u "BLOCKS"), (2, u "BLOCK_SIZE")] 24

def k2c0 : Code := { maxStack := 3, maxLocals := 2, code := prog_11_method_1_code, exceptionTable := #[], attributes := #[] }
def k2m0 : Method := { name := "<init>", desc := "(I)V", sig := { parameters := [.int], returnType := none }, accessFlags := 1, code := some k2c0 }
def k2c1 : Code := { maxStack := 3, maxLocals := 4, code := prog_11_method_5_code, exceptionTable := #[], attributes := #[] }
def k2m1 : Method := { name := "increment", desc := "([B)V", sig := { parameters := [(.array .byte)], returnType := none }, accessFlags := 1, code := some k2c1 }
/-- saltgrove/aes/CounterKeystream -/
def k2 : Class := { plain "saltgrove/aes/CounterKeystream" (some 0) with
  accessFlags := 49
  interfaces := #[]
  cf := some (fileOf pool2 9 #[] #[{ accessFlags := 1, nameIndex := 7, descriptorIndex := 53, attributes := #[] }, { accessFlags := 1, nameIndex := 79, descriptorIndex := 80, attributes := #[] }] 49 4 #[] #[{ accessFlags := 26, nameIndex := 85, descriptorIndex := 30, attributes := #[] }, { accessFlags := 26, nameIndex := 88, descriptorIndex := 30, attributes := #[] }, { accessFlags := 18, nameIndex := 29, descriptorIndex := 30, attributes := #[] }, { accessFlags := 18, nameIndex := 13, descriptorIndex := 14, attributes := #[] }, { accessFlags := 18, nameIndex := 17, descriptorIndex := 14, attributes := #[] }, { accessFlags := 2, nameIndex := 46, descriptorIndex := 30, attributes := #[] }, { accessFlags := 2, nameIndex := 49, descriptorIndex := 30, attributes := #[] }, { accessFlags := 2, nameIndex := 33, descriptorIndex := 34, attributes := #[] }])
  fields := #[{ name := "BLOCKS", type := .int, accessFlags := 26, slot := 0, constantValue := 0 }, { name := "BLOCK_SIZE", type := .int, accessFlags := 26, slot := 1, constantValue := 0 }, { name := "counterBytes", type := .int, accessFlags := 18, slot := 0, constantValue := 0 }, { name := "counter", type := (.array .byte), accessFlags := 18, slot := 1, constantValue := 0 }, { name := "keystream", type := (.array .byte), accessFlags := 18, slot := 2, constantValue := 0 }, { name := "used", type := .int, accessFlags := 2, slot := 3, constantValue := 0 }, { name := "length", type := .int, accessFlags := 2, slot := 4, constantValue := 0 }, { name := "aes", type := (.object "saltgrove/aes/Aes"), accessFlags := 2, slot := 5, constantValue := 0 }]
  methods := #[k2m0, k2m1]
  instanceTypes := #[.int, (.array .byte), (.array .byte), .int, .int, (.object "saltgrove/aes/Aes")]
  staticTypes := #[.int, .int]
  resolved := Array.replicate 113 none
  statics := none }

def pool3 : Array CpInfo := pool [(1, u "java/lang/Cloneable"), (0, .class_ 1), (0, u "java/lang/Object"), (0, .class_ 3)] 3

/-- java/lang/Cloneable -/
def k3 : Class := { plain "java/lang/Cloneable" (some 0) with
  accessFlags := 1537
  interfaces := #[]
  cf := some (fileOf pool3 2 #[] #[] 1537 4 #[] #[])
  fields := #[]
  methods := #[]
  instanceTypes := #[]
  staticTypes := #[]
  resolved := Array.replicate 8 none
  statics := none }

def pool4 : Array CpInfo := pool [(1, u "java/io/Serializable"), (0, .class_ 1), (0, u "java/lang/Object"), (0, .class_ 3)] 3

/-- java/io/Serializable -/
def k4 : Class := { plain "java/io/Serializable" (some 0) with
  accessFlags := 1537
  interfaces := #[]
  cf := some (fileOf pool4 2 #[] #[] 1537 4 #[] #[])
  fields := #[]
  methods := #[]
  instanceTypes := #[]
  staticTypes := #[]
  resolved := Array.replicate 8 none
  statics := none }

/-- the primitive byte -/
def k5 : Class := { plain "byte" none with kind := .primitive 'B', accessFlags := 0x411 }
/-- [B -/
def k6 : Class := { plain "[B" (some 0) with kind := .array 5 .byte, interfaces := #[3, 4], accessFlags := 1041 }

/-- the primitive int -/
def k7 : Class := { plain "int" none with kind := .primitive 'I', accessFlags := 0x411 }
/-- [I -/
def k8 : Class := { plain "[I" (some 0) with kind := .array 7 .int, interfaces := #[3, 4], accessFlags := 1041 }

def heap : Heap := #[]
def classes : Array Class := #[k0, k1, k2, k3, k4, k5, k6, k7, k8]
def interned : List (Array UInt16 × Addr) := []
def slotsUsed : Nat := 0
def theMethod : MethodId := ⟨1, 4⟩
def args0 : Array Value := #[.long 5, .long 6, .int 3, .int 7]
def aboutOver (below : List Frame) : State where
  vm := { classes := classes, interned := interned.toArray }
  heap := heap
  slotsUsed := slotsUsed
  threads := #[{ frames := .invoking theMethod args0 :: below }]
def below0 : List Frame := [.native { method := ⟨0, 0⟩, args := #[] }]
def about1 : State := aboutOver below0
def p0 : Program := .bare "" "" ""
def e0 : Env := launch0.env 0 0 0
theorem w_frames : about1.frames = Frame.invoking theMethod args0 :: below0 := rfl
set_option maxRecDepth 65536 in
theorem w_args : argsFit about1.vm theMethod args0 = true := by decide +kernel
set_option maxRecDepth 65536 in
theorem w_heap : heapFits about1 = true := by decide +kernel
set_option maxRecDepth 65536 in
theorem w_runnable : about1.curStatus? = some .runnable := by decide +kernel
set_option maxRecDepth 65536 in
theorem w_alone : about1.alone = true := by decide +kernel
set_option maxRecDepth 65536 in
theorem w_named : about1.methodNamed? x = some theMethod := by decide +kernel
set_option maxRecDepth 65536 in
theorem w_hears : about1.hears theMethod below0 = true := by decide +kernel
set_option maxRecDepth 65536 in
theorem w_ripe : about1.ripe theMethod args0 below0 = true := by decide +kernel
theorem w_running : about1.status = .running := rfl
set_option maxRecDepth 65536 in
theorem w_room : about1.hasRoom e0.platform room_1 = true :=
  launch0.hasRoom_least _ room_1 (by decide +kernel) (by decide +kernel) (by decide +kernel) (by decide +kernel) (by decide +kernel) (by decide +kernel)
theorem allAtoms_all (ts : List Jvm.Cond) (a : Array Jvm.Value) (st : Jvm.State) : (allAtoms ts).before a st = ts.all (fun c => c.before a st) := by
  induction ts with
  | nil => rfl
  | cons c t ih =>
    show (Jvm.Cond.and c (allAtoms t)).before a st = _
    rw [Jvm.Cond.before_and, ih, List.all_cons]
def words1 : List Jvm.Cond := Jvm.Cond.code x code maxLocals ret :: tables_1
/-- a 'code' word, met by the world's own term for the bytes: nothing is compared byte by byte -/
theorem code_word {y : MethodName} {bytes : ByteArray} {mx : Nat} {rt : Option FieldType} {a : Array Value} {s : State} {m : MethodId} {meth : Method} {c : Code} (h1 : s.methodNamed? y = some m) (h2 : s.vm.method? m = some meth) (h3 : meth.code = some c) (h4 : c.code = bytes)
    (h5 : (c.maxLocals == mx && c.exceptionTable.isEmpty && decide (c.maxStack ≤ mostOperands) && decide (meth.sig.returnType = rt) && !meth.locks && decide (parseMethodDescriptor y.desc = some meth.sig)) = true) : (Jvm.Cond.code y bytes mx rt).before a s = true := by
  simp only [Bool.and_eq_true, beq_iff_eq, Bool.not_eq_true', decide_eq_true_eq] at h5
  obtain ⟨⟨⟨⟨⟨g1, g2⟩, g3⟩, g4⟩, g5⟩, g6⟩ := h5
  simp [Cond.before, Cond.holds, Cond.value, h1, h2, h3, h4, g1, g2, g3, g4, g5, g6]
def isCode : Jvm.Cond → Bool
  | .code _ _ _ _ => true
  | _ => false
theorem all_split {L : List Jvm.Cond} {P : Jvm.Cond → Bool} (h1 : L.all (fun c => isCode c || P c) = true) (h2 : ∀ c ∈ L.filter isCode, P c = true) : L.all P = true := by
  refine List.all_eq_true.mpr fun c hc => ?_
  have h := List.all_eq_true.mp h1 c hc
  rcases Bool.eq_false_or_eq_true (isCode c) with hi | hi
  · exact h2 c (List.mem_filter.mpr ⟨hc, hi⟩)
  · simpa [hi] using h
set_option maxRecDepth 65536 in
theorem w_c0 : (Jvm.Cond.code x code maxLocals ret).before args0 about1 = true := code_word (m := ⟨1, 4⟩) (meth := k1m4) (c := k1c4) (by decide +kernel) rfl rfl rfl (by decide +kernel)
set_option maxRecDepth 65536 in
theorem w_c1 : (Jvm.Cond.code ({ cls := "saltgrove/aes/CounterKeystreamIncrementPinLaw", name := "lowMask", desc := "(I)J" } : Jvm.MethodName) method_2_code (1 : Nat) (Option.some Jvm.ClassFile.FieldType.long)).before args0 about1 = true := code_word (m := ⟨1, 1⟩) (meth := k1m1) (c := k1c1) (by decide +kernel) rfl rfl rfl (by decide +kernel)
set_option maxRecDepth 65536 in
theorem w_c2 : (Jvm.Cond.code ({ cls := "saltgrove/aes/CounterKeystreamIncrementPinLaw", name := "put", desc := "([BIJ)V" } : Jvm.MethodName) method_3_code (4 : Nat) (Option.none : Option Jvm.ClassFile.FieldType)).before args0 about1 = true := code_word (m := ⟨1, 2⟩) (meth := k1m2) (c := k1c2) (by decide +kernel) rfl rfl rfl (by decide +kernel)
set_option maxRecDepth 65536 in
theorem w_c3 : (Jvm.Cond.code ({ cls := "saltgrove/aes/CounterKeystream", name := "<init>", desc := "(I)V" } : Jvm.MethodName) prog_11_method_1_code (2 : Nat) (Option.none : Option Jvm.ClassFile.FieldType)).before args0 about1 = true := code_word (m := ⟨2, 0⟩) (meth := k2m0) (c := k2c0) (by decide +kernel) rfl rfl rfl (by decide +kernel)
set_option maxRecDepth 65536 in
theorem w_c4 : (Jvm.Cond.code ({ cls := "java/lang/Object", name := "<init>", desc := "()V" } : Jvm.MethodName) object_method_1_code (1 : Nat) (Option.none : Option Jvm.ClassFile.FieldType)).before args0 about1 = true := code_word (m := ⟨0, 0⟩) (meth := k0m0) (c := k0c0) (by decide +kernel) rfl rfl rfl (by decide +kernel)
set_option maxRecDepth 65536 in
theorem w_c5 : (Jvm.Cond.code ({ cls := "saltgrove/aes/CounterKeystream", name := "increment", desc := "([B)V" } : Jvm.MethodName) prog_11_method_5_code (4 : Nat) (Option.none : Option Jvm.ClassFile.FieldType)).before args0 about1 = true := code_word (m := ⟨2, 1⟩) (meth := k2m1) (c := k2c1) (by decide +kernel) rfl rfl rfl (by decide +kernel)
set_option maxRecDepth 65536 in
theorem w_c6 : (Jvm.Cond.code ({ cls := "saltgrove/aes/CounterKeystreamIncrementPinLaw", name := "get", desc := "([BI)J" } : Jvm.MethodName) method_4_code (2 : Nat) (Option.some Jvm.ClassFile.FieldType.long)).before args0 about1 = true := code_word (m := ⟨1, 3⟩) (meth := k1m3) (c := k1c3) (by decide +kernel) rfl rfl rfl (by decide +kernel)
def codes1 : List Jvm.Cond := [Jvm.Cond.code x code maxLocals ret, Jvm.Cond.code ({ cls := "saltgrove/aes/CounterKeystreamIncrementPinLaw", name := "lowMask", desc := "(I)J" } : Jvm.MethodName) method_2_code (1 : Nat) (Option.some Jvm.ClassFile.FieldType.long), Jvm.Cond.code ({ cls := "saltgrove/aes/CounterKeystreamIncrementPinLaw", name := "put", desc := "([BIJ)V" } : Jvm.MethodName) method_3_code (4 : Nat) (Option.none : Option Jvm.ClassFile.FieldType), Jvm.Cond.code ({ cls := "saltgrove/aes/CounterKeystream", name := "<init>", desc := "(I)V" } : Jvm.MethodName) prog_11_method_1_code (2 : Nat) (Option.none : Option Jvm.ClassFile.FieldType), Jvm.Cond.code ({ cls := "java/lang/Object", name := "<init>", desc := "()V" } : Jvm.MethodName) object_method_1_code (1 : Nat) (Option.none : Option Jvm.ClassFile.FieldType), Jvm.Cond.code ({ cls := "saltgrove/aes/CounterKeystream", name := "increment", desc := "([B)V" } : Jvm.MethodName) prog_11_method_5_code (4 : Nat) (Option.none : Option Jvm.ClassFile.FieldType), Jvm.Cond.code ({ cls := "saltgrove/aes/CounterKeystreamIncrementPinLaw", name := "get", desc := "([BI)J" } : Jvm.MethodName) method_4_code (2 : Nat) (Option.some Jvm.ClassFile.FieldType.long)]
set_option maxRecDepth 65536 in
theorem codes_eq : words1.filter isCode = codes1 := rfl
theorem w_codes : ∀ c ∈ words1.filter isCode, c.before args0 about1 = true := by
  rw [codes_eq]
  intro c hc
  simp only [codes1, List.mem_cons, List.not_mem_nil, or_false] at hc
  rcases hc with rfl | rfl | rfl | rfl | rfl | rfl | rfl
  · exact w_c0
  · exact w_c1
  · exact w_c2
  · exact w_c3
  · exact w_c4
  · exact w_c5
  · exact w_c6
set_option maxRecDepth 65536 in
theorem w_t1 : (words1.take 24).all (fun c => isCode c || c.before args0 about1) = true := by decide +kernel
set_option maxRecDepth 65536 in
theorem w_t2 : (words1.drop 24).all (fun c => isCode c || c.before args0 about1) = true := by decide +kernel
theorem w_tables : (allAtoms (Jvm.Cond.code x code maxLocals ret :: tables_1)).before args0 about1 = true := by
  rw [allAtoms_all]
  show words1.all (fun c => c.before args0 about1) = true
  refine all_split ?_ w_codes
  rw [← List.take_append_drop 24 words1, List.all_append, w_t1, w_t2]
  rfl
set_option maxRecDepth 65536 in
theorem w_case : (Jvm.Cond.and given_1 narrow_1).before args0 about1 = true := by decide +kernel
theorem w_applies : (headSpec (Jvm.Cond.code x code maxLocals ret :: tables_1) room_1).applies x e0.platform about1 = true :=
  (Spec.applies_iff w_frames).mpr ⟨w_running, w_runnable, w_alone, w_named, w_hears, w_ripe, w_room, w_tables⟩
theorem atStart : AtStart classFile x code maxLocals ret World_1 tables_1 room_1 Calls_1 rest_1 Pre_1 launch0 p0 e0 about1 theMethod args0 below0 :=
  ⟨lists_1, trivial, launch0.admits_env _ _ _, launch0.least_env, fairChoices_fair.cas, fairChoices_fair.clock, w_frames, w_args, w_heap, w_applies, trivial, trivial, w_case⟩
end start1
theorem witness_1 : WitnessClaimed_1 := ⟨start1.p0, start1.e0, start1.about1, start1.theMethod, start1.args0, start1.below0, start1.atStart⟩
end Jvm.Pilot.@@N@@
